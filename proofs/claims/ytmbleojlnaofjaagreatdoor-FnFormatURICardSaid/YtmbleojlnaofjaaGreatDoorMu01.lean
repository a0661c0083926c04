/- Own texts, merged: D, Y, O, O2, O3, O4, O5, O6, O7, FX, O8, V, RK, JS. -/
import Derived.Test.YtmbleojlnaofjaaGreatDoorRows
import Derived.WalkKit
import Derived.Deep.Quiet
import Derived.Deep.LoopGhost
import Derived.StillTail
import Derived.Laws.FloatArith
import Derived.Laws.MakeOwn
import Derived.Deep.OwnRows
import Derived.Laws.Slices
import Derived.Laws.Strings2
import Derived.Stop.Asserts
import Derived.Laws.IdiomStrings
import Derived.Laws.Cover4
import Derived.Great.BuildSlice
import Derived.Laws.AppendOwn
import Derived.Maps.RangeRun
import Derived.OrdersHeld
import Derived.Deep.RegionHeld3
import Derived.Lib.AppendStr
import Derived.Laws.Externs
import Derived.Laws.Cover2
import Derived.Lib.ValidU
import Derived.Shelf.Unicode.DecodeSlow
/- A small calculus for walks: environments are functions from slots to values, each operation has one law, a loop has one law; nothing of a program stands in it. -/
namespace Go.Proofs.YtmbleojlnaofjaaGreatDoor.D
open Go Go.RowKit
set_option linter.unusedVariables false
set_option linter.unusedSectionVars false

/-! ### Environments -/
abbrev Env := Nat → Value
def upd (e : Env) (d : Nat) (v : Value) : Env := fun t => cond (Nat.beq t d) v (e t)
def put (e : Env) : Option Nat → Value → Env
 | some d, v => upd e d v
 | none, _ => e
def ev (e : Env) : Operand → Value
 | .tmp t => e t
 | .const v => v
 | .global g => .pointer (some ⟨g, 0, none⟩)
 | .func f => .func (.func f) #[] #[]
def inR : List (Nat × Nat) → Nat → Bool
 | [], _ => false
 | (lo, hi) :: r, t => cond (Nat.ble lo t) (cond (Nat.ble t hi) true (inR r t)) (inR r t)
def mix (W : List (Nat × Nat)) (j e : Env) : Env := fun t => cond (inR W t) (j t) (e t)
def updL (e : Env) : List (Nat × Value) → Env
 | [] => e
 | p :: r => upd (updL e r) p.1 p.2
def AllEq (e : Env) : List (Nat × Value) → Prop
 | [] => True
 | [p] => e p.1 = p.2
 | p :: q :: r => e p.1 = p.2 ∧ AllEq e (q :: r)
def nthV : List Value → Nat → Value
 | [], _ => undef
 | v :: _, 0 => v
 | _ :: r, t + 1 => nthV r t

theorem upd_same (e : Env) (d : Nat) (v : Value) : upd e d v d = v := by simp [upd]
theorem upd_ne (e : Env) {d t : Nat} (v : Value) (h : t ≠ d) : upd e d v t = e t := by
 have : Nat.beq t d = false := by rw [← Bool.not_eq_true]; intro h'; exact h (Nat.eq_of_beq_eq_true h')
 simp [upd, this]
theorem AllEq.mem {e : Env} : ∀ {l : List (Nat × Value)}, AllEq e l → ∀ p ∈ l, e p.1 = p.2
 | [], _, p, h => by cases h
 | [q], h, p, hp => by rcases List.mem_cons.1 hp with rfl | h'; exact h; cases h'
 | q :: q' :: r, h, p, hp => by
  rcases List.mem_cons.1 hp with rfl | h'
  ·exact h.1
  ·exact AllEq.mem h.2 p h'
theorem updL_same {e : Env} : ∀ {l : List (Nat × Value)}, AllEq e l → updL e l = e
 | [], _ => rfl
 | p :: r, h => by
  have hr : updL e r = e := updL_same (by cases r with | nil => trivial | cons q r => exact h.2)
  funext t
  simp only [updL, hr]
  by_cases ht : t = p.1
  ·subst ht; rw [upd_same]; exact (h.mem p (by simp)).symm
  ·rw [upd_ne _ _ ht]
theorem mix_of {W : List (Nat × Nat)} {e e' : Env} (h : ∀ t, inR W t = false → e' t = e t) : mix W e' e = e' := by
 funext t
 unfold mix
 cases hw : inR W t with
 | true => rfl
 | false => exact (h t hw).symm

structure Rep (n : Nat) (a : Act) (e : Env) : Prop where
 defers : a.defers = []
 size : a.tmps.size = n
 get : ∀ t, a.tmps.getD t undef = e t
theorem Rep.eval {n : Nat} {a : Act} {e : Env} (h : Rep n a e) : a.eval = ev e := by
 funext x; cases x <;> simp [Act.eval, ev, h.get]
theorem Rep.put {n : Nat} {a : Act} {e : Env} (h : Rep n a e) (d : Option Nat) (v : Value) (hd : ∀ x, d = some x → x < n) : Rep n (a.put d v) (put e d v) := by
 cases d with
 | none => exact h
 | some d =>
  have hd := hd d rfl
  refine ⟨h.defers, by simp [Act.put, h.size], fun t => ?_⟩
  have ht := h.get t
  simp only [Act.put, D.put]
  by_cases htd : t = d
  ·subst htd; rw [upd_same, Array.getD_eq_getD_getElem?]; simp [h.size, hd]
  ·rw [upd_ne _ _ htd, ← ht, Array.getD_eq_getD_getElem?, Array.getD_eq_getD_getElem?, Array.getElem?_setIfInBounds_ne (Ne.symm htd)]
def ltB (n : Nat) : Option Nat → Bool
 | none => true
 | some d => Nat.blt d n
theorem ltB_spec {n : Nat} {d : Option Nat} (h : ltB n d = true) : ∀ x, d = some x → x < n := by
 intro x hx; subst hx
 have := Nat.le_of_ble_eq_true h
 omega

/-! ### Worlds -/
/-- All blocks but those of S are as they were; blocks may have come; nothing else has turned. -/
structure Fr (S : List Nat) (w w' : World) : Prop where
 os : w'.os = w.os
 tape : w'.tape = w.tape
 output : w'.output = w.output
 size : w.heap.size ≤ w'.heap.size
 block : ∀ i, i < w.heap.size → i ∉ S → w'.heap[i]? = w.heap[i]?
theorem Fr.refl (S : List Nat) (w : World) : Fr S w w := ⟨rfl, rfl, rfl, Nat.le_refl _, fun _ _ _ => rfl⟩
theorem Fr.trans {S T U : List Nat} {a b c : World} (h : Fr S a b) (k : Fr T b c) (hs : ∀ i ∈ S, i < a.heap.size → i ∈ U) (ht : ∀ i ∈ T, i < a.heap.size → i ∈ U) : Fr U a c :=
 ⟨k.os.trans h.os, k.tape.trans h.tape, k.output.trans h.output, Nat.le_trans h.size k.size, fun i hi hu =>
  (k.block i (Nat.lt_of_lt_of_le hi h.size) (fun hT => hu (ht i hT hi))).trans (h.block i hi (fun hS => hu (hs i hS hi)))⟩
theorem Fr.tr {S : List Nat} {a b c : World} (h : Fr S a b) (k : Fr S b c) : Fr S a c := h.trans k (fun _ h _ => h) (fun _ h _ => h)
theorem Fr.tr0 {S : List Nat} {a b c : World} (h : Fr S a b) (k : Fr [] b c) : Fr S a c := h.trans k (fun _ h _ => h) (fun _ h _ => by cases h)
theorem Fr.of0 {S : List Nat} {a b c : World} (h : Fr [] a b) (k : Fr S b c) : Fr S a c := h.trans k (fun _ h _ => by cases h) (fun _ h _ => h)
/-- What is written lies behind a's end. -/
theorem Fr.new {S : List Nat} {a b c : World} (h : Fr [] a b) (k : Fr S b c) (hs : ∀ i ∈ S, a.heap.size ≤ i) : Fr [] a c :=
 h.trans k (fun _ h _ => by cases h) (fun i h hi => absurd (hs i h) (by omega))
theorem Fr.new1 {b : Nat} {w0 w1 w2 : World} (h : Fr [] w0 w1) (k : Fr [b] w1 w2) (hb : w0.heap.size ≤ b) : Fr [] w0 w2 :=
 h.new k (fun i hi => by rcases List.mem_singleton.1 hi with rfl; exact hb)
/-- A step that writes blocks of which each is one of S or lies behind a's end. -/
theorem Fr.put {S T : List Nat} {a b c : World} (h : Fr S a b) (k : Fr T b c) (ht : ∀ i ∈ T, i ∈ S ∨ a.heap.size ≤ i) : Fr S a c :=
 h.trans k (fun _ h _ => h) (fun i hi hl => (ht i hi).resolve_right (by omega))
theorem Fr.putN {S : List Nat} {d : Nat} {a b c : World} (h : Fr S a b) (k : Fr [d] b c) (hd : a.heap.size ≤ d) : Fr S a c :=
 h.put k (fun i hi => by rcases List.mem_singleton.1 hi with rfl; exact Or.inr hd)
theorem Fr.blk {S : List Nat} {w w' : World} (h : Fr S w w') {b : Nat} {o : Obj} (hb : w.heap[b]? = some o) (hs : b ∉ S) : w'.heap[b]? = some o := by
 rw [h.block b (Array.getElem?_eq_some_iff.1 hb).1 hs]; exact hb
theorem Fr.blk0 {w w' : World} (h : Fr [] w w') {b : Nat} {o : Obj} (hb : w.heap[b]? = some o) : w'.heap[b]? = some o := h.blk hb (by simp)
theorem Fr.blk1 {c : Nat} {w w' : World} (h : Fr [c] w w') {b : Nat} {o : Obj} (hb : w.heap[b]? = some o) (hs : b ≠ c) : w'.heap[b]? = some o := h.blk hb (by simpa using hs)
theorem Fr.below {w w' : World} (h : Fr [] w w') : Below w.heap.size w w' := ⟨h.os, h.tape, h.output, h.size, fun k hk => h.block k hk (by simp)⟩
theorem Fr.ofBelow {w w' : World} (h : Below w.heap.size w w') : Fr [] w w' := ⟨h.os, h.tape, h.output, h.size, fun k hk _ => h.block k hk⟩
theorem Fr.drawn (w : World) (n : Nat) : Fr [] w { w with drawn := n } := ⟨rfl, rfl, rfl, Nat.le_refl _, fun _ _ _ => rfl⟩
theorem lt_of_blk {w : World} {b : Nat} {o : Obj} (hb : w.heap[b]? = some o) : b < w.heap.size := (Array.getElem?_eq_some_iff.1 hb).1
theorem cell_of_blk {w : World} {b o : Nat} {cs : Array Value} {t : TypeId} {fr : Nat × Nat} {v : Value} (hb : w.heap[b]? = some (.cells cs t fr)) (hc : cs[o]? = some v) : w.cell? ⟨b, o, none⟩ = some v := by
 simp [World.cell?, hb, hc]
theorem Fr.cell {S : List Nat} {w w' : World} (h : Fr S w w') {b o : Nat} {v : Value} (hc : w.cell? ⟨b, o, none⟩ = some v) (hs : b ∉ S) : w'.cell? ⟨b, o, none⟩ = some v := by
 have hb : b < w.heap.size := World.block_lt_of_cell? w _ hc
 rw [← hc]
 simp only [World.cell?]
 rw [h.block b hb hs]
theorem fr_alloc (w : World) (o : Obj) : Fr [] w { w with heap := w.heap.push o } :=
 ⟨rfl, rfl, rfl, by simp, fun i hi _ => by simp [Array.getElem?_push, Nat.ne_of_lt hi]⟩
theorem blk_alloc (w : World) (o : Obj) : ({ w with heap := w.heap.push o } : World).heap[w.heap.size]? = some o := by simp
theorem fr_setCell (w : World) (a : Addr) (v : Value) : Fr [a.block] w (w.setCell a v) :=
 ⟨rfl, rfl, rfl, by simp [World.setCell], fun i _ hs => Below.heap_setCell _ _ _ _ (by simpa using hs)⟩
theorem blk_setCell {w : World} {b o : Nat} {cs : Array Value} {t : TypeId} {fr : Nat × Nat} (v : Value) (hb : w.heap[b]? = some (.cells cs t fr)) :
  (w.setCell ⟨b, o, none⟩ v).heap[b]? = some (.cells (cs.setIfInBounds o v) t fr) := by
 simp [World.setCell, Array.getElem?_modify, hb]

/-! ### The judgements -/
def dstsL : List Oper → List Nat
 | [] => []
 | o :: r => match o.dst with | some d => d :: dstsL r | none => dstsL r
def dstsC : Code → List Nat
 | .region _ ops _ => dstsL ops.toList
 | .seq a b => dstsC a ++ dstsC b
 | .cond _ a b => dstsC a ++ dstsC b
 | .block _ b => dstsC b
 | .loop b => dstsC b
 | .scope b => dstsC b
 | _ => []
def nthO : List Oper → Nat → Option Oper
 | [], _ => none
 | o :: _, 0 => some o
 | _ :: r, j + 1 => nthO r j
theorem nthO_eq : ∀ (l : List Oper) (j : Nat), nthO l j = l[j]?
 | [], _ => by simp [nthO]
 | _ :: _, 0 => by simp [nthO]
 | _ :: r, j + 1 => by simp [nthO, nthO_eq r j]
def yieldE (ops : List Oper) (e : Env) (j : Nat) : Option Bool :=
 match nthO ops j with
 | some o => (match o.dst with
  | some t => (match e t with | .bool b => some b | _ => none)
  | none => none)
 | none => none
def wantB (ops : List Oper) (e : Env) : Option (Nat × Bool) → Bool
 | none => true
 | some (j, b) => (match yieldE ops e j with | some true => b | some false => !b | none => false)
theorem wantB_eq {n : Nat} {ops : List Oper} {a : Act} {e : Env} (h : Rep n a e) (o : Oper) : Region.wanted o (yielded ops.toArray a.tmps) = wantB ops e o.guard := by
 unfold Region.wanted wantB
 cases hg : o.guard with
 | none => rfl
 | some g =>
  obtain ⟨j, b⟩ := g
  have : yielded ops.toArray a.tmps j = yieldE ops e j := by
   unfold yielded yieldE
   simp only [nthO_eq, List.getElem?_toArray]
   cases ops[j]? with
   | none => rfl
   | some o' =>
    simp only [Option.bind_some]
    cases o'.dst with
    | none => rfl
    | some t =>
     simp only [Option.bind_some]
     rw [← h.get t, Array.getD_eq_getD_getElem?]
     cases a.tmps[t]? with
     | none => rfl
     | some v => cases v <;> rfl
  simp only [this]
  cases yieldE ops e j with
  | none => rfl
  | some c => cases c <;> cases b <;> rfl

section
variable (P : Program) (n : Nat)
structure DL (ops l : List Oper) (e : Env) (w : World) (K : Env → World → Prop) : Prop where
 out : ∀ (a : Act) (Q : Exit → Act → World → Prop), Rep n a e → (∀ a' e' w', Rep n a' e' → (∀ t, t ∉ dstsL l → e' t = e t) → K e' w' → Q .normal a' w') → wpList P ops.toArray Q l a w
structure DC (c : Code) (e : Env) (w : World) (Q : Exit → Env → World → Prop) : Prop where
 out : ∀ a : Act, Rep n a e → c.wp P (fun x a' w' => ∃ e', Rep n a' e' ∧ (∀ t, t ∉ dstsC c → e' t = e t) ∧ Q x e' w') a w
end

section
variable {P : Program} {n : Nat} {e : Env} {w : World} {Q : Exit → Env → World → Prop}
theorem DC.mono {c : Code} {Q' : Exit → Env → World → Prop} (h : DC P n c e w Q) (hq : ∀ x e' w', (∀ t, t ∉ dstsC c → e' t = e t) → Q x e' w' → Q' x e' w') : DC P n c e w Q' :=
 ⟨fun a ha => wp_mono (h.out a ha) fun x a' w' ⟨e', h1, h2, h3⟩ => ⟨e', h1, h2, hq _ _ _ h2 h3⟩⟩
theorem DC.skip (h : Q .normal e w) : DC P n .skip e w Q := ⟨fun a ha => wp_skip ⟨e, ha, fun _ _ => rfl, h⟩⟩
theorem DC.exit {id : Nat} (h : Q (.exit id) e w) : DC P n (.exit id) e w Q := ⟨fun a ha => wp_exit ⟨e, ha, fun _ _ => rfl, h⟩⟩
theorem DC.ret (h : Q .ret e w) : DC P n .ret e w Q := ⟨fun a ha => wp_ret ⟨e, ha, fun _ _ => rfl, h⟩⟩
def thenQ (N : Env → World → Prop) (Q : Exit → Env → World → Prop) : Exit → Env → World → Prop
 | .normal, e, w => N e w
 | x, e, w => Q x e w
theorem DC.seq {x y : Code} (h : DC P n x e w (thenQ (fun e' w' => DC P n y e' w' Q) Q)) : DC P n (.seq x y) e w Q := by
 refine ⟨fun a ha => ?_⟩
 refine wp_seq (wp_mono (h.out a ha) ?_)
 rintro ex a' w' ⟨e', h1, h2, h3⟩
 have hsub : ∀ t, t ∉ dstsC (.seq x y) → e' t = e t := fun t ht => h2 t (fun hx => ht (by simp [dstsC, hx]))
 cases ex with
 | normal =>
  refine wp_mono (h3.out a' h1) ?_
  rintro ex2 a2 w2 ⟨e2, k1, k2, k3⟩
  exact ⟨e2, k1, fun t ht => (k2 t (fun hy => ht (by simp [dstsC, hy]))).trans (hsub t ht), k3⟩
 | _ => exact ⟨e', h1, hsub, h3⟩
theorem DC.condT {c : Operand} {x y : Code} (hc : ev e c = .bool true) (h : DC P n x e w Q) : DC P n (.cond c x y) e w Q := by
 refine ⟨fun a ha => ?_⟩
 refine wp_cond (t := true) (by rw [ha.eval]; exact hc) (wp_mono (h.out a ha) ?_)
 rintro ex a' w' ⟨e', h1, h2, h3⟩
 exact ⟨e', h1, fun t ht => h2 t (fun hx => ht (by simp [dstsC, hx])), h3⟩
theorem DC.condF {c : Operand} {x y : Code} (hc : ev e c = .bool false) (h : DC P n y e w Q) : DC P n (.cond c x y) e w Q := by
 refine ⟨fun a ha => ?_⟩
 refine wp_cond (t := false) (by rw [ha.eval]; exact hc) (wp_mono (h.out a ha) ?_)
 rintro ex a' w' ⟨e', h1, h2, h3⟩
 exact ⟨e', h1, fun t ht => h2 t (fun hx => ht (by simp [dstsC, hx])), h3⟩
theorem DC.cond {c : Operand} {x y : Code} {b : Bool} (hc : ev e c = .bool b) (ht : b = true → DC P n x e w Q) (hf : b = false → DC P n y e w Q) : DC P n (.cond c x y) e w Q := by
 cases b with
 | true => exact DC.condT hc (ht rfl)
 | false => exact DC.condF hc (hf rfl)
def blockQ (id : Nat) (Q : Exit → Env → World → Prop) : Exit → Env → World → Prop
 | .exit i, e, w => cond (Nat.beq i id) (Q .normal e w) (Q (.exit i) e w)
 | x, e, w => Q x e w
theorem DC.block {id : Nat} {c : Code} (h : DC P n c e w (blockQ id Q)) : DC P n (.block id c) e w Q := by
 refine ⟨fun a ha => ?_⟩
 refine wp_block (wp_mono (h.out a ha) ?_)
 rintro ex a' w' ⟨e', h1, h2, h3⟩
 cases ex with
 | exit i =>
  simp only [Exit.inBlock]
  by_cases hi : i = id
  ·rw [if_pos hi]
   have : Nat.beq i id = true := by rw [hi]; exact Nat.beq_refl _
   simp only [blockQ, this, cond_true] at h3
   exact ⟨e', h1, h2, h3⟩
  ·rw [if_neg hi]
   have : Nat.beq i id = false := by rw [← Bool.not_eq_true]; intro h'; exact hi (Nat.eq_of_beq_eq_true h')
   simp only [blockQ, this, cond_false] at h3
   exact ⟨e', h1, h2, h3⟩
 | _ => exact ⟨e', h1, h2, h3⟩
theorem DC.region {id : Nat} {l : List Oper} (h : DL P n l l e w (fun e' w' => Q .normal e' w')) : DC P n (.region id l.toArray false) e w Q := by
 refine ⟨fun a ha => ?_⟩
 refine wp_region_lit (h.out a _ ha ?_)
 intro a' e' w' h1 h2 h3
 exact ⟨e', h1, fun t ht => h2 t (by simpa [dstsC] using ht), h3⟩
/-- A loop: the slots W that its round may write, what of them is known (F), what holds (I), what falls (μ). -/
theorem DC.loop {body : Code} {σ : Type} (W : List (Nat × Nat)) (F : σ → List (Nat × Value)) (I : σ → World → Prop) (μ : σ → Nat) (s0 : σ)
  (hW : (dstsC body).all (inR W) = true) (h0 : AllEq e (F s0)) (hI : I s0 w)
  (round : ∀ (s : σ) (j : Env) (w1 : World), I s w1 → DC P n body (updL (mix W j e) (F s)) w1 (thenQ (fun e' w' => ∃ s', I s' w' ∧ μ s' < μ s ∧ AllEq e' (F s')) Q)) :
  DC P n (.loop body) e w Q := by
 have hW' : ∀ t, inR W t = false → t ∉ dstsC body := fun t ht hm => by
  have := List.all_eq_true.1 hW t hm
  rw [ht] at this; cases this
 refine ⟨fun a ha => ?_⟩
 refine wp_loop_ghost (fun m a' w' => ∃ s e', μ s = m ∧ Rep n a' e' ∧ (∀ t, t ∉ dstsC body → e' t = e t) ∧ AllEq e' (F s) ∧ I s w') (μ s0) ⟨s0, e, rfl, ha, fun _ _ => rfl, h0, hI⟩ ?_
 rintro m a' w' ⟨s, e', hm, hr, hag, heq, hi⟩
 have he : updL (mix W e' e) (F s) = e' := by
  have : mix W e' e = e' := mix_of (fun t ht => hag t (hW' t ht))
  rw [this]; exact updL_same heq
 have hb := round s e' w' hi
 rw [he] at hb
 refine wp_mono (hb.out a' hr) ?_
 rintro ex a2 w2 ⟨e2, k1, k2, k3⟩
 have hag2 : ∀ t, t ∉ dstsC body → e2 t = e t := fun t ht => (k2 t ht).trans (hag t ht)
 cases ex with
 | normal =>
  obtain ⟨s', i1, i2, i3⟩ := k3
  exact ⟨μ s', by omega, s', e2, rfl, k1, hag2, i3, i1⟩
 | _ => exact ⟨e2, k1, hag2, k3⟩
end
end Go.Proofs.YtmbleojlnaofjaaGreatDoor.D

/- The laws of single operations for the calculus of D: what an operation that only reads yields; what one that makes or writes memory does. -/
namespace Go.Proofs.YtmbleojlnaofjaaGreatDoor.D
open Go Go.RowKit
set_option linter.unusedVariables false
set_option linter.unusedSectionVars false
set_option linter.unusedSimpArgs false

/-! ### Facts of types, as closed tests -/
def scalarT (P : Program) (t : TypeId) : Bool := match P.underlying t with | some (.struct _) | some (.array _ _) | none => false | some _ => true
def aggT (P : Program) (t : TypeId) (n : Nat) : Bool := (match P.underlying t with | some (.struct _) | some (.array _ _) => true | _ => false) && (match P.info? t with | some i => i.size == n | none => false)
def ifaceFree (P : Program) (t : TypeId) : Bool := match P.underlying t with | some (.interface _) | none => false | some _ => true
def fieldT (P : Program) (s f : Nat) (off : Nat) : Bool := match P.underlying s with
 | some (.struct fs) => (match fs[f]? with | some fd => (fd.offset == off) && (match P.info? fd.type with | some i => !(i.size == 0) | none => false) | none => false)
 | _ => false
def sliceT (P : Program) (t e size : Nat) : Bool := match P.underlying t with | some (.slice e') => (e' == e) && (match P.info? e with | some i => i.size == size | none => false) | _ => false
def stringT (P : Program) (t : TypeId) : Bool := match P.underlying t with | some .string => true | _ => false

section
variable {P : Program} {n : Nat} {e : Env} {w : World} {ops rest : List Oper} {K : Env → World → Prop} {o : Oper}
/-- The operation only reads, and yields v. -/
def Y (P : Program) (e : Env) (o : Oper) (w : World) (v : Value) : Prop := (execOp (ev e) o).run P w = .ok (.value v) w

theorem wp_imp {a : Act} {N N' : Act → World → Prop} {Q Q' : Exit → Act → World → Prop} (hn : ∀ a w, N a w → N' a w) (hp : ∀ c a w, Q (.panic c) a w → Q' (.panic c) a w) (hl : LetsOut Q → LetsOut Q') (h : o.wp P a w N Q) : o.wp P a w N' Q' := by
 unfold Oper.wp at *
 generalize (execOp a.eval o).run P w = r at *
 cases r with
 | ok x w' =>
  cases x <;> simp only [Oper.upon] at h ⊢ <;> first | exact hn _ _ h | exact h | skip
  ·exact h.mono fun e w'' he => by
    cases e with
    | returned v => exact hn _ _ he
    | panicked c => exact hp _ _ _ he
    | outgrown => exact hl he
  ·exact h.mono fun v w'' he => hn _ _ he
 | halt x w' =>
  cases x <;> simp only [Oper.upon] at h ⊢ <;> first | exact hp _ _ _ h | exact h
theorem DL.nil (h : K e w) : DL P n ops [] e w K := ⟨fun a Q ha hq => wpList_nil (hq a e w ha (fun _ _ => rfl) h)⟩
theorem dstsL_cons {o : Oper} {r : List Oper} {t : Nat} (h : t ∉ dstsL (o :: r)) : t ∉ dstsL r ∧ ∀ d, o.dst = some d → t ≠ d := by
 unfold dstsL at h
 cases hd : o.dst with
 | none => rw [hd] at h; exact ⟨h, fun d hx => by cases hx⟩
 | some d => rw [hd] at h; simp only [List.mem_cons, not_or] at h; exact ⟨h.2, fun d' hx => by cases hx; exact h.1⟩
theorem put_ne {e : Env} {o : Oper} {t : Nat} (v : Value) (h : ∀ d, o.dst = some d → t ≠ d) : put e o.dst v t = e t := by
 cases hd : o.dst with
 | none => rfl
 | some d => exact upd_ne _ _ (h d hd)
/-- One operation, carried out: its run in every state like this one. -/
theorem DL.op (hg : wantB ops e o.guard = true) (hd : ltB n o.dst = true)
  (h : ∀ (next : Value → World → Prop) (a : Act) (Q : Exit → Act → World → Prop) (N : Act → World → Prop), a.eval = ev e → (∀ v w', next v w' → N (a.put o.dst v) w') → (∀ v w', DL P n ops rest (put e o.dst v) w' K → next v w') → o.wp P a w N Q) :
  DL P n ops (o :: rest) e w K := by
 refine ⟨fun a Q ha hq => ?_⟩
 refine wpList_step fun N hN => ?_
 rw [wantB_eq ha, hg, if_pos rfl]
 refine h (fun v w' => DL P n ops rest (put e o.dst v) w' K) a Q N ha.eval (fun v w' hv => hN _ _ (hv.out _ _ (ha.put o.dst v (ltB_spec hd)) (fun a' e' w2 h1 h2 h3 => hq a' e' w2 h1 (fun t ht => ?_) h3))) (fun v w' h => h)
 obtain ⟨k1, k2⟩ := dstsL_cons ht
 rw [h2 t k1, put_ne _ k2]
theorem DL.run {v : Value} {w' : World} (hg : wantB ops e o.guard = true) (hd : ltB n o.dst = true) (h : (execOp (ev e) o).run P w = .ok (.value v) w') (k : DL P n ops rest (put e o.dst v) w' K) : DL P n ops (o :: rest) e w K :=
 DL.op hg hd fun next a Q N ha hN hk => by
  unfold Oper.wp; rw [ha, h]; exact hN _ _ (hk _ _ k)
theorem DL.runU {w' : World} (hg : wantB ops e o.guard = true) (hd : ltB n o.dst = true) (h : (execOp (ev e) o).run P w = .ok .skip w') (k : DL P n ops rest (put e o.dst undef) w' K) : DL P n ops (o :: rest) e w K :=
 DL.op hg hd fun next a Q N ha hN hk => by
  unfold Oper.wp; rw [ha, h]; exact hN _ _ (hk _ _ k)
theorem DL.y {v : Value} (hg : wantB ops e o.guard = true) (hd : ltB n o.dst = true) (h : Y P e o w v) (k : DL P n ops rest (put e o.dst v) w K) : DL P n ops (o :: rest) e w K := DL.run hg hd h k
/-- A bool that gets a name. -/
theorem DL.b {b : Bool} (hg : wantB ops e o.guard = true) (hd : ltB n o.dst = true) (h : Y P e o w (.bool b)) (k : ∀ p : Bool, p = b → DL P n ops rest (put e o.dst (.bool p)) w K) : DL P n ops (o :: rest) e w K := DL.y hg hd h (k b rfl)
/-- A test, both ways. -/
theorem DL.if {c : Prop} [Decidable c] (hg : wantB ops e o.guard = true) (hd : ltB n o.dst = true) (h : Y P e o w (.bool (decide c))) (ht : c → DL P n ops rest (put e o.dst (.bool true)) w K)
  (hf : ¬c → DL P n ops rest (put e o.dst (.bool false)) w K) : DL P n ops (o :: rest) e w K := by
 by_cases hc : c
 ·exact DL.y hg hd (by rw [decide_eq_true hc] at h; exact h) (ht hc)
 ·exact DL.y hg hd (by rw [decide_eq_false hc] at h; exact h) (hf hc)
theorem DL.skip (hg : wantB ops e o.guard = false) (hd : ltB n o.dst = true) (k : DL P n ops rest (put e o.dst undef) w K) : DL P n ops (o :: rest) e w K := by
 refine ⟨fun a Q ha hq => ?_⟩
 refine wpList_step fun N hN => ?_
 rw [wantB_eq ha, hg, if_neg (by simp)]
 refine hN _ _ (k.out _ _ (ha.put o.dst undef (ltB_spec hd)) (fun a' e' w2 h1 h2 h3 => hq a' e' w2 h1 (fun t ht => ?_) h3))
 obtain ⟨k1, k2⟩ := dstsL_cons ht
 rw [h2 t k1, put_ne _ k2]
/-- A cut behind the first m operations: one slot is told of. -/
theorem DL.cut {l : List Oper} (m : Nat) (W : List (Nat × Nat)) (s : Nat) (v : Value) (J : World → Prop) (hW : (dstsL (l.take m)).all (inR W) = true)
  (h1 : DL P n ops (l.take m) e w (fun e' w' => e' s = v ∧ J w')) (h2 : ∀ j w', J w' → DL P n ops (l.drop m) (upd (mix W j e) s v) w' K) : DL P n ops l e w K := by
 have hW' : ∀ t, inR W t = false → t ∉ dstsL (l.take m) := fun t ht hm => by
  have := List.all_eq_true.1 hW t hm
  rw [ht] at this; cases this
 have happ : ∀ (l1 l2 : List Oper) (t : Nat), t ∉ dstsL (l1 ++ l2) → t ∉ dstsL l1 ∧ t ∉ dstsL l2 := by
  intro l1
  induction l1 with
  | nil => intro l2 t h; exact ⟨by simp [dstsL], h⟩
  | cons o l1 ih =>
   intro l2 t h
   obtain ⟨k1, k2⟩ := dstsL_cons (o := o) (r := l1 ++ l2) h
   obtain ⟨k3, k4⟩ := ih l2 t k1
   refine ⟨fun hm => ?_, k4⟩
   unfold dstsL at hm
   cases hd : o.dst with
   | none => rw [hd] at hm; exact k3 hm
   | some d => rw [hd] at hm; rcases List.mem_cons.1 hm with rfl | hm; exact k2 _ hd rfl; exact k3 hm
 have hlist : ∀ (l1 l2 : List Oper) (a : Act) (w : World) (Q : Exit → Act → World → Prop), wpList P ops.toArray (fun x a' w' => match x with | .normal => wpList P ops.toArray Q l2 a' w' | x => Q x a' w') l1 a w → wpList P ops.toArray Q (l1 ++ l2) a w := by
  intro l1
  induction l1 with
  | nil => intro l2 a w Q h; exact h
  | cons o l1 ih =>
   intro l2 a w Q h
   simp only [List.cons_append]
   unfold wpList at h ⊢
   split
   ·rename_i hw
    rw [if_pos hw] at h
    rcases h with h | h
    ·refine Or.inl (wp_imp (fun a' w' h' => ih l2 a' w' Q h') (fun c a' w' h' => h') (fun h' => h') h)
    ·exact Or.inr h
   ·rename_i hw
    rw [if_neg hw] at h
    exact ih l2 _ w Q h
 refine ⟨fun a Q ha hq => ?_⟩
 rw [← List.take_append_drop m l]
 refine hlist _ _ _ _ _ (h1.out a _ ha ?_)
 intro a' e' w' k1 k2 k3
 have he : upd (mix W e' e) s v = e' := by
  have hm : mix W e' e = e' := mix_of (fun t ht => k2 t (hW' t ht))
  rw [hm, ← k3.1]
  funext t
  by_cases ht : t = s
  ·subst ht; exact upd_same _ _ _
  ·exact upd_ne _ _ ht
 have h3 := h2 e' w' k3.2
 rw [he] at h3
 refine h3.out a' Q k1 (fun a2 e2 w2 j1 j2 j3 => hq a2 e2 w2 j1 (fun t ht => ?_) j3)
 rw [← List.take_append_drop m l] at ht
 obtain ⟨t1, t2⟩ := happ _ _ _ ht
 rw [j2 t t2, k2 t t1]

/-! ### Regions that draw their order -/
/-- The operations of l leave the world alone, one by one. -/
structure DS (P : Program) (n : Nat) (ops : List Oper) (w : World) (l : List Oper) (e : Env) (K : Env → Prop) : Prop where
 out : ∀ (a : Act) (Q : Act → Prop), Rep n a e → (∀ a' e', Rep n a' e' → (∀ t, t ∉ dstsL l → e' t = e t) → K e' → Q a') → wpStill P ops.toArray w Q l a
theorem DS.nil {K : Env → Prop} (h : K e) : DS P n ops w [] e K := ⟨fun a Q ha hq => hq a e ha (fun _ _ => rfl) h⟩
theorem DS.y {K : Env → Prop} {v : Value} (hg : wantB ops e o.guard = true) (hd : ltB n o.dst = true) (h : Y P e o w v) (k : DS P n ops w rest (put e o.dst v) K) : DS P n ops w (o :: rest) e K := by
 refine ⟨fun a Q ha hq => ?_⟩
 unfold wpStill
 rw [wantB_eq ha, hg, if_pos rfl]
 unfold Oper.still
 rw [ha.eval, h]
 refine ⟨rfl, k.out _ _ (ha.put o.dst v (ltB_spec hd)) (fun a' e' h1 h2 h3 => hq a' e' h1 (fun t ht => ?_) h3)⟩
 obtain ⟨k1, k2⟩ := dstsL_cons ht
 rw [h2 t k1, put_ne _ k2]
theorem DS.skip {K : Env → Prop} (hg : wantB ops e o.guard = false) (hd : ltB n o.dst = true) (k : DS P n ops w rest (put e o.dst undef) K) : DS P n ops w (o :: rest) e K := by
 refine ⟨fun a Q ha hq => ?_⟩
 unfold wpStill
 rw [wantB_eq ha, hg, if_neg (by simp)]
 refine k.out _ _ (ha.put o.dst undef (ltB_spec hd)) (fun a' e' h1 h2 h3 => hq a' e' h1 (fun t ht => ?_) h3)
 obtain ⟨k1, k2⟩ := dstsL_cons ht
 rw [h2 t k1, put_ne _ k2]
theorem DS.if {K : Env → Prop} {c : Prop} [Decidable c] (hg : wantB ops e o.guard = true) (hd : ltB n o.dst = true) (h : Y P e o w (.bool (decide c))) (ht : c → DS P n ops w rest (put e o.dst (.bool true)) K)
  (hf : ¬c → DS P n ops w rest (put e o.dst (.bool false)) K) : DS P n ops w (o :: rest) e K := by
 by_cases hc : c
 ·exact DS.y hg hd (by rw [decide_eq_true hc] at h; exact h) (ht hc)
 ·exact DS.y hg hd (by rw [decide_eq_false hc] at h; exact h) (hf hc)
theorem DS.ifb {K : Env → Prop} {b : Bool} (hg : wantB ops e o.guard = true) (hd : ltB n o.dst = true) (h : Y P e o w (.bool b)) (ht : b = true → DS P n ops w rest (put e o.dst (.bool true)) K)
  (hf : b = false → DS P n ops w rest (put e o.dst (.bool false)) K) : DS P n ops w (o :: rest) e K := by
 cases b with
 | true => exact DS.y hg hd h (ht rfl)
 | false => exact DS.y hg hd h (hf rfl)
theorem DS.b {K : Env → Prop} {b : Bool} (hg : wantB ops e o.guard = true) (hd : ltB n o.dst = true) (h : Y P e o w (.bool b)) (k : ∀ p : Bool, p = b → DS P n ops w rest (put e o.dst (.bool p)) K) : DS P n ops w (o :: rest) e K := DS.y hg hd h (k b rfl)
/-- One slot is told of, behind the first m. -/
theorem DS.cut {K : Env → Prop} {l : List Oper} (m : Nat) (W : List (Nat × Nat)) (s : Nat) (v : Value) (J : World → Prop) (hW : (dstsL (l.take m)).all (inR W) = true)
  (h1 : DS P n ops w (l.take m) e (fun e' => e' s = v ∧ True)) (h2 : ∀ j, DS P n ops w (l.drop m) (upd (mix W j e) s v) K) : DS P n ops w l e K := by
 have hW' : ∀ t, inR W t = false → t ∉ dstsL (l.take m) := fun t ht hm => by
  have := List.all_eq_true.1 hW t hm
  rw [ht] at this; cases this
 have happ : ∀ (l1 l2 : List Oper) (t : Nat), t ∉ dstsL (l1 ++ l2) → t ∉ dstsL l1 ∧ t ∉ dstsL l2 := by
  intro l1
  induction l1 with
  | nil => intro l2 t h; exact ⟨by simp [dstsL], h⟩
  | cons o l1 ih =>
   intro l2 t h
   obtain ⟨k1, k2⟩ := dstsL_cons (o := o) (r := l1 ++ l2) h
   obtain ⟨k3, k4⟩ := ih l2 t k1
   refine ⟨fun hm => ?_, k4⟩
   unfold dstsL at hm
   cases hd : o.dst with
   | none => rw [hd] at hm; exact k3 hm
   | some d => rw [hd] at hm; rcases List.mem_cons.1 hm with rfl | hm; exact k2 _ hd rfl; exact k3 hm
 have hstep : ∀ (o : Oper) (a : Act) (N N' : Act → Prop), (∀ a, N a → N' a) → o.still P a w N → o.still P a w N' := by
  intro o a N N' hn h
  unfold Oper.still at *
  generalize (execOp a.eval o).run P w = r at *
  cases r with
  | ok x w' => cases x <;> simp only [Oper.stillUpon] at h ⊢ <;> first | exact ⟨h.1, hn _ h.2⟩ | exact ⟨h.1, h.2.imp fun v hv => ⟨hv.1, hn _ hv.2⟩⟩ | exact h
  | halt x w' => simp only [Oper.stillUpon] at h
 have hlist : ∀ (l1 l2 : List Oper) (a : Act) (Q : Act → Prop), wpStill P ops.toArray w (fun a' => wpStill P ops.toArray w Q l2 a') l1 a → wpStill P ops.toArray w Q (l1 ++ l2) a := by
  intro l1
  induction l1 with
  | nil => intro l2 a Q h; exact h
  | cons o l1 ih =>
   intro l2 a Q h
   simp only [List.cons_append]
   unfold wpStill at h ⊢
   split
   ·rename_i hw
    rw [if_pos hw] at h
    exact hstep o a _ _ (fun a' h' => ih l2 a' Q h') h
   ·rename_i hw
    rw [if_neg hw] at h
    exact ih l2 _ Q h
 refine ⟨fun a Q ha hq => ?_⟩
 rw [← List.take_append_drop m l]
 refine hlist _ _ _ _ (h1.out a _ ha ?_)
 intro a' e' k1 k2 k3
 have he : upd (mix W e' e) s v = e' := by
  have hm : mix W e' e = e' := mix_of (fun t ht => k2 t (hW' t ht))
  rw [hm, ← k3.1]
  funext t
  by_cases ht : t = s
  ·subst ht; exact upd_same _ _ _
  ·exact upd_ne _ _ ht
 have h3 := h2 e'
 rw [he] at h3
 refine h3.out a' Q k1 (fun a2 e2 j1 j2 j3 => hq a2 e2 j1 (fun t ht => ?_) j3)
 rw [← List.take_append_drop m l] at ht
 obtain ⟨t1, t2⟩ := happ _ _ _ ht
 rw [j2 t t2, k2 t t1]
theorem dstsL_split {l : List Oper} {m t : Nat} (h : t ∉ dstsL l) : t ∉ dstsL (l.take m) ∧ t ∉ dstsL (l.drop m) := by
 induction l generalizing m with
 | nil => simp [dstsL]
 | cons o l ih =>
  obtain ⟨k1, k2⟩ := dstsL_cons h
  cases m with
  | zero => exact ⟨by simp [dstsL], h⟩
  | succ m =>
   obtain ⟨k3, k4⟩ := ih (m := m) k1
   refine ⟨fun hm => ?_, k4⟩
   simp only [List.take_succ_cons] at hm
   unfold dstsL at hm
   cases hd : o.dst with
   | none => rw [hd] at hm; exact k3 hm
   | some d => rw [hd] at hm; rcases List.mem_cons.1 hm with rfl | hm; exact k2 _ hd rfl; exact k3 hm
/-- A drawn region of which all but the last operations leave the world alone. -/
theorem DC.tail {id : Nat} {l : List Oper} {Q : Exit → Env → World → Prop} (m : Nat) (hm : P.follows .mixedOrders = true) (hB : Region.lexTailB .any l.toArray m = true)
  (h : ∀ w', Fr [] w w' → w'.heap.size = w.heap.size → DS P n l w' (l.take m) e (fun e' => DL P n l (l.drop m) e' w' (fun e2 w2 => Q .normal e2 w2))) : DC P n (.region id l.toArray true) e w Q := by
 refine ⟨fun a ha => ?_⟩
 refine wp_region_still_tail m hm hB ?_
 refine (h _ (Fr.drawn w (w.drawn + 1)) rfl).out a _ ha ?_
 intro a' e' h1 h2 h3
 refine h3.out a' _ h1 ?_
 intro a2 e2 w2 k1 k2 k3
 exact ⟨e2, k1, fun t ht => by
  obtain ⟨t1, t2⟩ := dstsL_split (m := m) (show t ∉ dstsL l by simpa [dstsC] using ht)
  rw [k2 t t2, h2 t t1], k3⟩
/-- A drawn region that leaves the world alone. -/
theorem DC.still {id : Nat} {l : List Oper} {Q : Exit → Env → World → Prop} (hm : P.follows .mixedOrders = true) (hB : Region.lexB .any l.toArray = true)
  (h : ∀ w', Fr [] w w' → w'.heap.size = w.heap.size → DS P n l w' l e (fun e' => Q .normal e' w')) : DC P n (.region id l.toArray true) e w Q := by
 refine ⟨fun a ha => ?_⟩
 refine wp_region_still_lit hm hB ?_
 refine (h _ (Fr.drawn w (w.drawn + 1)) rfl).out a _ ha ?_
 intro a' e' h1 h2 h3
 exact ⟨e', h1, fun t ht => h2 t (by simpa [dstsC] using ht), h3⟩
end
end Go.Proofs.YtmbleojlnaofjaaGreatDoor.D

/- The laws of the operations one by one. -/
namespace Go.Proofs.YtmbleojlnaofjaaGreatDoor.D
open Go Go.RowKit
set_option linter.unusedVariables false
set_option linter.unusedSectionVars false
set_option linter.unusedSimpArgs false

theorem scalarT_spec {P : Program} {t : TypeId} (h : scalarT P t = true) : ∃ d, P.underlying t = some d ∧ (match d with | .struct _ | .array _ _ => false | _ => true) = true := by
 unfold scalarT at h
 cases hd : P.underlying t with
 | none => rw [hd] at h; cases h
 | some d => rw [hd] at h; refine ⟨d, rfl, ?_⟩; cases d <;> simp_all
theorem isAgg_scalar {P : Program} {t : TypeId} (h : scalarT P t = true) (w : World) : (isAgg t).run P w = .ok false w := by
 obtain ⟨d, hd, hm⟩ := scalarT_spec h
 simp only [isAgg, Sem.run_bind, run_underlying hd, Result.andThen]
 cases d <;> simp_all
theorem aggT_spec {P : Program} {t : TypeId} {m : Nat} (h : aggT P t m = true) : (∀ w, (isAgg t).run P w = .ok true w) ∧ (∀ w, (sizeOf t).run P w = .ok m w) := by
 unfold aggT at h
 rw [Bool.and_eq_true] at h
 obtain ⟨h1, h2⟩ := h
 constructor
 ·intro w
  cases hd : P.underlying t with
  | none => rw [hd] at h1; cases h1
  | some d =>
   rw [hd] at h1
   simp only [isAgg, Sem.run_bind, run_underlying hd, Result.andThen]
   cases d <;> simp_all
 ·intro w
  cases hi : P.info? t with
  | none => rw [hi] at h2; cases h2
  | some i => rw [hi] at h2; simp [sizeOf, typeInfo, hi]; simpa using h2
theorem add_addr (b o m : Nat) : (⟨b, o, none⟩ : Addr).add m = ⟨b, o + m, none⟩ := by
 unfold Addr.add
 split
 ·subst_vars; rfl
 ·rfl
theorem wrap_i64 {x : Int} (h1 : -9223372036854775808 ≤ x) (h2 : x ≤ 9223372036854775807) : IntKind.i64.wrap x = x := IntWalk.i64_in _ ⟨by omega, by omega⟩
/-- The cells of an address on read so. -/
def CellsAt (w : World) (b o : Nat) (cs : Array Value) : Prop := ∀ i, i < cs.size → w.cell? ⟨b, o + i, none⟩ = cs[i]?
theorem CellsAt.ofBlk {w : World} {b : Nat} {cs : Array Value} {t : TypeId} {fr : Nat × Nat} (h : w.heap[b]? = some (.cells cs t fr)) : CellsAt w b 0 cs := by
 intro i hi
 simp [World.cell?, h]
theorem CellsAt.cell {w : World} {b o : Nat} {cs : Array Value} (h : CellsAt w b o cs) (i : Nat) {v : Value} (hv : cs[i]? = some v) : w.cell? ⟨b, o + i, none⟩ = some v := by
 rw [h i (Array.getElem?_eq_some_iff.1 hv).1, hv]
theorem CellsAt.fr {S : List Nat} {w w' : World} {b o : Nat} {cs : Array Value} (h : CellsAt w b o cs) (f : Fr S w w') (hs : b ∉ S) : CellsAt w' b o cs := by
 intro i hi
 have := h i hi
 rw [Array.getElem?_eq_getElem hi] at this ⊢
 exact f.cell this hs
theorem CellsAt.lt {w : World} {b o : Nat} {cs : Array Value} (h : CellsAt w b o cs) (hp : 0 < cs.size) : b < w.heap.size := by
 have := h 0 hp
 rw [Array.getElem?_eq_getElem hp] at this
 exact World.block_lt_of_cell? w _ this
theorem loadVar_agg {P : Program} {t : TypeId} {w : World} {b o : Nat} {cs : Array Value} (ht : aggT P t cs.size = true) (h : CellsAt w b o cs) : (loadVar t ⟨b, o, none⟩).run P w = .ok (.agg cs) w := by
 obtain ⟨h1, h2⟩ := aggT_spec ht
 have hl : (loadCells ⟨b, o, none⟩ cs.toList.length).run P w = .ok cs.toList.toArray w := by
  refine run_loadCells_list w _ _ (fun j v hv => ?_)
  rw [add_addr]
  refine h.cell j ?_
  simpa using hv
 have hl' : (loadCells ⟨b, o, none⟩ cs.size).run P w = .ok cs w := by simpa using hl
 unfold loadVar
 rw [Sem.run_bind, h1, Result.andThen_ok]
 simp only [if_true]
 rw [Sem.run_bind, h2, Result.andThen_ok, Sem.run_bind, hl', Result.andThen_ok]
 rfl
theorem loadVar_scalar {P : Program} {t : TypeId} {w : World} {a : Addr} {v : Value} (ht : scalarT P t = true) (h : w.cell? a = some v) : (loadVar t a).run P w = .ok v w := by
 simp [loadVar, isAgg_scalar ht, load, Sem.run, h]

section
variable {P : Program} {n : Nat} {e : Env} {w : World} {ops rest : List Oper} {K : Env → World → Prop} {dst : Option Tmp} {ty : TypeId} {pos : String} {af : Array Edge} {g : Option (Nat × Bool)}

/-! ### What only reads -/
theorem Y.move {x : Operand} : Y P e ⟨dst, .move x, ty, pos, af, g⟩ w (ev e x) := rfl
theorem Y.assign {x : Operand} : Y P e ⟨dst, .assign x, ty, pos, af, g⟩ w (ev e x) := rfl
theorem Y.load {x : Operand} {t : TypeId} {a : Addr} {v : Value} (ht : scalarT P t = true) (hx : ev e x = .pointer (some a)) (hc : w.cell? a = some v) : Y P e ⟨dst, .load t x, ty, pos, af, g⟩ w v := by
 unfold Y
 simp [execOp, Instr.loadAt, hx, Instr.sureAddr, loadVar_scalar ht hc]
theorem Y.loadB {x : Operand} {t u : TypeId} {b o : Nat} {cs : Array Value} {fr : Nat × Nat} {v : Value} (ht : scalarT P t = true) (hx : ev e x = .pointer (some ⟨b, o, none⟩)) (hb : w.heap[b]? = some (.cells cs u fr)) (hv : cs[o]? = some v) :
  Y P e ⟨dst, .load t x, ty, pos, af, g⟩ w v := Y.load ht hx (cell_of_blk hb hv)
theorem Y.loadA {x : Operand} {t : TypeId} {b o : Nat} {cs : Array Value} (ht : aggT P t cs.size = true) (hx : ev e x = .pointer (some ⟨b, o, none⟩)) (hc : CellsAt w b o cs) : Y P e ⟨dst, .load t x, ty, pos, af, g⟩ w (.agg cs) := by
 unfold Y
 simp [execOp, Instr.loadAt, hx, Instr.sureAddr, loadVar_agg ht hc]
theorem Y.loadAn {x : Operand} {t : TypeId} {b o m : Nat} {cs : Array Value} (hs : cs.size = m) (ht : aggT P t m = true) (hx : ev e x = .pointer (some ⟨b, o, none⟩)) (hc : CellsAt w b o cs) : Y P e ⟨dst, .load t x, ty, pos, af, g⟩ w (.agg cs) :=
 Y.loadA (by rw [hs]; exact ht) hx hc
theorem Y.loadAB {x : Operand} {t u : TypeId} {b : Nat} {cs : Array Value} {fr : Nat × Nat} (ht : aggT P t cs.size = true) (hx : ev e x = .pointer (some ⟨b, 0, none⟩)) (hb : w.heap[b]? = some (.cells cs u fr)) :
  Y P e ⟨dst, .load t x, ty, pos, af, g⟩ w (.agg cs) := Y.loadA ht hx (.ofBlk hb)
/-- A whole block that holds a struct. -/
theorem Y.loadW {x : Operand} {t u : TypeId} {b : Nat} {cs : Array Value} {fr : Nat × Nat} (hx : ev e x = .pointer (some ⟨b, 0, none⟩)) (hb : w.heap[b]? = some (.cells cs u fr)) (ht : aggT P t cs.size = true) :
  Y P e ⟨dst, .load t x, ty, pos, af, g⟩ w (.agg cs) := Y.loadA ht hx (.ofBlk hb)
theorem Y.field {x : Operand} {s f off b o : Nat} (hf : fieldT P s f off = true) (hx : ev e x = .pointer (some ⟨b, o, none⟩)) : Y P e ⟨dst, .fieldAddr s x f, ty, pos, af, g⟩ w (.pointer (some ⟨b, o + off, none⟩)) := by
 unfold fieldT at hf
 cases hu : P.underlying s with
 | none => rw [hu] at hf; cases hf
 | some d =>
  rw [hu] at hf
  cases d with
  | struct fs =>
   simp only at hf
   cases hfs : fs[f]? with
   | none => rw [hfs] at hf; cases hf
   | some fd =>
    rw [hfs] at hf
    simp only [Bool.and_eq_true, beq_iff_eq] at hf
    obtain ⟨h1, h2⟩ := hf
    cases hi : P.info? fd.type with
    | none => rw [hi] at h2; cases h2
    | some i =>
     rw [hi] at h2
     have hsz : ¬ i.size = 0 := by simpa using h2
     unfold Y
     simp [execOp, Instr.fieldAt, hx, Instr.sureAddr, run_underlying hu, hfs, fieldPlace, sizeOf, typeInfo, hi, hsz, add_addr, h1]
  | _ => cases hf
theorem sliceT_spec {t el size : Nat} (h : sliceT P t el size = true) : P.underlying t = some (.slice el) ∧ ∀ w, (sizeOf el).run P w = .ok size w := by
 unfold sliceT at h
 cases hu : P.underlying t with
 | none => rw [hu] at h; cases h
 | some d =>
  rw [hu] at h
  cases d with
  | slice e' =>
   simp only [Bool.and_eq_true, beq_iff_eq] at h
   obtain ⟨h1, h2⟩ := h
   subst h1
   refine ⟨rfl, fun w => ?_⟩
   cases hi : P.info? e' with
   | none => rw [hi] at h2; cases h2
   | some i => rw [hi] at h2; simp [sizeOf, typeInfo, hi]; simpa using h2
  | _ => cases h
theorem Y.index {x ix : Operand} {t el size b o len cap i : Nat} {k : IntKind} {z : Int} (ht : sliceT P t el size = true) (hx : ev e x = .slice (some ⟨b, o, none⟩) len cap) (hi : ev e ix = .int k z) (hz : z = (i : Int)) (hlt : i < len) :
  Y P e ⟨dst, .indexAddr t x ix, ty, pos, af, g⟩ w (.pointer (some ⟨b, o + i * size, none⟩)) := by
 obtain ⟨h1, h2⟩ := sliceT_spec ht
 subst hz
 unfold Y
 simp [execOp, Instr.indexAt, hx, hi, asIntOf, run_underlying h1, h2, hlt, add_addr]
theorem Y.lenS {x : Operand} {t el : Nat} {a : Option Addr} {len cap : Nat} (ht : P.underlying t = some (.slice el)) (hx : ev e x = .slice a len cap) :
  Y P e ⟨dst, .call ⟨.builtin .len, #[x], #[t]⟩, ty, pos, af, g⟩ w (.int .i64 len) := by
 unfold Y
 simp [execOp, resolve, Go.invoke, builtin, Builtin.len_, hx, run_underlying ht, goInt]
theorem Y.lenStr {x : Operand} {t : Nat} {s : ByteArray} (ht : P.underlying t = some .string) (hx : ev e x = .string s) :
  Y P e ⟨dst, .call ⟨.builtin .len, #[x], #[t]⟩, ty, pos, af, g⟩ w (.int .i64 s.size) := by
 unfold Y
 simp [execOp, resolve, Go.invoke, builtin, Builtin.len_, hx, run_underlying ht, goInt]
theorem Y.lenMap {x : Operand} {t k el r : Nat} {es : Array MapEntry} {c : Nat} (ht : P.underlying t = some (.map k el)) (hx : ev e x = .map (some r)) (hr : w.heap[r]? = some (.map es c)) :
  Y P e ⟨dst, .call ⟨.builtin .len, #[x], #[t]⟩, ty, pos, af, g⟩ w (.int .i64 es.size) := by
 unfold Y
 simp [execOp, resolve, Go.invoke, builtin, Builtin.len_, hx, run_underlying ht, goInt, getObj, Sem.run, hr]
theorem Y.add {x y : Operand} {t u : TypeId} {k : IntKind} {a b : Int} (hx : ev e x = .int k a) (hy : ev e y = .int k b) : Y P e ⟨dst, .binOp .add t x y u, ty, pos, af, g⟩ w (.int k (k.wrap (a + b))) := by
 unfold Y; simp [execOp, hx, hy, eqGuard, binOp, Op.intArith]
theorem Y.sub {x y : Operand} {t u : TypeId} {k : IntKind} {a b : Int} (hx : ev e x = .int k a) (hy : ev e y = .int k b) : Y P e ⟨dst, .binOp .sub t x y u, ty, pos, af, g⟩ w (.int k (k.wrap (a - b))) := by
 unfold Y; simp [execOp, hx, hy, eqGuard, binOp, Op.intArith]
theorem Y.mul {x y : Operand} {t u : TypeId} {k : IntKind} {a b : Int} (hx : ev e x = .int k a) (hy : ev e y = .int k b) : Y P e ⟨dst, .binOp .mul t x y u, ty, pos, af, g⟩ w (.int k (k.wrap (a * b))) := by
 unfold Y; simp [execOp, hx, hy, eqGuard, binOp, Op.intArith]
/-- + and - of int where the sum is known to fit: c is what the slot holds. -/
theorem Y.addI {x y : Operand} {t u : TypeId} {a b : Int} {c : Int} (hx : ev e x = .int .i64 a) (hy : ev e y = .int .i64 b) (hc : a + b = c) (h1 : -9223372036854775808 ≤ a + b) (h2 : a + b ≤ 9223372036854775807) : Y P e ⟨dst, .binOp .add t x y u, ty, pos, af, g⟩ w (.int .i64 c) := by
 have := Y.add (P := P) (w := w) (dst := dst) (t := t) (u := u) (ty := ty) (pos := pos) (af := af) (g := g) hx hy
 rw [wrap_i64 h1 h2, hc] at this; exact this
theorem Y.subI {x y : Operand} {t u : TypeId} {a b : Int} {c : Int} (hx : ev e x = .int .i64 a) (hy : ev e y = .int .i64 b) (hc : a - b = c) (h1 : -9223372036854775808 ≤ a - b) (h2 : a - b ≤ 9223372036854775807) : Y P e ⟨dst, .binOp .sub t x y u, ty, pos, af, g⟩ w (.int .i64 c) := by
 have := Y.sub (P := P) (w := w) (dst := dst) (t := t) (u := u) (ty := ty) (pos := pos) (af := af) (g := g) hx hy
 rw [wrap_i64 h1 h2, hc] at this; exact this
theorem Y.quo {x y : Operand} {t u : TypeId} {k : IntKind} {a b : Int} (hx : ev e x = .int k a) (hy : ev e y = .int k b) (hb : b ≠ 0) : Y P e ⟨dst, .binOp .quo t x y u, ty, pos, af, g⟩ w (.int k (k.wrap (a.tdiv b))) := by
 unfold Y; simp [execOp, hx, hy, eqGuard, binOp, Op.intDiv, hb]
theorem Y.rem {x y : Operand} {t u : TypeId} {k : IntKind} {a b : Int} (hx : ev e x = .int k a) (hy : ev e y = .int k b) (hb : b ≠ 0) : Y P e ⟨dst, .binOp .rem t x y u, ty, pos, af, g⟩ w (.int k (a.tmod b)) := by
 unfold Y; simp [execOp, hx, hy, eqGuard, binOp, Op.intDiv, hb]
theorem Y.eq {x y : Operand} {t u : TypeId} {k : IntKind} {a b : Int} (hx : ev e x = .int k a) (hy : ev e y = .int k b) : Y P e ⟨dst, .binOp .eql t x y u, ty, pos, af, g⟩ w (.bool (decide (a = b))) := by
 unfold Y; simp [execOp, hx, hy, eqGuard, binOp, Op.intCmp]; rfl
theorem Y.ne {x y : Operand} {t u : TypeId} {k : IntKind} {a b : Int} (hx : ev e x = .int k a) (hy : ev e y = .int k b) : Y P e ⟨dst, .binOp .neq t x y u, ty, pos, af, g⟩ w (.bool (decide (¬ a = b))) := by
 unfold Y; simp [execOp, hx, hy, eqGuard, binOp, Op.intCmp]; rfl
theorem Y.lt {x y : Operand} {t u : TypeId} {k : IntKind} {a b : Int} (hx : ev e x = .int k a) (hy : ev e y = .int k b) : Y P e ⟨dst, .binOp .lss t x y u, ty, pos, af, g⟩ w (.bool (decide (a < b))) := by
 unfold Y; simp [execOp, hx, hy, eqGuard, binOp, Op.intCmp]
theorem Y.le {x y : Operand} {t u : TypeId} {k : IntKind} {a b : Int} (hx : ev e x = .int k a) (hy : ev e y = .int k b) : Y P e ⟨dst, .binOp .leq t x y u, ty, pos, af, g⟩ w (.bool (decide (a ≤ b))) := by
 unfold Y; simp [execOp, hx, hy, eqGuard, binOp, Op.intCmp]
theorem Y.gt {x y : Operand} {t u : TypeId} {k : IntKind} {a b : Int} (hx : ev e x = .int k a) (hy : ev e y = .int k b) : Y P e ⟨dst, .binOp .gtr t x y u, ty, pos, af, g⟩ w (.bool (decide (b < a))) := by
 unfold Y; simp [execOp, hx, hy, eqGuard, binOp, Op.intCmp]
theorem Y.ge {x y : Operand} {t u : TypeId} {k : IntKind} {a b : Int} (hx : ev e x = .int k a) (hy : ev e y = .int k b) : Y P e ⟨dst, .binOp .geq t x y u, ty, pos, af, g⟩ w (.bool (decide (b ≤ a))) := by
 unfold Y; simp [execOp, hx, hy, eqGuard, binOp, Op.intCmp]
theorem toList_inj {a b : ByteArray} : (a.toList == b.toList) = decide (a = b) := by
 by_cases h : a = b
 ·subst h; simp
 ·have : ¬ a.toList = b.toList := fun h' => h (by rw [ByteArray.toList_eq, ByteArray.toList_eq] at h'; exact ByteArray.ext (Array.toList_inj.1 h'))
  simp [h, this]
theorem Y.seq {x y : Operand} {t u : TypeId} {a b : ByteArray} (hx : ev e x = .string a) (hy : ev e y = .string b) : Y P e ⟨dst, .binOp .eql t x y u, ty, pos, af, g⟩ w (.bool (decide (a = b))) := by
 unfold Y; rw [← toList_inj]; simp [execOp, hx, hy, eqGuard, binOp, Op.stringOp]
theorem Y.sne {x y : Operand} {t u : TypeId} {a b : ByteArray} (hx : ev e x = .string a) (hy : ev e y = .string b) : Y P e ⟨dst, .binOp .neq t x y u, ty, pos, af, g⟩ w (.bool (!decide (a = b))) := by
 unfold Y; rw [← toList_inj]; simp [execOp, hx, hy, eqGuard, binOp, Op.stringOp]
theorem Y.slt {x y : Operand} {t u : TypeId} {a b : ByteArray} (hx : ev e x = .string a) (hy : ev e y = .string b) : Y P e ⟨dst, .binOp .lss t x y u, ty, pos, af, g⟩ w (.bool (Op.bytesLess a.toList b.toList)) := by
 unfold Y; simp [execOp, hx, hy, eqGuard, binOp, Op.stringOp]
theorem Y.sge {x y : Operand} {t u : TypeId} {a b : ByteArray} (hx : ev e x = .string a) (hy : ev e y = .string b) : Y P e ⟨dst, .binOp .geq t x y u, ty, pos, af, g⟩ w (.bool (!Op.bytesLess a.toList b.toList)) := by
 unfold Y; simp [execOp, hx, hy, eqGuard, binOp, Op.stringOp]
theorem Y.sgt {x y : Operand} {t u : TypeId} {a b : ByteArray} (hx : ev e x = .string a) (hy : ev e y = .string b) : Y P e ⟨dst, .binOp .gtr t x y u, ty, pos, af, g⟩ w (.bool (!(Op.bytesLess a.toList b.toList || decide (a = b)))) := by
 unfold Y; rw [← toList_inj]; simp [execOp, hx, hy, eqGuard, binOp, Op.stringOp]
theorem Y.beq {x y : Operand} {t u : TypeId} {a b : Bool} (ht : P.underlying t = some .bool) (hx : ev e x = .bool a) (hy : ev e y = .bool b) : Y P e ⟨dst, .binOp .eql t x y u, ty, pos, af, g⟩ w (.bool (a == b)) := by
 have h1 : (Op.equal t (.bool a) (.bool b)).run P w = .ok (a == b) w := by
  unfold Op.equal Op.maxDepth Op.equalIn
  simp only [Sem.run_bind, run_underlying ht, Result.andThen]
  rfl
 have h2 : binOp .eql t (.bool a) (.bool b) = (do pure (.bool (← Op.equal t (.bool a) (.bool b)))) := rfl
 unfold Y
 simp only [execOp, hx, hy, eqGuard_at_bool, h2, Sem.run_bind, Sem.run_pure, Result.andThen_ok, h1]
theorem Y.cat {x y : Operand} {t u : TypeId} {a b : ByteArray} (hx : ev e x = .string a) (hy : ev e y = .string b) (h : a.size + b.size ≤ 9223372036854775807) : Y P e ⟨dst, .binOp .add t x y u, ty, pos, af, g⟩ w (.string (a ++ b)) := by
 unfold Y
 have : ¬ (9223372036854775807 : Int) < (a.size : Int) + (b.size : Int) := by omega
 simp [execOp, hx, hy, eqGuard, binOp, Op.stringOp, IntKind.max_i64, this]
theorem Y.not {x : Operand} {t : TypeId} {b : Bool} (hx : ev e x = .bool b) : Y P e ⟨dst, .unOp .not t x, ty, pos, af, g⟩ w (.bool (!b)) := by
 unfold Y; simp [execOp, hx, Op.unary]
theorem Y.neg {x : Operand} {t : TypeId} {k : IntKind} {a : Int} (hx : ev e x = .int k a) : Y P e ⟨dst, .unOp .neg t x, ty, pos, af, g⟩ w (.int k (k.wrap (0 - a))) := by
 unfold Y; simp [execOp, hx, Op.unary, Op.intArith]
theorem ifaceFree_spec {t : TypeId} (h : ifaceFree P t = true) : ∃ d, P.underlying t = some d ∧ ∀ ms, d ≠ .interface ms := by
 unfold ifaceFree at h
 cases hd : P.underlying t with
 | none => rw [hd] at h; cases h
 | some d => rw [hd] at h; refine ⟨d, rfl, fun ms hm => ?_⟩; subst hm; cases h
theorem Y.mkI {x : Operand} {t : TypeId} (ht : ifaceFree P t = true) : Y P e ⟨dst, .makeInterface t x, ty, pos, af, g⟩ w (.iface t (ev e x)) := by
 obtain ⟨d, hd, hm⟩ := ifaceFree_spec ht
 unfold Y
 simp only [execOp, Instr.makeInterface, Sem.run_bind, run_underlying hd, Result.andThen]
 cases d <;> first | rfl | exact absurd rfl (hm _)
theorem Y.asYes {x : Operand} {s t : TypeId} {v : Value} (ht : ifaceFree P t = true) (hx : ev e x = .iface t v) : Y P e ⟨dst, .typeAssert x s t true, ty, pos, af, g⟩ w (.tuple #[v, .bool true]) := by
 obtain ⟨d, hd, hm⟩ := ifaceFree_spec ht
 unfold Y
 simp only [execOp, Instr.typeAssert, Sem.run_bind, run_underlying hd, Result.andThen, hx]
 cases d <;> first | exact absurd rfl (hm _) | simp
theorem Y.as1 {x : Operand} {s t : TypeId} {v : Value} (ht : ifaceFree P t = true) (hx : ev e x = .iface t v) : Y P e ⟨dst, .typeAssert x s t false, ty, pos, af, g⟩ w v := by
 obtain ⟨d, hd, hm⟩ := ifaceFree_spec ht
 unfold Y
 simp only [execOp, Instr.typeAssert, Sem.run_bind, run_underlying hd, Result.andThen, hx]
 cases d <;> first | exact absurd rfl (hm _) | simp
def zeroT (P : Program) (t : TypeId) : Option Value := (P.info? t).bind (·.zero)
theorem run_zeroT {t : TypeId} {z : Value} (h : zeroT P t = some z) (w : World) : (zeroValue t).run P w = .ok z w := by
 unfold zeroT at h
 cases hi : P.info? t with
 | none => rw [hi] at h; cases h
 | some i => rw [hi] at h; simp only [Option.bind_some] at h; simp [zeroValue, typeInfo, hi, h]
theorem Y.asNo {x : Operand} {s t u : TypeId} {v z : Value} (ht : ifaceFree P t = true) (hz : zeroT P t = some z) (hx : ev e x = .iface u v) (hu : Nat.beq u t = false) : Y P e ⟨dst, .typeAssert x s t true, ty, pos, af, g⟩ w (.tuple #[z, .bool false]) := by
 obtain ⟨d, hd, hm⟩ := ifaceFree_spec ht
 have hne : ¬ u = t := fun h => by rw [h, Nat.beq_refl] at hu; cases hu
 unfold Y
 simp only [execOp, Instr.typeAssert, Sem.run_bind, run_underlying hd, Result.andThen, hx]
 cases d <;> first | exact absurd rfl (hm _) | simp [hne, run_zeroT hz]
theorem Y.asNil {x : Operand} {s t : TypeId} {z : Value} (ht : ifaceFree P t = true) (hz : zeroT P t = some z) (hx : ev e x = .nilIface) : Y P e ⟨dst, .typeAssert x s t true, ty, pos, af, g⟩ w (.tuple #[z, .bool false]) := by
 obtain ⟨d, hd, hm⟩ := ifaceFree_spec ht
 unfold Y
 simp only [execOp, Instr.typeAssert, Sem.run_bind, run_underlying hd, Result.andThen, hx]
 cases d <;> first | exact absurd rfl (hm _) | simp [run_zeroT hz]
theorem Y.extract {x : Operand} {i : Nat} {vs : Array Value} {v : Value} (hx : ev e x = .tuple vs) (hv : vs[i]? = some v) : Y P e ⟨dst, .extract x i, ty, pos, af, g⟩ w v := by
 unfold Y; simp [execOp, Instr.extract, hx, hv]
theorem Y.pickT {c x y : Operand} (hc : ev e c = .bool true) : Y P e ⟨dst, .pick c x y, ty, pos, af, g⟩ w (ev e x) := by
 unfold Y; simp [execOp, asBool, hc]
theorem Y.pickF {c x y : Operand} (hc : ev e c = .bool false) : Y P e ⟨dst, .pick c x y, ty, pos, af, g⟩ w (ev e y) := by
 unfold Y; simp [execOp, asBool, hc]
/-- p && q, of which q is told where p holds. -/
theorem Y.and {c x y : Operand} {p q : Bool} (hc : ev e c = .bool p) (hx : p = true → ev e x = .bool q) (hy : ev e y = .bool false) : Y P e ⟨dst, .pick c x y, ty, pos, af, g⟩ w (.bool (p && q)) := by
 cases p with
 | true => have := Y.pickT (P := P) (w := w) (dst := dst) (ty := ty) (pos := pos) (af := af) (g := g) (x := x) (y := y) hc; rw [hx rfl] at this; exact this
 | false => have := Y.pickF (P := P) (w := w) (dst := dst) (ty := ty) (pos := pos) (af := af) (g := g) (x := x) (y := y) hc; rw [hy] at this; exact this
theorem Y.or {c x y : Operand} {p q : Bool} (hc : ev e c = .bool p) (hx : ev e x = .bool true) (hy : p = false → ev e y = .bool q) : Y P e ⟨dst, .pick c x y, ty, pos, af, g⟩ w (.bool (p || q)) := by
 cases p with
 | true => have := Y.pickT (P := P) (w := w) (dst := dst) (ty := ty) (pos := pos) (af := af) (g := g) (x := x) (y := y) hc; rw [hx] at this; exact this
 | false => have := Y.pickF (P := P) (w := w) (dst := dst) (ty := ty) (pos := pos) (af := af) (g := g) (x := x) (y := y) hc; rw [hy rfl] at this; exact this
theorem Y.nil {x : Operand} {a : Addr} (hx : ev e x = .pointer (some a)) : Y P e ⟨dst, .nilCheck x, ty, pos, af, g⟩ w (.pointer (some a)) := by
 unfold Y; simp [execOp, hx]
theorem Y.convIF {x : Operand} {s t : TypeId} {k : IntKind} {a : Int} (hs : (P.underlying s).isSome = true) (ht : P.underlying t = some (.float .f64)) (hx : ev e x = .int k a) : Y P e ⟨dst, .convert s t x, ty, pos, af, g⟩ w (.float .f64 (FloatKind.f64.nearest a)) := by
 obtain ⟨d, hd⟩ := Option.isSome_iff_exists.1 hs
 unfold Y; simp [execOp, convert, run_underlying hd, run_underlying ht, hx, Conv.intToFloat]
theorem Y.convII {x : Operand} {s t : TypeId} {k k' : IntKind} {a : Int} (hs : (P.underlying s).isSome = true) (ht : P.underlying t = some (.int k')) (hx : ev e x = .int k a) : Y P e ⟨dst, .convert s t x, ty, pos, af, g⟩ w (.int k' (k'.wrap a)) := by
 obtain ⟨d, hd⟩ := Option.isSome_iff_exists.1 hs
 unfold Y; simp [execOp, convert, run_underlying hd, run_underlying ht, hx, Conv.intToInt]

/-! ### What makes or writes memory -/
theorem DL.new {o : Oper} {d : Nat} {ob : Obj} (hg : wantB ops e o.guard = true) (hd : o.dst = some d) (hn : Nat.blt d n = true) (h : (execOp (ev e) o).run P w = .ok (.value (.pointer (some ⟨w.heap.size, 0, none⟩))) { w with heap := w.heap.push ob })
  (k : ∀ b w', Fr [] w w' → w.heap.size ≤ b → b < w'.heap.size → w'.heap[b]? = some ob → DL P n ops rest (upd e d (.pointer (some ⟨b, 0, none⟩))) w' K) : DL P n ops (o :: rest) e w K := by
 refine DL.run hg (by rw [hd]; exact hn) h ?_
 rw [hd]
 exact k w.heap.size _ (fr_alloc w ob) (Nat.le_refl _) (by simp) (blk_alloc w ob)
theorem DL.box1 {x : Operand} {t : TypeId} {d : Nat} {v : Value} (hg : wantB ops e g = true) (hn : Nat.blt d n = true) (hx : ev e x = v) (hv : v.cells = #[v])
  (k : ∀ b w', Fr [] w w' → w.heap.size ≤ b → b < w'.heap.size → w'.heap[b]? = some (.cells #[v] t (0, 0)) → DL P n ops rest (upd e d (.pointer (some ⟨b, 0, none⟩))) w' K) :
  DL P n ops (⟨some d, .box t x, ty, pos, af, g⟩ :: rest) e w K :=
 DL.new hg rfl hn (by simp [execOp, Instr.box, newVar, newRow, newObj, hx, hv, Sem.run]) k
theorem DL.boxA {x : Operand} {t : TypeId} {d : Nat} {cs : Array Value} (hg : wantB ops e g = true) (hn : Nat.blt d n = true) (hx : ev e x = .agg cs)
  (k : ∀ b w', Fr [] w w' → w.heap.size ≤ b → b < w'.heap.size → w'.heap[b]? = some (.cells cs t (0, 0)) → DL P n ops rest (upd e d (.pointer (some ⟨b, 0, none⟩))) w' K) :
  DL P n ops (⟨some d, .box t x, ty, pos, af, g⟩ :: rest) e w K :=
 DL.new hg rfl hn (by simp [execOp, Instr.box, newVar, newRow, newObj, hx, Value.cells, Sem.run]) k
theorem DL.alloc {t : TypeId} {d : Nat} {z : Value} {cs : Array Value} (hg : wantB ops e g = true) (hn : Nat.blt d n = true) (hz : zeroT P t = some z) (hc : z.cells = cs)
  (k : ∀ b w', Fr [] w w' → w.heap.size ≤ b → b < w'.heap.size → w'.heap[b]? = some (.cells cs t (0, 0)) → DL P n ops rest (upd e d (.pointer (some ⟨b, 0, none⟩))) w' K) :
  DL P n ops (⟨some d, .alloc t, ty, pos, af, g⟩ :: rest) e w K :=
 DL.new hg rfl hn (by simp [execOp, Instr.alloc, run_zeroT hz, newVar, newRow, newObj, hc, Sem.run]) k
/-- A store of one cell into a block that nothing has frozen. -/
theorem DL.store {x y : Operand} {t u : TypeId} {b o : Nat} {cs : Array Value} {v : Value} (hg : wantB ops e g = true) (ht : P.cellsOf t = 1) (hi : (P.info? t).isSome = true) (hx : ev e x = .pointer (some ⟨b, o, none⟩)) (hy : ev e y = v) (hv : v.oneCell' = true)
  (hb : w.heap[b]? = some (.cells cs u (0, 0))) (ho : Nat.blt o cs.size = true)
  (k : ∀ w', Fr [b] w w' → w'.heap.size = w.heap.size → w'.heap[b]? = some (.cells (cs.setIfInBounds o v) u (0, 0)) → DL P n ops rest e w' K) :
  DL P n ops (⟨none, .store t x y, ty, pos, af, g⟩ :: rest) e w K := by
 have ho : o < cs.size := Nat.le_of_ble_eq_true ho
 obtain ⟨i, hi⟩ := Option.isSome_iff_exists.1 hi
 have hs : i.size = 1 := by simpa [Program.cellsOf, hi] using ht
 have hcell : v.cells = #[v] := by cases v <;> first | rfl | cases hv
 have hc : w.cell? ⟨b, o, none⟩ = some cs[o] := cell_of_blk hb (Array.getElem?_eq_getElem ho)
 have hf : w.frozen? ⟨b, o, none⟩ = false := by simp [World.frozen?, hb]
 have hst : (Sem.store .plain (Addr.add ⟨b, o, none⟩ 0) v (Sem.pure ())).run P w = .ok () (w.setCell ⟨b, o, none⟩ v) := by
  rw [add_addr, Nat.add_zero]
  cases v <;> first | (simp [Sem.run, hc, hf]; done) | cases hv
 refine DL.runU hg rfl (w' := w.setCell ⟨b, o, none⟩ v) ?_ ?_
 ·simp [execOp, Instr.storeAt, hx, hy, Instr.sureAddr, storeVar, sizeOf, typeInfo, hi, hs, hcell, storeCells, Go.store, hst]
 ·exact k _ (fr_setCell w ⟨b, o, none⟩ v) (by simp [World.setCell]) (blk_setCell v hb)
/-- A call of a function that is named. -/
structure Named (P : Program) (f : FuncId) : Prop where
 out : ∃ fn, P.funcs[f]? = some fn ∧ (fn.name == "runtime.NumGoroutine") = false ∧ fn.body.isNone = false
theorem execOp_call {f : FuncId} {xs : Array Operand} {ats : Array TypeId} (hf : Named P f) : (execOp (ev e) ⟨dst, .call ⟨.value (.func f), xs, ats⟩, ty, pos, af, g⟩).run P w = .ok (.enter f (xs.map (ev e))) w := by
 obtain ⟨fn, h1, h2, h3⟩ := hf.out
 have h4 : execOp (ev e) ⟨dst, .call ⟨.value (.func f), xs, ats⟩, ty, pos, af, g⟩ = callFunc f (#[] ++ xs.map (ev e) ++ #[]) := rfl
 have h5 : (#[] ++ xs.map (ev e) ++ #[]) = xs.map (ev e) := by simp
 rw [h4, h5]
 unfold callFunc
 simp only [Sem.run_bind, run_program, Result.andThen_ok, h1, h2, h3, Bool.false_eq_true, if_false]
 rfl
def evs (e : Env) : List Operand → List Value
 | [] => []
 | x :: r => ev e x :: evs e r
theorem evs_eq (e : Env) : ∀ l, evs e l = l.map (ev e)
 | [] => rfl
 | x :: r => by simp [evs, evs_eq e r]
/-- What is told of a call: it returns, and the world is framed. -/
def Ret (w : World) (S : List Nat) (post : Value → World → Prop) : Ending → World → Prop
 | .returned v, w' => Fr S w w' ∧ post v w'
 | _, _ => False
theorem DL.call {f : FuncId} {l : List Operand} {args : List Value} {ats : Array TypeId} {S : List Nat} {post : Value → World → Prop} (hg : wantB ops e g = true) (hn : ltB n dst = true) (hf : Named P f) (ha : evs e l = args)
  (hc : Calls P f args.toArray w (Ret w S post)) (k : ∀ v w', Fr S w w' → post v w' → DL P n ops rest (put e dst v) w' K) :
  DL P n ops (⟨dst, .call ⟨.value (.func f), l.toArray, ats⟩, ty, pos, af, g⟩ :: rest) e w K := by
 refine DL.op hg hn fun next a Q N hev hN hk => ?_
 unfold Oper.wp
 rw [hev, execOp_call hf, Oper.upon_enter]
 have : (l.toArray.map (ev e)) = args.toArray := by rw [← ha, evs_eq]; simp
 rw [this]
 refine hc.mono fun x w' hx => ?_
 cases x with
 | returned v => exact hN _ _ (hk _ _ (k v w' hx.1 hx.2))
 | _ => exact hx.elim

/-! ### A drawn region with calls that hand back values known ahead -/
/-- The operations of l, in every world of the class C: one value each. -/
structure DQ (P : Program) (n : Nat) (ops : List Oper) (C : World → Prop) (l : List Oper) (e : Env) (K : Env → Prop) : Prop where
 out : ∀ (a : Act) (Q : Act → Prop), Rep n a e → (∀ a' e', Rep n a' e' → (∀ t, t ∉ dstsL l → e' t = e t) → K e' → Q a') → wpQuiet P ops.toArray C Q l a
section
variable {C : World → Prop} {KQ : Env → Prop} {o : Oper}
theorem DQ.nil (h : KQ e) : DQ P n ops C [] e KQ := ⟨fun a Q ha hq => hq a e ha (fun _ _ => rfl) h⟩
theorem DQ.y {v : Value} (hg : wantB ops e o.guard = true) (hd : ltB n o.dst = true) (h : ∀ w, C w → Y P e o w v) (k : DQ P n ops C rest (put e o.dst v) KQ) : DQ P n ops C (o :: rest) e KQ := by
 refine ⟨fun a Q ha hq => ?_⟩
 unfold wpQuiet
 rw [wantB_eq ha, hg, if_pos rfl]
 refine ⟨v, fun w hw => ?_, k.out _ _ (ha.put o.dst v (ltB_spec hd)) (fun a' e' h1 h2 h3 => hq a' e' h1 (fun t ht => ?_) h3)⟩
 ·unfold Oper.quietAt
  rw [ha.eval, h w hw]
  exact ⟨rfl, rfl⟩
 ·obtain ⟨k1, k2⟩ := dstsL_cons ht
  rw [h2 t k1, put_ne _ k2]
theorem DQ.skip (hg : wantB ops e o.guard = false) (hd : ltB n o.dst = true) (k : DQ P n ops C rest (put e o.dst undef) KQ) : DQ P n ops C (o :: rest) e KQ := by
 refine ⟨fun a Q ha hq => ?_⟩
 unfold wpQuiet
 rw [wantB_eq ha, hg, if_neg (by simp)]
 refine k.out _ _ (ha.put o.dst undef (ltB_spec hd)) (fun a' e' h1 h2 h3 => hq a' e' h1 (fun t ht => ?_) h3)
 obtain ⟨k1, k2⟩ := dstsL_cons ht
 rw [h2 t k1, put_ne _ k2]
theorem DQ.call {w0 : World} {f : FuncId} {l : List Operand} {args : List Value} {ats : Array TypeId} {v : Value} (hg : wantB ops e g = true) (hn : ltB n dst = true) (hf : Named P f) (ha : evs e l = args)
  (hc : ∀ w, Fr [] w0 w → Calls P f args.toArray w (Ret w [] fun r _ => r = v)) (k : DQ P n ops (Fr [] w0) rest (put e dst v) KQ) :
  DQ P n ops (Fr [] w0) (⟨dst, .call ⟨.value (.func f), l.toArray, ats⟩, ty, pos, af, g⟩ :: rest) e KQ := by
 refine ⟨fun a Q ha' hq => ?_⟩
 unfold wpQuiet
 rw [wantB_eq ha', hg, if_pos rfl]
 refine ⟨v, fun w hw => ?_, k.out _ _ (ha'.put dst v (ltB_spec hn)) (fun a' e' h1 h2 h3 => hq a' e' h1 (fun t ht => ?_) h3)⟩
 ·unfold Oper.quietAt
  rw [ha'.eval, execOp_call hf]
  have : (l.toArray.map (ev e)) = args.toArray := by rw [← ha, evs_eq]; simp
  rw [this]
  refine ⟨rfl, (hc w hw).mono fun x w' hx => ?_⟩
  cases x with
  | returned r => exact ⟨by rw [hx.2], hw.tr hx.1⟩
  | _ => exact hx.elim
 ·obtain ⟨k1, k2⟩ := dstsL_cons ht
  rw [h2 t k1, put_ne _ k2]
theorem DC.quiet {id : Nat} {l : List Oper} {Q : Exit → Env → World → Prop} (hm : P.follows .mixedOrders = true) (hB : Region.lexB .any l.toArray = true)
  (h : DQ P n l (Fr [] w) l e (fun e' => ∀ w', Fr [] w w' → Q .normal e' w')) : DC P n (.region id l.toArray true) e w Q := by
 refine ⟨fun a ha => ?_⟩
 refine wp_region_quiet (C := Fr [] w) hm hB (Fr.drawn w (w.drawn + 1)) ?_
 have := h.out a (fun a' => ∀ w', Fr [] w w' → (∃ e', Rep n a' e' ∧ (∀ t, t ∉ dstsC (.region id l.toArray true) → e' t = e t) ∧ Q .normal e' w')) ha
  (fun a' e' h1 h2 h3 w' hw => ⟨e', h1, fun t ht => h2 t (by simpa [dstsC] using ht), h3 w' hw⟩)
 simpa using this
end

/-! ### A function -/
def resE (P : Program) (e : Env) (w : World) : List ResultVar → List Value → Prop
 | [], [] => True
 | .tmp t :: r, v :: vs => e t = v ∧ resE P e w r vs
 | .cell t ty :: r, v :: vs => (∃ a, e t = .pointer (some a) ∧ (loadVar ty a).run P w = .ok v w) ∧ resE P e w r vs
 | _, _ => False
def tupV : List Value → Value
 | [v] => v
 | vs => .tuple vs.toArray
def FinQ (P : Program) (res : List ResultVar) (R : Ending → World → Prop) : Exit → Env → World → Prop
 | .ret, e, w | .normal, e, w => ∃ vs, resE P e w res vs ∧ R (.returned (tupV vs)) w
 | _, _, _ => False
def env0 (args : List Value) : Env := nthV args
def resOne (tmps : Array Value) : ResultVar → Sem Value
 | .tmp t => pure (tmps.getD t undef)
 | .cell a t => do loadVar t (← asAddr (tmps.getD a undef))
theorem results_run {fn : Func} {res : List ResultVar} (hr : fn.results = res.toArray) {a : Act} {m : Nat} (ha : Rep m a e) {vs : List Value} (h : resE P e w res vs) : (results fn a.tmps).run P w = .ok (tupV vs) w := by
 have g1 : ∀ t, (resOne a.tmps (.tmp t)).run P w = .ok (e t) w := fun t => by simp only [resOne, ha.get]; rfl
 have g2 : ∀ t ty ad v, e t = .pointer (some ad) → (loadVar ty ad).run P w = .ok v w → (resOne a.tmps (.cell t ty)).run P w = .ok v w := fun t ty ad v h1 h2 => by
  simp only [resOne, ha.get, h1, asAddr, Sem.run_bind, Sem.run_pure, Result.andThen_ok, h2]
 have key : ∀ (res : List ResultVar) (vs : List Value), resE P e w res vs → (res.mapM (resOne a.tmps)).run P w = .ok vs w := by
  intro res
  induction res with
  | nil => intro vs h; cases vs with
   | nil => rfl
   | cons _ _ => cases h
  | cons r res ih =>
   intro vs h
   cases vs with
   | nil => cases r <;> cases h
   | cons v vs =>
    rw [List.mapM_cons]
    cases r with
    | tmp t =>
     have h2 := ih vs h.2
     simp only [Sem.run_bind, g1 t, Result.andThen_ok, h2, h.1, Sem.run_pure]
    | cell b t =>
     obtain ⟨⟨ad, h1, h2⟩, h3⟩ := h
     have h4 := ih vs h3
     simp only [Sem.run_bind, g2 b t ad v h1 h2, Result.andThen_ok, h4, Sem.run_pure]
 have h2 := key res vs h
 have h3 : (results fn a.tmps) = (do let vs ← fn.results.mapM (resOne a.tmps); pure (if h : vs.size = 1 then vs[0] else .tuple vs)) := rfl
 rw [h3, hr, List.mapM_toArray]
 simp only [Sem.run_bind, Sem.run_map, h2, Result.andThen_ok, Sem.run_pure]
 match vs with
 | [] => rfl
 | [v] => rfl
 | v :: u :: r => simp [tupV]
theorem nthV_eq (l : List Value) : ∀ t, nthV l t = l.getD t undef := by
 induction l with
 | nil => intro t; simp [nthV]
 | cons v l ih => intro t; cases t with
  | zero => simp [nthV]
  | succ t => simp [nthV, ih]
theorem calls_of {f : FuncId} {fn : Func} {body : Code} {args : List Value} {res : List ResultVar} {R : Ending → World → Prop} (hf : P.funcs[f]? = some fn) (hb : fn.body = some body) (hr : fn.results = res.toArray) (hn : fn.ntmps = n) (ha : Nat.ble args.length n = true)
  (h : DC P n body (env0 args) w (FinQ P res R)) : Calls P f args.toArray w R := by
 have ha := Nat.le_of_ble_eq_true ha
 refine calls_of_wp hf hb ?_
 have hrep : Rep n { tmps := args.toArray ++ Array.replicate (fn.ntmps - args.toArray.size) undef, defers := [] } (env0 args) := by
  refine ⟨rfl, by simp [hn]; omega, fun t => ?_⟩
  unfold env0
  rw [nthV_eq, Array.getD_eq_getD_getElem?, List.getD_eq_getElem?_getD]
  by_cases ht : t < args.length
  ·rw [Array.getElem?_append_left (by simpa using ht)]; simp
  ·rw [Array.getElem?_append_right (by simpa using ht), List.getElem?_eq_none (by omega), Array.getElem?_replicate]
   split <;> rfl
 refine wp_mono (h.out _ hrep) ?_
 rintro x a' w' ⟨e', h1, -, h3⟩
 cases x with
 | normal => obtain ⟨vs, k1, k2⟩ := h3; exact ⟨h1.defers, _, results_run hr h1 k1, k2⟩
 | ret => obtain ⟨vs, k1, k2⟩ := h3; exact ⟨h1.defers, _, results_run hr h1 k1, k2⟩
 | _ => exact h3.elim
theorem FinQ.ret1 {t : Nat} {v : Value} {R : Ending → World → Prop} (h : e t = v) (hR : R (.returned v) w) : FinQ P [.tmp t] R .ret e w := ⟨[v], ⟨h, trivial⟩, hR⟩
theorem FinQ.ret2 {t u : Nat} {v x : Value} {R : Ending → World → Prop} (h : e t = v) (h' : e u = x) (hR : R (.returned (.tuple #[v, x])) w) : FinQ P [.tmp t, .tmp u] R .ret e w := ⟨[v, x], ⟨h, h', trivial⟩, hR⟩
theorem FinQ.end0 {R : Ending → World → Prop} (hR : R (.returned (.tuple #[])) w) : FinQ P [] R .normal e w := ⟨[], trivial, hR⟩
theorem FinQ.ret0 {R : Ending → World → Prop} (hR : R (.returned (.tuple #[])) w) : FinQ P [] R .ret e w := ⟨[], trivial, hR⟩
theorem FinQ.retC {t ty b o : Nat} {cs : Array Value} {R : Ending → World → Prop} (h : e t = .pointer (some ⟨b, o, none⟩)) (ht : aggT P ty cs.size = true) (hc : CellsAt w b o cs) (hR : R (.returned (.agg cs)) w) : FinQ P [.cell t ty] R .ret e w :=
 ⟨[.agg cs], ⟨⟨_, h, loadVar_agg ht hc⟩, trivial⟩, hR⟩
theorem Ret.mk {w' : World} {S : List Nat} {post : Value → World → Prop} {v : Value} (h : Fr S w w') (hp : post v w') : Ret w S post (.returned v) w' := ⟨h, hp⟩
theorem DL.ifb {o : Oper} {b : Bool} (hg : wantB ops e o.guard = true) (hd : ltB n o.dst = true) (h : Y P e o w (.bool b)) (ht : b = true → DL P n ops rest (put e o.dst (.bool true)) w K)
  (hf : b = false → DL P n ops rest (put e o.dst (.bool false)) w K) : DL P n ops (o :: rest) e w K := by
 cases b with
 | true => exact DL.y hg hd h (ht rfl)
 | false => exact DL.y hg hd h (hf rfl)
end
end Go.Proofs.YtmbleojlnaofjaaGreatDoor.D

/- More laws: structs that are built, make of a slice and of a map, a store at an index, a new key in a map, floats. -/
namespace Go.Proofs.YtmbleojlnaofjaaGreatDoor.D
open Go Go.RowKit Go.Deep
set_option linter.unusedVariables false
set_option linter.unusedSectionVars false
set_option linter.unusedSimpArgs false

/-- What a composite of a struct type holds. -/
def placesP (P : Program) (fs : Array Field) : Option (Array (Nat × Nat)) := fs.mapM fun f => (P.info? f.type).map fun i => (f.offset, i.size)
def buildP (P : Program) (t : TypeId) (parts : List (Nat × Value)) : Option (Array Value) :=
 match zeroT P t, P.underlying t with
 | some z, some (.struct fs) => (placesP P fs).bind fun places => Instr.fill (places[·]?) z.cells parts
 | _, _ => none
def evp (e : Env) : List (Nat × Operand) → List (Nat × Value)
 | [] => []
 | p :: r => (p.1, ev e p.2) :: evp e r
theorem evp_eq (e : Env) : ∀ l, evp e l = l.map fun p => (p.1, ev e p.2)
 | [] => rfl
 | x :: r => by simp [evp, evp_eq e r]
section
variable {P : Program} {n : Nat} {e : Env} {w : World} {ops rest : List Oper} {K : Env → World → Prop} {dst : Option Tmp} {ty : TypeId} {pos : String} {af : Array Edge} {g : Option (Nat × Bool)}
theorem placesP_run {fs : Array Field} {places : Array (Nat × Nat)} (h : placesP P fs = some places) (w : World) : (fs.mapM fun f => do pure (f.offset, ← sizeOf f.type) : Sem (Array (Nat × Nat))).run P w = .ok places w := by
 obtain ⟨l⟩ := fs
 unfold placesP at h
 rw [List.mapM_toArray] at h ⊢
 have key : ∀ (l : List Field) (r : List (Nat × Nat)), (l.mapM fun f => (P.info? f.type).map fun i => (f.offset, i.size)) = some r → (l.mapM fun f => do pure (f.offset, ← sizeOf f.type) : Sem (List (Nat × Nat))).run P w = .ok r w := by
  intro l
  induction l with
  | nil => intro r h; simp only [List.mapM_nil, Option.pure_def, Option.some.injEq] at h; subst h; rfl
  | cons f l ih =>
   intro r h
   rw [List.mapM_cons] at h ⊢
   cases hi : P.info? f.type with
   | none => rw [hi] at h; cases h
   | some i =>
    rw [hi] at h
    cases hr : (l.mapM fun f => (P.info? f.type).map fun i => (f.offset, i.size)) with
    | none => rw [hr] at h; cases h
    | some r' =>
     rw [hr] at h
     have := ih r' hr
     simp only [Option.map_some, Option.bind_eq_bind, Option.bind_some, Option.pure_def, Option.some.injEq] at h
     subst h
     have h0 : (sizeOf f.type).run P w = .ok i.size w := by simp [sizeOf, typeInfo, hi]
     simp only [Sem.run_bind, h0, Result.andThen_ok, Sem.run_pure, this]
 cases hr : (l.mapM fun f => (P.info? f.type).map fun i => (f.offset, i.size)) with
 | none => rw [hr] at h; cases h
 | some r =>
  rw [hr] at h
  simp only [Option.map_eq_map, Option.map_some, Option.some.injEq] at h
  subst h
  simp only [Sem.run_map, key l r hr, Result.andThen_ok]
theorem Y.build {t : TypeId} {parts : List (Nat × Operand)} {cs : Array Value} (h : buildP P t (evp e parts) = some cs) : Y P e ⟨dst, .build t parts.toArray, ty, pos, af, g⟩ w (.agg cs) := by
 unfold buildP at h
 cases hz : zeroT P t with
 | none => rw [hz] at h; cases h
 | some z =>
  rw [hz] at h
  cases hu : P.underlying t with
  | none => rw [hu] at h; cases h
  | some d =>
   rw [hu] at h
   cases d with
   | struct fs =>
    simp only at h
    cases hp : placesP P fs with
    | none => rw [hp] at h; cases h
    | some places =>
     rw [hp] at h
     simp only [Option.bind_some] at h
     have hparts : (parts.toArray.map fun (i, x) => (i, ev e x)).toList = evp e parts := by rw [evp_eq]; simp
     have hrun : (Instr.build t (parts.toArray.map fun (i, x) => (i, ev e x))).run P w = .ok (.agg cs) w := by
      unfold Instr.build
      simp only [Sem.run_bind, run_zeroT hz, Result.andThen_ok, run_underlying hu, placesP_run hp]
      rw [hparts, h]
      rfl
     unfold Y
     simp only [execOp, Sem.run_bind, hrun, Result.andThen_ok, Sem.run_pure]
   | _ => cases h
theorem Y.quoI {x y : Operand} {t u : TypeId} {k : IntKind} {a b c : Int} (hx : ev e x = .int k a) (hy : ev e y = .int k b) (hb : b ≠ 0) (hc : k.wrap (a.tdiv b) = c) : Y P e ⟨dst, .binOp .quo t x y u, ty, pos, af, g⟩ w (.int k c) := by
 rw [← hc]; exact Y.quo hx hy hb
theorem Y.farith {op : BinOp} {x y : Operand} {t u : TypeId} {a b r : Nat} (hx : ev e x = .float .f64 a) (hy : ev e y = .float .f64 b) (h : floatBits op .f64 a b = some r) : Y P e ⟨dst, .binOp op t x y u, ty, pos, af, g⟩ w (.float .f64 r) := by
 unfold Y
 have hg : eqGuard op t x y (.float .f64 a) (.float .f64 b) = pure () := by cases op <;> rfl
 simp only [execOp, hx, hy, hg, Sem.run_bind, Sem.run_pure, Result.andThen_ok, run_float_arith w op t .f64 a b r h]
/-- A bool of a test that is known. -/
theorem Y.eqNilI {x : Operand} {t u : TypeId} {d : TypeId} {v : Value} {ms : Array (String × TypeId)} (ht : P.underlying t = some (.interface ms)) (hx : ev e x = .iface d v) : Y P e ⟨dst, .binOp .eql t x (.const .nilIface) u, ty, pos, af, g⟩ w (.bool false) := by
 have h1 : (Op.equal t (.iface d v) .nilIface).run P w = .ok false w := by
  unfold Op.equal Op.maxDepth Op.equalIn
  simp only [Sem.run_bind, run_underlying ht, Result.andThen]
  rfl
 have h2 : binOp .eql t (.iface d v) .nilIface = (do pure (.bool (← Op.equal t (.iface d v) .nilIface))) := rfl
 have h3 : ev e (.const .nilIface) = .nilIface := rfl
 unfold Y
 simp only [execOp, hx, h3, eqGuard_at_iface, h2, Sem.run_bind, Sem.run_pure, Result.andThen_ok, h1]

/-- The element's facts that make asks for. -/
def elemT (P : Program) (t el : TypeId) (z : Value) (bytes : Nat) : Prop := P.underlying t = some (.slice el) ∧ (P.info? el).map (fun i => (i.zero, i.size, i.bytes)) = some (some z, 1, bytes)
theorem DL.makeS {x y : Operand} {t el d m bytes : Nat} {z : Value} (hg : wantB ops e g = true) (hn : Nat.blt d n = true) (ht : elemT P t el z bytes) (h1 : z.oneCell' = true) (hx : ev e x = .int .i64 (m : Int)) (hy : ev e y = .int .i64 (m : Int)) (hb : m * bytes ≤ 281474976710656) (hm : m ≤ 9223372036854775807)
  (k : ∀ b w' cs, Fr [] w w' → w.heap.size ≤ b → b < w'.heap.size → w'.heap[b]? = some (.cells cs el (0, 0)) → cs.size = m → (∀ i, i < m → cs[i]? = some z) → DL P n ops rest (upd e d (.slice (some ⟨b, 0, none⟩) m m)) w' K) :
  DL P n ops (⟨some d, .makeSlice t x y, ty, pos, af, g⟩ :: rest) e w K := by
 have hz : z.cells = #[z] := by cases z <;> first | rfl | cases h1
 have hrun := run_make_row' (P := P) t el z bytes ht.1 ht.2 hz .i64 .i64 m (by rw [Nat.mul_comm]; exact hb) hm w
 refine DL.run (v := .slice (some ⟨w.heap.size, 0, none⟩) m m) (w' := { w with heap := w.heap.push (.cells (madeCells #[z] m) el) }) hg hn ?_ ?_
 ·simp only [execOp, hx, hy, Sem.run_bind, hrun, Result.andThen_ok, Sem.run_pure]
  rfl
 ·refine k w.heap.size _ (madeCells #[z] m) (fr_alloc w _) (Nat.le_refl _) (by simp) (blk_alloc w _) ?_ ?_
  ·simp [madeCells]
  ·intro i hi
   simp [madeCells, hi, Nat.mod_one]
/-- A store of one cell at an address that is reckoned. -/
theorem DL.storeP {x y : Operand} {t u : TypeId} {b o : Nat} {cs : Array Value} {v : Value} (hg : wantB ops e g = true) (ht : P.cellsOf t = 1) (hi : (P.info? t).isSome = true) (hx : ev e x = .pointer (some ⟨b, o, none⟩)) (hy : ev e y = v) (hv : v.oneCell' = true)
  (hb : w.heap[b]? = some (.cells cs u (0, 0))) (ho : o < cs.size)
  (k : ∀ w', Fr [b] w w' → w'.heap.size = w.heap.size → w'.heap[b]? = some (.cells (cs.setIfInBounds o v) u (0, 0)) → DL P n ops rest e w' K) :
  DL P n ops (⟨none, .store t x y, ty, pos, af, g⟩ :: rest) e w K :=
 DL.store hg ht hi hx hy hv hb (Nat.ble_eq_true_of_le ho) k
/-- A struct stored over a whole block. -/
theorem DL.storeA {x y : Operand} {t u : TypeId} {b m : Nat} {old cs : Array Value} (hg : wantB ops e g = true) (ht : aggT P t m = true) (hx : ev e x = .pointer (some ⟨b, 0, none⟩)) (hy : ev e y = .agg cs) (hs : cs.size = m) (h1 : cs.all (·.oneCell') = true)
  (hb : w.heap[b]? = some (.cells old u (0, 0))) (ho : old.size = m)
  (k : ∀ w', Fr [b] w w' → w'.heap.size = w.heap.size → w'.heap[b]? = some (.cells cs u (0, 0)) → DL P n ops rest e w' K) :
  DL P n ops (⟨none, .store t x y, ty, pos, af, g⟩ :: rest) e w K := by
 have hsz : (P.info? t).map (·.size) = some cs.size := by
  unfold aggT at ht
  rw [Bool.and_eq_true] at ht
  cases hi : P.info? t with
  | none => rw [hi] at ht; cases ht.2
  | some i => rw [hi] at ht; simp only [Option.map_some, hs]; simpa using ht.2
 have hrun := run_storeVar_row (P := P) w b u t old cs hb hsz (by rw [ho, hs]) h1
 have hlt := lt_of_blk hb
 refine DL.runU (w' := w.setRow b cs) hg rfl ?_ (k _ ⟨rfl, rfl, rfl, by simp [World.setRow], fun i hi hn => ?_⟩ (by simp [World.setRow]) ?_)
 ·simp only [execOp, hx, hy, Instr.storeAt, Instr.sureAddr, Sem.run_bind, Sem.run_pure, Result.andThen_ok, hrun]
 ·have hne : b ≠ i := fun h => hn (by simp [h])
  simp [World.setRow, Array.getElem?_modify, hne]
 ·simp [World.setRow, Array.getElem?_modify, hb]
theorem DL.makeM {t kt el d : Nat} {x : Operand} {m : Int} (hg : wantB ops e g = true) (hn : Nat.blt d n = true) (ht : P.underlying t = some (.map kt el)) (hx : ev e x = .int .i64 m)
  (k : ∀ b w', Fr [] w w' → w.heap.size ≤ b → b < w'.heap.size → w'.heap[b]? = some (.map #[] 0) → DL P n ops rest (upd e d (.map (some b))) w' K) :
  DL P n ops (⟨some d, .makeMap t (some x), ty, pos, af, g⟩ :: rest) e w K := by
 refine DL.run (v := .map (some w.heap.size)) (w' := { w with heap := w.heap.push (.map #[] 0) }) hg hn ?_ (k w.heap.size _ (fr_alloc w _) (Nat.le_refl _) (by simp) (blk_alloc w _))
 simp only [execOp, Option.map_some, hx, Instr.makeMap, Sem.run_bind, run_underlying ht, Result.andThen_ok, asInt, asIntOf, Sem.run_pure]
 simp [newObj, Sem.run]
theorem findNow_none {s : ByteArray} : ∀ (l : List MapEntry) (i : Nat), (∀ x ∈ l, ∃ t : ByteArray, x.key = .string t ∧ t ≠ s) → Instr.findNow .string (.string s) l i = some none
 | [], i, h => rfl
 | x :: l, i, h => by
  obtain ⟨t, h1, h2⟩ := h x (by simp)
  have hne : (s == t) = false := (beq_eq_false_iff_ne.2 (fun h => h2 (ByteArray.ext h.symm)) : (s.data == t.data) = false)
  unfold Instr.findNow
  rw [h1]
  simp only [Instr.sameNow, hne]
  exact findNow_none l (i + 1) (fun y hy => h y (by simp [hy]))
/-- A new key in a map with keys of strings. -/
theorem DL.mapNew {m x y : Operand} {t kt el r clock : Nat} {es : Array MapEntry} {s : ByteArray} {v : Value} (hg : wantB ops e g = true) (ht : P.underlying t = some (.map kt el)) (hk : P.underlying kt = some .string) (hm : ev e m = .map (some r)) (hx : ev e x = .string s) (hy : ev e y = v)
  (hr : w.heap[r]? = some (.map es clock)) (hnew : ∀ z ∈ es.toList, ∃ u : ByteArray, z.key = .string u ∧ u ≠ s)
  (k : ∀ w', Fr [r] w w' → w'.heap.size = w.heap.size → w'.heap[r]? = some (.map (es.push ⟨.string s, v, clock⟩) (clock + 1)) → DL P n ops rest e w' K) :
  DL P n ops (⟨none, .mapUpdate t m x y, ty, pos, af, g⟩ :: rest) e w K := by
 have hlt := lt_of_blk hr
 have hget : ∀ w2 : World, w2.heap = w.heap → (getObj r).run P w2 = .ok (.map es clock) w2 := fun w2 h2 => by simp [getObj, Sem.run, h2, hr]
 have hset : (setObj r (.map (es.push ⟨.string s, v, clock⟩) (clock + 1))).run P w = .ok () { w with heap := w.heap.setIfInBounds r (.map (es.push ⟨.string s, v, clock⟩) (clock + 1)) } := by
  simp [setObj, Sem.run, hr]
 have hck : (Instr.checkKey false 10000 kt (.string s)).run P w = .ok () w := by
  unfold Instr.checkKey
  simp only [Sem.run_bind, run_underlying hk, Result.andThen_ok]
  rfl
 have hfind : (Instr.findKey kt (.string s) es.toList).run P w = .ok none w := by
  unfold Instr.findKey
  simp only [Sem.run_bind, run_underlying hk, Result.andThen_ok, findNow_none es.toList 0 hnew]
  rfl
 refine DL.runU (w' := { w with heap := w.heap.setIfInBounds r (.map (es.push ⟨.string s, v, clock⟩) (clock + 1)) }) hg rfl ?_ (k _ ⟨rfl, rfl, rfl, by simp, fun i hi hs => ?_⟩ (by simp) (by simp [hlt]))
 ·simp only [execOp, hm, hx, hy, Instr.mapUpdate, Sem.run_bind, run_underlying ht, Result.andThen_ok, hget w rfl, hck, hfind, hset]
  rfl
 ·have hne : r ≠ i := fun h => hs (by simp [h])
  simp [Array.getElem?_setIfInBounds_ne hne]
end
end Go.Proofs.YtmbleojlnaofjaaGreatDoor.D

/- More laws: pieces of strings, type assertions to interfaces. -/
namespace Go.Proofs.YtmbleojlnaofjaaGreatDoor.D
open Go Go.RowKit Go.Deep
set_option linter.unusedVariables false
set_option linter.unusedSectionVars false
set_option linter.unusedSimpArgs false
section
variable {P : Program} {n : Nat} {e : Env} {w : World} {ops rest : List Oper} {K : Env → World → Prop} {dst : Option Tmp} {ty : TypeId} {pos : String} {af : Array Edge} {g : Option (Nat × Bool)}
/-- s[:h], s[l:], s[l:h]. -/
theorem Y.strH {x y : Operand} {t : TypeId} {s : ByteArray} {k : IntKind} {h : Int} (ht : P.underlying t = some .string) (hx : ev e x = .string s) (hy : ev e y = .int k h) (h0 : 0 ≤ h) (h1 : h ≤ s.size) :
  Y P e ⟨dst, .slice t x none (some y) none, ty, pos, af, g⟩ w (.string (s.extract 0 h.toNat)) := by
 unfold Y
 simp [execOp, Instr.sliceAt, Instr.slice, run_underlying ht, hx, hy, Instr.sliceBounds, Instr.sliceBound, asIntOf, h0, h1]
theorem Y.strL {x y : Operand} {t : TypeId} {s : ByteArray} {k : IntKind} {l : Int} (ht : P.underlying t = some .string) (hx : ev e x = .string s) (hy : ev e y = .int k l) (h0 : 0 ≤ l) (h1 : l ≤ s.size) :
  Y P e ⟨dst, .slice t x (some y) none none, ty, pos, af, g⟩ w (.string (s.extract l.toNat s.size)) := by
 unfold Y
 simp [execOp, Instr.sliceAt, Instr.slice, run_underlying ht, hx, hy, Instr.sliceBounds, Instr.sliceBound, asIntOf, h0, h1]
theorem Y.strLH {x y z : Operand} {t : TypeId} {s : ByteArray} {k k' : IntKind} {l h : Int} (ht : P.underlying t = some .string) (hx : ev e x = .string s) (hy : ev e y = .int k l) (hz : ev e z = .int k' h) (h0 : 0 ≤ l) (h1 : l ≤ h) (h2 : h ≤ s.size) :
  Y P e ⟨dst, .slice t x (some y) (some z) none, ty, pos, af, g⟩ w (.string (s.extract l.toNat h.toNat)) := by
 unfold Y
 have hh : (h.toNat : Int) = h := Int.toNat_of_nonneg (by omega)
 have hp : 0 ≤ h := by omega
 simp [execOp, Instr.sliceAt, Instr.slice, run_underlying ht, hx, hy, hz, Instr.sliceBounds, Instr.sliceBound, asIntOf, h0, h1, h2, hh, hp]
/-- Closed tests: a type has, or lacks, the methods of an interface. -/
def lacksT (P : Program) (t u : TypeId) : Bool := match P.underlying t, P.info? u with
 | some (.interface want), some i => !(lacking want i.methods).isEmpty
 | _, _ => false
def hasT (P : Program) (t u : TypeId) : Bool := match P.underlying t, P.info? u with
 | some (.interface want), some i => (lacking want i.methods).isEmpty
 | _, _ => false
def isIface (P : Program) (t : TypeId) : Bool := match P.underlying t with | some (.interface _) => true | _ => false
theorem Y.asIfNo {x : Operand} {s t u : TypeId} {v z : Value} (ht : lacksT P t u = true) (hz : zeroT P t = some z) (hx : ev e x = .iface u v) : Y P e ⟨dst, .typeAssert x s t true, ty, pos, af, g⟩ w (.tuple #[z, .bool false]) := by
 unfold lacksT at ht
 split at ht
 ·rename_i want i h1 h2
  obtain ⟨m, hm⟩ := missingMethod_some (want := want) (got := i.methods) (fun h => by rw [h] at ht; cases ht)
  unfold Y
  simp [execOp, Instr.typeAssert, run_underlying h1, hx, typeInfo, h2, hm, run_zeroT hz]
 ·cases ht
theorem Y.asIfYes {x : Operand} {s t u : TypeId} {v : Value} (ht : hasT P t u = true) (hx : ev e x = .iface u v) : Y P e ⟨dst, .typeAssert x s t true, ty, pos, af, g⟩ w (.tuple #[.iface u v, .bool true]) := by
 unfold hasT at ht
 split at ht
 ·rename_i want i h1 h2
  have hm := missingMethod_none (List.isEmpty_iff.1 ht)
  unfold Y
  simp [execOp, Instr.typeAssert, run_underlying h1, hx, typeInfo, h2, hm]
 ·cases ht
theorem Y.asIfNil {x : Operand} {s t : TypeId} {z : Value} (ht : isIface P t = true) (hz : zeroT P t = some z) (hx : ev e x = .nilIface) : Y P e ⟨dst, .typeAssert x s t true, ty, pos, af, g⟩ w (.tuple #[z, .bool false]) := by
 unfold isIface at ht
 split at ht
 ·rename_i want h1
  unfold Y
  simp [execOp, Instr.typeAssert, run_underlying h1, hx, run_zeroT hz]
 ·cases ht
/-- nil against nil. -/
theorem Y.eqNilN {x : Operand} {t u : TypeId} {ms : Array (String × TypeId)} (ht : P.underlying t = some (.interface ms)) (hx : ev e x = .nilIface) : Y P e ⟨dst, .binOp .eql t x (.const .nilIface) u, ty, pos, af, g⟩ w (.bool true) := by
 have h1 : (Op.equal t .nilIface .nilIface).run P w = .ok true w := by
  unfold Op.equal Op.maxDepth Op.equalIn
  simp only [Sem.run_bind, run_underlying ht, Result.andThen]
  rfl
 have h2 : binOp .eql t .nilIface .nilIface = (do pure (.bool (← Op.equal t .nilIface .nilIface))) := rfl
 have h3 : ev e (.const .nilIface) = .nilIface := rfl
 have h4 : (eqGuard .eql t x (.const .nilIface) .nilIface .nilIface : Sem Unit).run P w = .ok () w := by cases x <;> rfl
 unfold Y
 simp only [execOp, hx, h3, h2, Sem.run_bind, Sem.run_pure, Result.andThen_ok, h1, h4]
theorem FinQ.retCT {t ty b o u : Nat} {cs : Array Value} {x : Value} {R : Ending → World → Prop} (h : e t = .pointer (some ⟨b, o, none⟩)) (ht : aggT P ty cs.size = true) (hc : CellsAt w b o cs) (hu : e u = x) (hR : R (.returned (.tuple #[.agg cs, x])) w) : FinQ P [.cell t ty, .tmp u] R .ret e w :=
 ⟨[.agg cs, x], ⟨⟨_, h, loadVar_agg ht hc⟩, hu, trivial⟩, hR⟩
/-- A struct within a block. -/
theorem Y.loadPart {x : Operand} {t u : TypeId} {b o : Nat} {cs sub : Array Value} {fr : Nat × Nat} (hx : ev e x = .pointer (some ⟨b, o, none⟩)) (hb : w.heap[b]? = some (.cells cs u fr)) (hs : cs.extract o (o + sub.size) = sub) (ht : aggT P t sub.size = true) :
  Y P e ⟨dst, .load t x, ty, pos, af, g⟩ w (.agg sub) := by
 refine Y.loadA ht hx (fun i hi => ?_)
 have h2 : sub[i]? = (cs.extract o (o + sub.size))[i]? := by rw [hs]
 rw [h2, Array.getElem?_extract]
 have h3 : (cs.extract o (o + sub.size)).size = sub.size := by rw [hs]
 have h4 : min (o + sub.size) cs.size - o = sub.size := by simpa using h3
 rw [h4, if_pos hi]
 simp [World.cell?, hb]
end
end Go.Proofs.YtmbleojlnaofjaaGreatDoor.D

/- More laws: runes of strings, the range over a string, pieces of slices. -/
namespace Go.Proofs.YtmbleojlnaofjaaGreatDoor.D
open Go Go.RowKit Go.Deep
set_option linter.unusedVariables false
set_option linter.unusedSectionVars false
set_option linter.unusedSimpArgs false
theorem width_pos (s : ByteArray) (pos : Nat) : 1 ≤ (Utf8.decode s pos).2 := by
 simp only [Utf8.decode]
 repeat' split
 all_goals simp
/-- The runes of a string from a place on. -/
def runesL (s : ByteArray) : Nat → Nat → List Nat
 | 0, _ => []
 | f + 1, i => if i < s.size then (Utf8.decode s i).1 :: runesL s f (i + (Utf8.decode s i).2) else []
def runesOf (s : ByteArray) : List Nat := runesL s s.size 0
theorem runesFrom_eq (s : ByteArray) : ∀ (f i : Nat) (acc : Array Value), Conv.runesFrom s f i acc = acc ++ ((runesL s f i).map fun r : Nat => Value.int .i32 (r : Int)).toArray
 | 0, i, acc => by simp [Conv.runesFrom, runesL]
 | f + 1, i, acc => by
  unfold Conv.runesFrom runesL
  split
  ·show Conv.runesFrom s f (i + (Utf8.decode s i).2) (acc.push (.int .i32 ((Utf8.decode s i).1 : Int))) = _
   rw [runesFrom_eq s f]
   apply Array.ext'
   simp
  ·simp
theorem runesL_length (s : ByteArray) : ∀ (f i : Nat), (runesL s f i).length ≤ f
 | 0, i => by simp [runesL]
 | f + 1, i => by
  unfold runesL
  split
  ·have := runesL_length s f (i + (Utf8.decode s i).2); simp only [List.length_cons]; omega
  ·simp
theorem runesL_end (s : ByteArray) (f i : Nat) (h : s.size ≤ i) : runesL s f i = [] := by
 cases f with
 | zero => rfl
 | succ f => unfold runesL; rw [if_neg (by omega)]
/-- A round of a range over a string. -/
theorem runesL_step {s : ByteArray} {f i : Nat} (hf : s.size ≤ f + i) (hi : i < s.size) : ∃ f', f = f' + 1 ∧ runesL s f i = (Utf8.decode s i).1 :: runesL s f' (i + (Utf8.decode s i).2) ∧ s.size ≤ f' + (i + (Utf8.decode s i).2) := by
 cases f with
 | zero => omega
 | succ f =>
  refine ⟨f, rfl, ?_, ?_⟩
  ·rw [runesL, if_pos hi]
  ·have := width_pos s i; omega
section
variable {P : Program} {n : Nat} {e : Env} {w : World} {ops rest : List Oper} {K : Env → World → Prop} {dst : Option Tmp} {ty : TypeId} {pos : String} {af : Array Edge} {g : Option (Nat × Bool)}
theorem DL.runes {x : Operand} {s t el d : Nat} {b : ByteArray} (hg : wantB ops e g = true) (hn : Nat.blt d n = true) (hs : P.underlying s = some .string) (ht : P.underlying t = some (.slice el)) (he : P.underlying el = some (.int .i32)) (hx : ev e x = .string b) (hb : b.size ≤ 70368744177664)
  (k : ∀ a w' cs cap, Fr [] w w' → w.heap.size ≤ a → a < w'.heap.size → w'.heap[a]? = some (.cells cs el (0, 0)) → (∀ i (h : i < (runesOf b).length), cs[i]? = some (.int .i32 ((runesOf b)[i] : Int))) → (runesOf b).length ≤ cap →
   DL P n ops rest (upd e d (.slice (some ⟨a, 0, none⟩) (runesOf b).length cap)) w' K) :
  DL P n ops (⟨some d, .convert s t x, ty, pos, af, g⟩ :: rest) e w K := by
 have hR : Conv.runesFrom b b.size 0 #[] = ((runesOf b).map fun r : Nat => Value.int .i32 (r : Int)).toArray := by rw [runesFrom_eq]; simp [runesOf]
 have hsz : (Conv.runesFrom b b.size 0 #[]).size = (runesOf b).length := by rw [hR]; simp
 have hlen : (runesOf b).length ≤ b.size := runesL_length b _ _
 have hrun := run_runes_of_string (P := P) w s t el b hs ht he (by rw [hsz]; omega)
 rw [hsz] at hrun
 have hcap := grownCap_ge w (runesOf b).length 0 el
 generalize hcs : Conv.runesFrom b b.size 0 #[] ++ Array.replicate (grownCap w (runesOf b).length 0 el - (runesOf b).length) (.int .i32 0) = cs at hrun
 generalize grownCap w (runesOf b).length 0 el = cap at hrun hcap
 refine DL.run (w' := w.drew.alloc (.cells cs el)) hg hn (v := .slice (some ⟨w.heap.size, 0, none⟩) (runesOf b).length cap) ?_ (k w.heap.size _ cs cap ?_ (Nat.le_refl _) ?_ ?_ ?_ hcap)
 ·simp only [execOp, hx, Sem.run_bind, hrun, Result.andThen_ok, Sem.run_pure]
 ·exact (Fr.drawn w (w.drawn + 1)).tr (fr_alloc w.drew _)
 ·show w.heap.size < (w.heap.push _).size; simp
 ·exact blk_alloc w.drew _
 ·intro i hi
  rw [← hcs, hR, Array.getElem?_append_left (by simpa using hi)]
  simp [hi]
theorem Y.sliceLH {x y z : Operand} {t el size b o len cap : Nat} {k k' : IntKind} {l h : Int} (ht : sliceT P t el size = true) (hx : ev e x = .slice (some ⟨b, o, none⟩) len cap) (hy : ev e y = .int k l) (hz : ev e z = .int k' h) (h0 : 0 ≤ l) (h1 : l ≤ h) (h2 : h ≤ cap) (h3 : l < cap) :
  Y P e ⟨dst, .slice t x (some y) (some z) none, ty, pos, af, g⟩ w (.slice (some ⟨b, o + l.toNat * size, none⟩) (h.toNat - l.toNat) (cap - l.toNat)) := by
 obtain ⟨e1, e2⟩ := sliceT_spec ht
 have hh : (h.toNat : Int) = h := Int.toNat_of_nonneg (by omega)
 have hp : 0 ≤ h := by omega
 have hc : ¬ cap = l.toNat := by omega
 unfold Y
 simp [execOp, Instr.sliceAt, Instr.slice, run_underlying e1, hx, hy, hz, Instr.sliceBounds, Instr.sliceBound, asIntOf, h0, h1, h2, hh, hp, e2, hc, add_addr]
theorem Y.slice1 {x y z : Operand} {t el size b o len cap : Nat} {k k' : IntKind} {l h : Int} (ht : sliceT P t el size = true) (hx : ev e x = .slice (some ⟨b, o, none⟩) len cap) (hy : ev e y = .int k l) (hz : ev e z = .int k' h) (h0 : 0 ≤ l) (h1 : h = l + 1) (h2 : h ≤ cap) :
  Y P e ⟨dst, .slice t x (some y) (some z) none, ty, pos, af, g⟩ w (.slice (some ⟨b, o + l.toNat * size, none⟩) 1 (cap - l.toNat)) := by
 have := Y.sliceLH (P := P) (w := w) (dst := dst) (ty := ty) (pos := pos) (af := af) (g := g) ht hx hy hz h0 (by omega) h2 (by omega)
 rw [show h.toNat - l.toNat = 1 by omega] at this
 exact this
theorem Y.negI {x : Operand} {t : TypeId} {a c : Int} (hx : ev e x = .int .i64 a) (hc : -a = c) (h1 : -9223372036854775808 ≤ -a) (h2 : -a ≤ 9223372036854775807) : Y P e ⟨dst, .unOp .neg t x, ty, pos, af, g⟩ w (.int .i64 c) := by
 have := Y.neg (P := P) (w := w) (dst := dst) (ty := ty) (pos := pos) (af := af) (g := g) (t := t) hx
 rw [show (0 : Int) - a = -a by omega, wrap_i64 h1 h2, hc] at this
 exact this
/-- string(r). -/
theorem Y.runeStr {x : Operand} {s t : Nat} {k : IntKind} {r : Int} (hs : (P.underlying s).isSome = true) (ht : P.underlying t = some .string) (hx : ev e x = .int k r) : Y P e ⟨dst, .convert s t x, ty, pos, af, g⟩ w (.string (Utf8.encode r)) := by
 obtain ⟨d, hd⟩ := Option.isSome_iff_exists.1 hs
 unfold Y; simp [execOp, convert, run_underlying hd, run_underlying ht, hx, Conv.intToString]
/-- string(l) of one rune. -/
theorem Y.rune1Str {x : Operand} {s t el b o cap : Nat} {r : Int} (hs : P.underlying s = some (.slice el)) (he : P.underlying el = some (.int .i32)) (ht : P.underlying t = some .string) (hx : ev e x = .slice (some ⟨b, o, none⟩) 1 cap) (hc : w.cell? ⟨b, o, none⟩ = some (.int .i32 r)) :
  Y P e ⟨dst, .convert s t x, ty, pos, af, g⟩ w (.string (Utf8.encode r)) := by
 have hl : (loadCells ⟨b, o, none⟩ 1).run P w = .ok #[.int .i32 r] w := by
  have := run_loadCells_list (P := P) w ⟨b, o, none⟩ [.int .i32 r] (fun j v hj => by
   obtain rfl : j = 0 := by have := (List.getElem?_eq_some_iff.1 hj).1; simpa using this
   rw [add_addr]
   simp only [List.getElem?_cons_zero, Option.some.injEq] at hj
   rw [← hj]; exact hc)
  simpa using this
 have h0 : ByteArray.empty ++ Utf8.encode r = Utf8.encode r := by
  apply ByteArray.ext
  simp
 have h1 : (Conv.runesToString (.slice (some ⟨b, o, none⟩) 1 cap)).run P w = .ok (.string (Utf8.encode r)) w := by
  simp [Conv.runesToString, hl, h0]
 unfold Y; simp [execOp, convert, run_underlying hs, run_underlying he, run_underlying ht, hx, h1]
/-- range over a string. -/
theorem DL.rangeStr {x : Operand} {t d : Nat} {s : ByteArray} (hg : wantB ops e g = true) (hn : Nat.blt d n = true) (ht : P.underlying t = some .string) (hx : ev e x = .string s)
  (k : ∀ b w', Fr [] w w' → w.heap.size ≤ b → b < w'.heap.size → w'.heap[b]? = some (.stringIter s 0) → DL P n ops rest (upd e d (.pointer (some ⟨b, 0, none⟩))) w' K) :
  DL P n ops (⟨some d, .range t x, ty, pos, af, g⟩ :: rest) e w K :=
 DL.new hg rfl hn (by simp [execOp, Instr.range, run_underlying ht, hx, newObj, Sem.run]) k
theorem DL.nextStr {x : Operand} {d b p : Nat} {s : ByteArray} (hg : wantB ops e g = true) (hn : Nat.blt d n = true) (hx : ev e x = .pointer (some ⟨b, 0, none⟩)) (hb : w.heap[b]? = some (.stringIter s p)) (hp : p < s.size)
  (k : ∀ w', Fr [b] w w' → w'.heap.size = w.heap.size → w'.heap[b]? = some (.stringIter s (p + (Utf8.decode s p).2)) → DL P n ops rest (upd e d (.tuple #[.bool true, .int .i64 p, .int .i32 (Utf8.decode s p).1])) w' K) :
  DL P n ops (⟨some d, .next x true, ty, pos, af, g⟩ :: rest) e w K := by
 have hlt := lt_of_blk hb
 have hget : w.heap[b] = .stringIter s p := by have := (Array.getElem?_eq_some_iff.1 hb).2; simpa using this
 refine DL.run hg hn (v := .tuple #[.bool true, .int .i64 p, .int .i32 (Utf8.decode s p).1]) (w' := { w with heap := w.heap.setIfInBounds b (.stringIter s (p + (Utf8.decode s p).2)) }) ?_ (k _ ⟨rfl, rfl, rfl, by simp, fun i hi hs => ?_⟩ (by simp) (by simp [hlt]))
 ·simp [execOp, Instr.next, hx, getObj, setObj, Sem.run, hb, hp, goInt]
 ·have hne : b ≠ i := fun h => hs (by simp [h])
  simp [Array.getElem?_setIfInBounds_ne hne]
theorem DL.overStr {x : Operand} {d b p : Nat} {s : ByteArray} (hg : wantB ops e g = true) (hn : Nat.blt d n = true) (hx : ev e x = .pointer (some ⟨b, 0, none⟩)) (hb : w.heap[b]? = some (.stringIter s p)) (hp : ¬ p < s.size)
  (k : DL P n ops rest (upd e d (.tuple #[.bool false])) w K) :
  DL P n ops (⟨some d, .next x true, ty, pos, af, g⟩ :: rest) e w K :=
 DL.run hg hn (by simp [execOp, Instr.next, hx, getObj, Sem.run, hb, hp]) k
end
end Go.Proofs.YtmbleojlnaofjaaGreatDoor.D

/- More laws: slices that are built and grown; the range over a map. -/
namespace Go.Proofs.YtmbleojlnaofjaaGreatDoor.D
open Go Go.RowKit Go.Deep
set_option linter.unusedVariables false
set_option linter.unusedSectionVars false
set_option linter.unusedSimpArgs false
/-! ### Own slices -/
def ownL (v : Value) : List Nat := match v.ownBlock with | some b => [b] | none => []
theorem mem_ownL {v : Value} {b : Nat} : b ∈ ownL v ↔ v.ownBlock = some b := by
 unfold ownL
 cases h : v.ownBlock with
 | none => simp
 | some c => simp [eq_comm]
theorem own_ge {w : World} {B e size n : Nat} {v : Value} {xs : List Value} (h : w.ownsRow B e size v n xs) : ∀ b ∈ ownL v, B ≤ b ∧ b < w.heap.size := fun b hb => h.lt b (mem_ownL.1 hb)
theorem ownsRow_fr {S : List Nat} {w w' : World} {B e size n : Nat} {v : Value} {xs : List Value} (h : w.ownsRow B e size v n xs) (f : Fr S w w') (hs : ∀ b ∈ S, v.ownBlock ≠ some b) : w'.ownsRow B e size v n xs := by
 refine ⟨h.1, ?_⟩
 rcases h.2 with hn | ⟨g, cap, cur, rfl, hb, hg, rest⟩
 ·exact .inl hn
 ·exact .inr ⟨g, cap, cur, rfl, hb, f.blk hg (fun hm => hs g hm (by simp [Value.ownBlock])), rest⟩
theorem own_ne {w : World} {B e size n b : Nat} {v : Value} {xs : List Value} (h : w.ownsRow B e size v n xs) (hb : b < B ∨ w.heap.size ≤ b) : v.ownBlock ≠ some b := fun hv => by
 have := h.lt b hv
 omega
theorem fr_grown {w w' : World} {v : Value} (h : w.grownBy w' v.ownBlock) : Fr (ownL v) w w' :=
 ⟨h.os, h.tape, h.output, h.size, fun i hi hs => h.block i hi (fun e => hs (mem_ownL.2 e.symm))⟩
theorem own_base {w : World} {B B' e size n : Nat} {v : Value} {xs : List Value} (h : w.ownsRow B e size v n xs) (hb : B' ≤ B) : w.ownsRow B' e size v n xs := by
 refine ⟨h.1, ?_⟩
 rcases h.2 with hn | ⟨g, cap, cur, hv, hg, rest⟩
 ·exact .inl hn
 ·exact .inr ⟨g, cap, cur, hv, by omega, rest⟩
/-- The cells of an own slice. -/
theorem own_cells {w : World} {B e size n : Nat} {v : Value} {xs : List Value} (h : w.ownsRow B e size v n xs) : ∃ a cap, v = .slice a n cap ∧ n * size = xs.length ∧ ∀ (i : Nat), i < n → ∃ b, a = some ⟨b, 0, none⟩ ∧ B ≤ b ∧ b < w.heap.size ∧ ∀ j, j < size → w.cell? ⟨b, i * size + j, none⟩ = xs[i * size + j]? := by
 rcases h.2 with ⟨rfl, rfl⟩ | ⟨g, cap, cur, rfl, hb, hg, hnc, _, hcs, ht⟩
 ·exact ⟨none, 0, rfl, h.1.symm, fun i hi => absurd hi (by omega)⟩
 ·refine ⟨some ⟨g, 0, none⟩, cap, rfl, h.1.symm, fun i hi => ⟨g, rfl, hb, (Array.getElem?_eq_some_iff.1 hg).1, fun j hj => ?_⟩⟩
  have hlt : i * size + j < n * size := by
   have h1 : (i + 1) * size ≤ n * size := Nat.mul_le_mul_right _ (by omega)
   rw [Nat.add_mul, Nat.one_mul] at h1
   omega
  rw [← ht, List.getElem?_take, if_pos hlt]
  simp [World.cell?, hg]

/-! ### One part that fills -/
theorem foldl_set (l : List Value) : ∀ (j : Nat) (a : Array Value), ((l.zipIdx j).foldl (fun (cs : Array Value) (p : Value × Nat) => cs.setIfInBounds p.2 p.1) a).size = a.size ∧
  ∀ i, i < a.size → ((l.zipIdx j).foldl (fun (cs : Array Value) (p : Value × Nat) => cs.setIfInBounds p.2 p.1) a)[i]? = if j ≤ i ∧ i < j + l.length then l[i - j]? else a[i]? := by
 induction l with
 | nil => intro j a; simp; intro i hi h1 h2; omega
 | cons v l ih =>
  intro j a
  obtain ⟨h1, h2⟩ := ih (j + 1) (a.setIfInBounds j v)
  simp only [List.zipIdx_cons, List.foldl_cons]
  refine ⟨by rw [h1]; simp, fun i hi => ?_⟩
  rw [h2 i (by simpa using hi)]
  by_cases hij : i = j
  ·subst hij
   rw [if_neg (by omega), if_pos (by simp)]
   simp [hi]
  ·by_cases hc : j + 1 ≤ i ∧ i < j + 1 + l.length
   ·rw [if_pos hc, if_pos (by simp only [List.length_cons]; omega)]
    rw [show i - j = (i - (j + 1)) + 1 by omega]
    simp
   ·rw [if_neg hc, if_neg (by simp only [List.length_cons]; omega), Array.getElem?_setIfInBounds_ne (by omega)]
theorem fill_one {v : Value} {cs z : Array Value} {size : Nat} (hv : v.cells = cs) (hs : cs.size = size) (hz : z.size = size) : Instr.fill (fun i => some (i * size, size)) z [(0, v)] = some cs := by
 unfold Instr.fill
 simp only [Nat.zero_mul, Nat.zero_add, hv]
 rw [if_neg (by simp [hs, hz])]
 unfold Instr.fill
 have h := foldl_set cs.toList 0 z
 have e : (cs.zipIdx.foldl (fun (a : Array Value) (p : Value × Nat) => a.setIfInBounds p.2 p.1) z) = (cs.toList.zipIdx 0).foldl (fun (a : Array Value) (p : Value × Nat) => a.setIfInBounds p.2 p.1) z := by
  rw [← Array.foldl_toList, Array.toList_zipIdx]
 congr 1
 show cs.zipIdx.foldl (fun (a : Array Value) (p : Value × Nat) => a.setIfInBounds p.2 p.1) z = cs
 rw [e]
 apply Array.ext_getElem?
 intro i
 by_cases hi : i < z.size
 ·rw [h.2 i hi, if_pos ⟨Nat.zero_le _, by simp; omega⟩]
  simp
 ·rw [Array.getElem?_eq_none (by rw [h.1]; omega), Array.getElem?_eq_none (by omega)]

section
variable {P : Program} {n : Nat} {e : Env} {w : World} {ops rest : List Oper} {K : Env → World → Prop} {dst : Option Tmp} {ty : TypeId} {pos : String} {af : Array Edge} {g : Option (Nat × Bool)}
/-- The element's facts that slices ask for. -/
def eltT (P : Program) (t el size bytes : Nat) : Bool := match P.underlying t, P.info? el with
 | some (.slice el'), some i => (el' == el) && (i.size == size) && (i.bytes == bytes) && (match i.zero with | some z => z.cells.size == size | none => false) && !(size == 0) && Nat.ble size 1000
 | _, _ => false
theorem eltT_spec {t el size bytes : Nat} (h : eltT P t el size bytes = true) : ∃ i z, P.underlying t = some (.slice el) ∧ P.info? el = some i ∧ i.size = size ∧ i.bytes = bytes ∧ i.zero = some z ∧ z.cells.size = size ∧ 0 < size ∧ size ≤ 1000 := by
 unfold eltT at h
 split at h
 ·rename_i el' i h1 h2
  simp only [Bool.and_eq_true, beq_iff_eq, Bool.not_eq_true', beq_eq_false_iff_ne] at h
  obtain ⟨⟨⟨⟨⟨h3, h4⟩, h5⟩, h6⟩, h7⟩, h8⟩ := h
  subst h3
  cases hz : i.zero with
  | none => rw [hz] at h6; cases h6
  | some z => rw [hz] at h6; exact ⟨i, z, h1, h2, h4, h5, hz, by simpa using h6, by omega, Nat.le_of_ble_eq_true h8⟩
 ·cases h
theorem DL.buildSl1 {x : Operand} {t el size bytes d : Nat} {v : Value} {cs : Array Value} (hg : wantB ops e g = true) (hn : Nat.blt d n = true) (ht : eltT P t el size bytes = true) (hx : ev e x = v) (hv : v.cells = cs) (hs : cs.size = size)
  (k : ∀ b w', Fr [] w w' → w.heap.size ≤ b → b < w'.heap.size → w'.heap[b]? = some (.cells cs el (0, 0)) → DL P n ops rest (upd e d (.slice (some ⟨b, 0, none⟩) 1 1)) w' K) :
  DL P n ops (⟨some d, .buildSlice t 1 #[(0, x)], ty, pos, af, g⟩ :: rest) e w K := by
 obtain ⟨i, z, h1, h2, h3, h4, h5, h6, h7, h8⟩ := eltT_spec ht
 have hrun := run_buildSlice (P := P) w t el 1 #[(0, v)] cs i z h1 h2 h5 (by rw [h3]; omega) (by rw [h3]; omega) (by
  rw [h3]
  exact fill_one hv hs (by simp))
 refine DL.run (w' := { w with heap := w.heap.push (.cells cs el) }) hg hn (v := .slice (some ⟨w.heap.size, 0, none⟩) 1 1) ?_ (k w.heap.size _ (fr_alloc w _) (Nat.le_refl _) (by simp) (blk_alloc w _))
 have e1 : (#[(0, x)] : Array (Nat × Operand)).map (fun p => (p.1, ev e p.2)) = #[(0, v)] := by simp [hx]
 have e2 : execOp (ev e) ⟨some d, .buildSlice t 1 #[(0, x)], ty, pos, af, g⟩ = (do pure (.value (← Instr.buildSlice t 1 ((#[(0, x)] : Array (Nat × Operand)).map (fun p => (p.1, ev e p.2)))))) := rfl
 rw [e2, e1]
 simp only [Sem.run_bind, hrun, Result.andThen_ok, Sem.run_pure]
 rfl
theorem DL.append {s x : Operand} {t el size bytes d B m c N b u : Nat} {fr : Nat × Nat} {v : Value} {xs : List Value} {news : Array Value} (hg : wantB ops e g = true) (hn : Nat.blt d n = true) (ht : eltT P t el size bytes = true) (hs : ev e s = v) (hx : ev e x = .slice (some ⟨b, 0, none⟩) m c)
  (hown : w.ownsRow B el size v N xs) (hb : w.heap[b]? = some (.cells news u fr)) (hl : news.size = m * size) (h1 : news.all (·.oneCell') = true) (hby : (N + m) * bytes ≤ 140737488355328) (hm : N + m ≤ 9223372036854775807) (hB : B ≤ w.heap.size)
  (k : ∀ v' w', Fr (ownL v) w w' → w'.ownsRow B el size v' (N + m) (xs ++ news.toList) → DL P n ops rest (upd e d v') w' K) :
  DL P n ops (⟨some d, .call ⟨.builtin .append, #[s, x], #[t, t]⟩, ty, pos, af, g⟩ :: rest) e w K := by
 obtain ⟨i, z, k1, k2, k3, k4, k5, k6, k7, k8⟩ := eltT_spec ht
 obtain ⟨v', w', hrun, ho, hgr, _⟩ := run_append_own (P := P) w B t ty el i z size bytes k1 k2 k5 k3 k4 k6 k7 v N xs hown ⟨b, 0, none⟩ m c news.toList (by simpa using hl) (fun j u hu => by
  rw [add_addr, Nat.zero_add]
  exact cell_of_blk hb (by simpa using hu)) (fun u hu => by
  have := Array.all_eq_true.1 h1
  obtain ⟨j, hj, rfl⟩ := List.getElem_of_mem hu
  simpa using this j (by simpa using hj)) hm hby hB
 refine DL.run hg hn (v := v') ?_ (k v' w' (fr_grown hgr) ho)
 simp [execOp, resolve, Go.invoke, builtin, hs, hx, hrun]
/-- A store of one cell within a block whose cells are known. -/
theorem DL.storeC {x y : Operand} {t u : TypeId} {b o : Nat} {cs cs' : Array Value} {v : Value} (hg : wantB ops e g = true) (ht : P.cellsOf t = 1) (hi : (P.info? t).isSome = true) (hx : ev e x = .pointer (some ⟨b, o, none⟩)) (hy : ev e y = v) (hv : v.oneCell' = true)
  (hb : w.heap[b]? = some (.cells cs u (0, 0))) (ho : o < cs.size) (hc : cs.setIfInBounds o v = cs')
  (k : ∀ w', Fr [b] w w' → w'.heap.size = w.heap.size → w'.heap[b]? = some (.cells cs' u (0, 0)) → DL P n ops rest e w' K) :
  DL P n ops (⟨none, .store t x y, ty, pos, af, g⟩ :: rest) e w K :=
 DL.storeP hg ht hi hx hy hv hb ho (fun w' h1 h2 h3 => k w' h1 h2 (by rw [h3, hc]))
/-- range over a map. -/
theorem DL.rangeMap {x : Operand} {t kt el d m clock : Nat} {es : Array MapEntry} (hg : wantB ops e g = true) (hn : Nat.blt d n = true) (ht : P.underlying t = some (.map kt el)) (hx : ev e x = .map (some m)) (hm : w.heap[m]? = some (.map es clock))
  (k : ∀ b w', Fr [] w w' → w.heap.size ≤ b → b < w'.heap.size → w'.heap[b]? = some (.mapIter (some m) clock #[] clock) → DL P n ops rest (upd e d (.pointer (some ⟨b, 0, none⟩))) w' K) :
  DL P n ops (⟨some d, .range t x, ty, pos, af, g⟩ :: rest) e w K := by
 refine DL.new hg rfl hn (ob := .mapIter (some m) clock #[] clock) ?_ k
 have := run_range_map (P := P) w t kt el m es clock ht hm
 simp only [execOp, hx, Sem.run_bind, this, Result.andThen_ok, Sem.run_pure]
 rfl
/-- One step of it. -/
theorem DL.nextMap {x : Operand} {d r m clock : Nat} {es : Array MapEntry} {seen : Array Nat} (hg : wantB ops e g = true) (hn : Nat.blt d n = true) (hx : ev e x = .pointer (some ⟨r, 0, none⟩)) (hr : w.heap[r]? = some (.mapIter (some m) clock seen clock)) (hm : w.heap[m]? = some (.map es clock)) (hold : ∀ x ∈ es.toList, x.born < clock)
  (k0 : (leftOf es seen).size = 0 → DL P n ops rest (upd e d (.tuple #[.bool false])) w K)
  (k1 : ∀ en w', en ∈ (leftOf es seen).toList → Fr [r] w w' → w'.heap.size = w.heap.size → w'.heap[r]? = some (.mapIter (some m) clock (seen.push en.born) clock) → DL P n ops rest (upd e d (.tuple #[.bool true, en.key, en.val])) w' K) :
  DL P n ops (⟨some d, .next x false, ty, pos, af, g⟩ :: rest) e w K := by
 have hlt := lt_of_blk hr
 rcases run_next_at (P := P) w ty r m clock clock seen es clock hr hm hold (Nat.le_refl _) with ⟨h0, hrun⟩ | ⟨en, he, w1, hal, hrun⟩
 ·refine DL.run hg hn ?_ (k0 h0)
  simp only [execOp, hx, Sem.run_bind, hrun, Result.andThen_ok, Sem.run_pure]
 ·refine DL.run hg hn (v := .tuple #[.bool true, en.key, en.val]) (w' := ChangeMaps.setBlock w1 r (.mapIter (some m) clock (seen.push en.born) clock)) ?_ (k1 en _ he ?_ ?_ ?_)
  ·simp only [execOp, hx, Sem.run_bind, hrun, Result.andThen_ok, Sem.run_pure]
  ·rcases hal with rfl | rfl <;>
   ·refine ⟨rfl, rfl, rfl, by simp [ChangeMaps.setBlock], fun i hi hs => ?_⟩
    have hne : r ≠ i := fun h => hs (by simp [h])
    show (Array.setIfInBounds _ _ _)[i]? = _
    exact Array.getElem?_setIfInBounds_ne hne
  ·rcases hal with rfl | rfl
   ·simp [ChangeMaps.setBlock]
   ·simp only [ChangeMaps.setBlock, Array.size_setIfInBounds]; rfl
  ·rcases hal with rfl | rfl
   ·simp [ChangeMaps.setBlock, hlt]
   ·have hlt2 : r < w.drew.heap.size := hlt
    exact Array.getElem?_setIfInBounds_self_of_lt hlt2
theorem Y.entry {x : Operand} {r m clock : Nat} {es : Array MapEntry} {seen : Array Nat} {en : MapEntry} (hx : ev e x = .pointer (some ⟨r, 0, none⟩)) (hr : w.heap[r]? = some (.mapIter (some m) clock (seen.push en.born) clock)) (hm : w.heap[m]? = some (.map es clock)) (he : en ∈ es.toList) (hn : (es.toList.map (·.born)).Nodup) :
  Y P e ⟨dst, .entry x, ty, pos, af, g⟩ w (.tuple #[en.key, en.val]) := by
 have := run_entry_at (P := P) w r m clock seen es clock en hr hm he hn
 unfold Y
 simp only [execOp, hx, Sem.run_bind, this, Result.andThen_ok, Sem.run_pure]
end
end Go.Proofs.YtmbleojlnaofjaaGreatDoor.D

/- A drawn region whose reads may be taken first: what is left comes in one order. -/
namespace Go.Proofs.YtmbleojlnaofjaaGreatDoor.D
open Go Go.RowKit Go.Deep
set_option linter.unusedVariables false
set_option linter.unusedSectionVars false
set_option linter.unusedSimpArgs false
/-- The operations of l that are not yet listed, in whatever order the region may come; every world on the way is framed from w0. -/
structure DH (P : Program) (n : Nat) (l : List Oper) (w0 : World) (fuel : Nat) (listed : Array Bool) (e : Env) (w : World) (K : Env → World → Prop) : Prop where
 out : ∀ (a : Act) (Q : Exit → Act → World → Prop), Rep n a e → Fr [] w0 w → (∀ c a w, ¬ Q (.panic c) a w) → (∀ a' e' w', Rep n a' e' → (∀ t, t ∉ dstsL l → e' t = e t) → Fr [] w0 w' → K e' w' → Q .normal a' w') →
  wpAnyH P .any l.toArray Q (Fr [] w0) fuel listed a w
section
variable {P : Program} {n : Nat} {e : Env} {w w0 : World} {l : List Oper} {fuel : Nat} {listed : Array Bool} {K : Env → World → Prop}
theorem dst_mem {o : Oper} {d : Nat} (hd : o.dst = some d) : ∀ (l : List Oper) (i : Nat), l[i]? = some o → d ∈ dstsL l := by
 intro l
 induction l with
 | nil => intro i h; simp at h
 | cons p r ih =>
  intro i h
  unfold dstsL
  cases i with
  | zero =>
   simp only [List.getElem?_cons_zero, Option.some.injEq] at h
   rw [h, hd]; simp
  | succ i =>
   have := ih i (by simpa using h)
   cases hp : p.dst with
   | none => exact this
   | some c => exact List.mem_cons_of_mem _ this
theorem put_other {o : Oper} {i t : Nat} {v : Value} (h : l[i]? = some o) (ht : t ∉ dstsL l) : put e o.dst v t = e t :=
 put_ne v (fun d hd he => ht (he ▸ dst_mem hd l i h))
theorem DH.take {o : Oper} {v : Value} (i : Nat) (hi : nthO l i = some o) (hs : Region.noSelect l.toArray = true) (hf : Region.free .any l.toArray listed i = true) (hr : (Region.ready .any l.toArray listed).contains i = true)
  (hg : wantB l e o.guard = true) (hd : ltB n o.dst = true) (h : ∀ w, Fr [] w0 w → Y P e o w v) (k : DH P n l w0 fuel (listed.setIfInBounds i true) (put e o.dst v) w K) : DH P n l w0 (fuel + 1) listed e w K := by
 rw [nthO_eq] at hi
 refine ⟨fun a Q ha hw hnp hq => wpAnyH_take (oi := o) (v := v) (by simpa using hi) hs hf hr (fun c a w h => (hnp _ _ _ h).elim) (Or.inl ⟨by rw [wantB_eq ha, hg], fun w' hw' => by rw [ha.eval]; exact h w' hw'⟩) hw
  (k.out _ Q (ha.put o.dst v (ltB_spec hd)) hw hnp (fun a' e' w' h1 h2 h3 h4 => hq a' e' w' h1 (fun t ht => ?_) h3 h4))⟩
 rw [h2 t ht, put_other hi ht]
theorem DH.oneY {o : Oper} {v : Value} (i : Nat) (hi : nthO l i = some o) (hr : Region.ready .any l.toArray listed = [i]) (hg : wantB l e o.guard = true) (hd : ltB n o.dst = true) (h : Y P e o w v)
  (k : DH P n l w0 fuel (listed.setIfInBounds i true) (put e o.dst v) w K) : DH P n l w0 (fuel + 1) listed e w K := by
 rw [nthO_eq] at hi
 refine ⟨fun a Q ha hw hnp hq => wpAnyH_all hr (by simp) (fun j hj => ?_)⟩
 obtain rfl := List.mem_singleton.1 hj
 unfold wpOp
 have hi' : l.toArray[j]? = some o := by simpa using hi
 simp only [hi']
 rw [wantB_eq ha, hg, if_pos rfl]
 refine Or.inl ?_
 unfold Oper.wp
 rw [ha.eval, h]
 refine ⟨hw, k.out _ Q (ha.put o.dst v (ltB_spec hd)) hw hnp (fun a' e' w' h1 h2 h3 h4 => hq a' e' w' h1 (fun t ht => ?_) h3 h4)⟩
 rw [h2 t ht, put_other hi ht]
theorem DH.oneSkip {o : Oper} (i : Nat) (hi : nthO l i = some o) (hr : Region.ready .any l.toArray listed = [i]) (hg : wantB l e o.guard = false) (hd : ltB n o.dst = true)
  (k : DH P n l w0 fuel (listed.setIfInBounds i true) (put e o.dst undef) w K) : DH P n l w0 (fuel + 1) listed e w K := by
 rw [nthO_eq] at hi
 refine ⟨fun a Q ha hw hnp hq => wpAnyH_all hr (by simp) (fun j hj => ?_)⟩
 obtain rfl := List.mem_singleton.1 hj
 unfold wpOp
 have hi' : l.toArray[j]? = some o := by simpa using hi
 simp only [hi']
 rw [wantB_eq ha, hg, if_neg (by simp)]
 refine ⟨hw, k.out _ Q (ha.put o.dst undef (ltB_spec hd)) hw hnp (fun a' e' w' h1 h2 h3 h4 => hq a' e' w' h1 (fun t ht => ?_) h3 h4)⟩
 rw [h2 t ht, put_other hi ht]
theorem DH.oneCall {f : FuncId} {xs : List Operand} {args : List Value} {ats : Array TypeId} {post : Value → World → Prop} {dst : Option Tmp} {ty : TypeId} {pos : String} {af : Array Edge} {g : Option (Nat × Bool)}
  (i : Nat) (hi : nthO l i = some ⟨dst, .call ⟨.value (.func f), xs.toArray, ats⟩, ty, pos, af, g⟩) (hr : Region.ready .any l.toArray listed = [i]) (hg : wantB l e g = true) (hd : ltB n dst = true) (hf : Named P f) (ha : evs e xs = args)
  (hc : Calls P f args.toArray w (Ret w [] post)) (k : ∀ v w', Fr [] w w' → post v w' → DH P n l w0 fuel (listed.setIfInBounds i true) (put e dst v) w' K) : DH P n l w0 (fuel + 1) listed e w K := by
 rw [nthO_eq] at hi
 refine ⟨fun a Q ha' hw hnp hq => wpAnyH_all hr (by simp) (fun j hj => ?_)⟩
 obtain rfl := List.mem_singleton.1 hj
 unfold wpOp
 have hi' : l.toArray[j]? = some ⟨dst, .call ⟨.value (.func f), xs.toArray, ats⟩, ty, pos, af, g⟩ := by simpa using hi
 simp only [hi']
 rw [wantB_eq ha', hg, if_pos rfl]
 refine Or.inl ?_
 unfold Oper.wp
 rw [ha'.eval, execOp_call hf, Oper.upon_enter]
 have : (xs.toArray.map (ev e)) = args.toArray := by rw [← ha, evs_eq]; simp
 rw [this]
 refine hc.mono fun x w' hx => ?_
 cases x with
 | returned v =>
  refine ⟨hw.tr hx.1, (k v w' hx.1 hx.2).out _ Q (ha'.put dst v (ltB_spec hd)) (hw.tr hx.1) hnp (fun a' e' w' h1 h2 h3 h4 => hq a' e' w' h1 (fun t ht => ?_) h3 h4)⟩
  rw [h2 t ht]
  exact put_other (o := ⟨dst, .call ⟨.value (.func f), xs.toArray, ats⟩, ty, pos, af, g⟩) hi ht
 | _ => exact hx.elim
theorem DH.done (hr : Region.ready .any l.toArray listed = []) (h : K e w) : DH P n l w0 fuel listed e w K :=
 ⟨fun a Q ha hw hnp hq => wpAnyH_done hr (hq a e w ha (fun _ _ => rfl) hw h) fuel⟩
theorem DC.held {id : Nat} {Q : Exit → Env → World → Prop} (hm : P.follows .mixedOrders = true)
  (h : ∀ w', Fr [] w w' → w'.heap.size = w.heap.size → DH P n l w' l.length (Array.replicate l.length false) e w' (fun e2 w2 => Q .normal e2 w2)) : DC P n (.region id l.toArray true) e w Q := by
 refine ⟨fun a ha => wp_region_noPanic (wp_region_held (S := Fr [] { w with drawn := w.drawn + 1 }) hm ?_)⟩
 have := (h _ (Fr.drawn w (w.drawn + 1)) rfl).out a (NoPanic fun x a' w' => ∃ e', Rep n a' e' ∧ (∀ t, t ∉ dstsC (.region id l.toArray true) → e' t = e t) ∧ Q x e' w') ha (Fr.refl _ _) (fun c a w h => h) (fun a' e' w' h1 h2 _ h3 =>
  (show ∃ e', Rep n a' e' ∧ (∀ t, t ∉ dstsC (.region id l.toArray true) → e' t = e t) ∧ Q .normal e' w' from ⟨e', h1, fun t ht => h2 t (by simpa [dstsC] using ht), h3⟩))
 simpa using this
theorem Y.seqc {x y : Operand} {t u : TypeId} {a b : ByteArray} {c : Bool} {dst : Option Tmp} {ty : TypeId} {pos : String} {af : Array Edge} {g : Option (Nat × Bool)} (hx : ev e x = .string a) (hy : ev e y = .string b) (h : decide (a = b) = c) : Y P e ⟨dst, .binOp .eql t x y u, ty, pos, af, g⟩ w (.bool c) := by
 rw [← h]; exact Y.seq hx hy
theorem Y.mulI {x y : Operand} {t u : TypeId} {a b c : Int} {dst : Option Tmp} {ty : TypeId} {pos : String} {af : Array Edge} {g : Option (Nat × Bool)} (hx : ev e x = .int .i64 a) (hy : ev e y = .int .i64 b) (hc : a * b = c) (h1 : -9223372036854775808 ≤ a * b) (h2 : a * b ≤ 9223372036854775807) : Y P e ⟨dst, .binOp .mul t x y u, ty, pos, af, g⟩ w (.int .i64 c) := by
 have := Y.mul (P := P) (w := w) (dst := dst) (t := t) (u := u) (ty := ty) (pos := pos) (af := af) (g := g) hx hy
 rw [wrap_i64 h1 h2, hc] at this; exact this
end
end Go.Proofs.YtmbleojlnaofjaaGreatDoor.D

/- More laws: bytes of strings, bytes that are collected. -/
namespace Go.Proofs.YtmbleojlnaofjaaGreatDoor.D
open Go Go.RowKit Go.Deep
set_option linter.unusedVariables false
set_option linter.unusedSectionVars false
set_option linter.unusedSimpArgs false
section
variable {P : Program} {n : Nat} {e : Env} {w : World} {ops rest : List Oper} {K : Env → World → Prop} {dst : Option Tmp} {ty : TypeId} {pos : String} {af : Array Edge} {g : Option (Nat × Bool)}
/-- From here on only the slots of Fb are known. -/
theorem DC.forget {c : Code} {Q : Exit → Env → World → Prop} (Fb : List (Nat × Value)) (hb : AllEq e Fb) (h : ∀ e0 : Env, DC P n c (updL e0 Fb) w Q) : DC P n c e w Q := by
 have := h e
 rw [updL_same hb] at this
 exact this
/-- A loop whose round is walked over a variable for the environment, of which only the slots of Fb are known. -/
theorem DC.loopE {body : Code} {Q : Exit → Env → World → Prop} {σ : Type} (W : List (Nat × Nat)) (Fb : List (Nat × Value)) (F : σ → List (Nat × Value)) (I : σ → World → Prop) (μ : σ → Nat) (s0 : σ)
  (hW : (dstsC body).all (inR W) = true) (hb : AllEq e Fb) (h0 : AllEq e (F s0)) (hI : I s0 w)
  (round : ∀ (e0 : Env) (s : σ) (j : Env) (w1 : World), I s w1 → DC P n body (updL (mix W j (updL e0 Fb)) (F s)) w1 (thenQ (fun e' w' => ∃ s', I s' w' ∧ μ s' < μ s ∧ AllEq e' (F s')) Q)) :
  DC P n (.loop body) e w Q := by
 refine DC.loop W F I μ s0 hW h0 hI (fun s j w1 hi => ?_)
 have := round e s j w1 hi
 rw [updL_same hb] at this
 exact this
/-- s[i]. -/
theorem Y.strIx {x ix : Operand} {t i : Nat} {k : IntKind} {z : Int} {s : ByteArray} (ht : P.underlying t = some .string) (hx : ev e x = .string s) (hi : ev e ix = .int k z) (hz : z = (i : Int)) (hlt : i < s.size) :
  Y P e ⟨dst, .index t x ix, ty, pos, af, g⟩ w (.int .u8 (s[i].toNat : Int)) := by
 subst hz
 have h2 : s[i]? = some s[i] := by simp [hlt]
 unfold Y
 simp [execOp, Instr.index, hx, hi, asIntOf, run_underlying ht, h2]
theorem Y.strIxV {x ix : Operand} {t i : Nat} {k : IntKind} {z : Int} {s : ByteArray} {b : UInt8} (ht : P.underlying t = some .string) (hx : ev e x = .string s) (hi : ev e ix = .int k z) (hz : z = (i : Int)) (hb : s.data.toList[i]? = some b) :
  Y P e ⟨dst, .index t x ix, ty, pos, af, g⟩ w (.int .u8 (b.toNat : Int)) := by
 obtain ⟨hl, he⟩ := List.getElem?_eq_some_iff.1 hb
 have hlt : i < s.size := by simpa using hl
 have hv : s[i] = b := by rw [← he]; rfl
 have := Y.strIx (P := P) (w := w) (dst := dst) (ty := ty) (pos := pos) (af := af) (g := g) ht hx hi hz hlt
 rw [hv] at this
 exact this
/-- append(v, s...) of a string's bytes. -/
theorem DL.appendStr {s x : Operand} {t u el d B N : Nat} {v : Value} {xs : List Value} {b : ByteArray} (hg : wantB ops e g = true) (hn : Nat.blt d n = true) (ht : eltT P t el 1 1 = true) (hu : P.underlying u = some .string) (hz : zeroT P el = some (.int .u8 0)) (hs : ev e s = v) (hx : ev e x = .string b)
  (hown : w.ownsRow B el 1 v N xs) (hby : N + b.size ≤ 140737488355328) (hB : B ≤ w.heap.size)
  (k : ∀ v' w', Fr (ownL v) w w' → w'.ownsRow B el 1 v' (N + b.size) (xs ++ b.data.toList.map fun c => .int .u8 (c.toNat : Int)) → DL P n ops rest (upd e d v') w' K) :
  DL P n ops (⟨some d, .call ⟨.builtin .append, #[s, x], #[t, u]⟩, ty, pos, af, g⟩ :: rest) e w K := by
 obtain ⟨i, z, k1, k2, k3, k4, k5, k6, k7, k8⟩ := eltT_spec ht
 have hz' : i.zero = some (.int .u8 0) := by
  unfold zeroT at hz
  rw [k2] at hz
  exact hz
 obtain ⟨v', w', hrun, ho, hgr, _⟩ := Lib.run_append_own_string (P := P) w B t u ty el i k1 hu k2 hz' k3 k4 v N xs hown b (by simp only [maxLen]; omega) hby hB
 refine DL.run hg hn (v := v') ?_ (k v' w' (fr_grown hgr) ?_)
 ·simp [execOp, resolve, Go.invoke, builtin, hs, hx, hrun]
 ·exact ho
/-- string(v) of bytes that are collected. -/
theorem Y.bytesStr {x : Operand} {s t el B N : Nat} {v : Value} {l : List UInt8} (hs : P.underlying s = some (.slice el)) (he : P.underlying el = some (.int .u8)) (ht : P.underlying t = some .string) (hx : ev e x = v) (hown : w.ownsRow B el 1 v N (l.map fun c => .int .u8 (c.toNat : Int))) :
  Y P e ⟨dst, .convert s t x, ty, pos, af, g⟩ w (.string ⟨l.toArray⟩) := by
 have hN : N = l.length := by have := hown.1; simpa using this.symm
 rcases hown.2 with ⟨rfl, h0⟩ | ⟨g', cap, cur, rfl, hb, hg, hnc, _, hcs, htk⟩
 ·have hl : l = [] := List.eq_nil_of_length_eq_zero (by omega)
  subst hl
  unfold Y
  simp only [execOp, hx, Sem.run_bind, run_convert_bytes_string w s t el none 0 0 hs he ht]
  rfl
 ·subst hN
  have hrun := run_convert_bytes_back (P := P) w s t el ⟨g', 0, none⟩ cap l hs he ht (fun j hj => by
   have := hown.cells (g := g') rfl j (.int .u8 (l[j].toNat : Int)) (by simp [hj])
   exact this)
  unfold Y
  simp only [execOp, hx, Sem.run_bind, hrun, Result.andThen_ok, Sem.run_pure]
/-- A slice literal. -/
def buildSlP (P : Program) (el len : Nat) (parts : List (Nat × Value)) : Option (Array Value) :=
 match P.info? el with
 | some ie => (match ie.zero with
  | some z => cond (Nat.ble (len * ie.size) 1000 && !(Nat.beq (len * ie.size) 0)) (Instr.fill (fun i => some (i * ie.size, ie.size)) ((Array.range (len * ie.size)).map (z.cells[· % z.cells.size]!)) parts) none
  | none => none)
 | none => none
theorem DL.buildSlC {t el len d : Nat} {parts : List (Nat × Operand)} {cs : Array Value} (hg : wantB ops e g = true) (hn : Nat.blt d n = true) (hu : P.underlying t = some (.slice el)) (hf : buildSlP P el len (evp e parts) = some cs)
  (k : ∀ b w', Fr [] w w' → w.heap.size ≤ b → b < w'.heap.size → w'.heap[b]? = some (.cells cs el (0, 0)) → DL P n ops rest (upd e d (.slice (some ⟨b, 0, none⟩) len len)) w' K) :
  DL P n ops (⟨some d, .buildSlice t len parts.toArray, ty, pos, af, g⟩ :: rest) e w K := by
 unfold buildSlP at hf
 split at hf
 ·rename_i ie h1
  split at hf
  ·rename_i z h2
   cases hc : (Nat.ble (len * ie.size) 1000 && !(Nat.beq (len * ie.size) 0)) with
   | false => rw [hc] at hf; cases hf
   | true =>
    rw [hc, cond_true] at hf
    simp only [Bool.and_eq_true, Bool.not_eq_true'] at hc
    have h3 := Nat.le_of_ble_eq_true hc.1
    have h4 : ¬ len * ie.size = 0 := fun h => by rw [h] at hc; cases hc.2
    rw [evp_eq] at hf
    have hrun := run_buildSlice (P := P) w t el len (parts.toArray.map fun p => (p.1, ev e p.2)) cs ie z hu h1 h2 (by omega) h4 (by simpa using hf)
    refine DL.run (w' := { w with heap := w.heap.push (.cells cs el) }) hg hn (v := .slice (some ⟨w.heap.size, 0, none⟩) len len) ?_ (k w.heap.size _ (fr_alloc w _) (Nat.le_refl _) (by simp) (blk_alloc w _))
    have e2 : execOp (ev e) ⟨some d, .buildSlice t len parts.toArray, ty, pos, af, g⟩ = (do pure (.value (← Instr.buildSlice t len (parts.toArray.map fun p => (p.1, ev e p.2))))) := rfl
    rw [e2]
    simp only [Sem.run_bind, hrun, Result.andThen_ok, Sem.run_pure]
    rfl
  ·cases hf
 ·cases hf
end
end Go.Proofs.YtmbleojlnaofjaaGreatDoor.D

/- Floats of halves: what float64(h), h / 2, 2 * x, Trunc and int make of whole numbers below 2^53. -/
namespace Go.Proofs.YtmbleojlnaofjaaGreatDoor
open Go Ieee
set_option linter.unusedVariables false
theorem dbl_bin : double.binade = 4503599627370496 := by decide +kernel
theorem dbl_inf : double.infRung = 9218868437227405312 := by decide +kernel
theorem dbl_sgn : double.signWeight = 9223372036854775808 := by decide +kernel
theorem dbl_lp : double.leastPlace = -1074 := by decide +kernel
theorem dbl_fb : double.fractionBits = 52 := rfl
theorem log2_of {n k : Nat} (h1 : 2 ^ k ≤ n) (h2 : n < 2 ^ (k + 1)) : n.log2 = k := by
 have h0 : n ≠ 0 := by have := Nat.two_pow_pos k; omega
 exact (Nat.log2_eq_iff h0).2 ⟨h1, h2⟩
theorem log2_mul {m d : Nat} (h1 : 4503599627370496 ≤ m) (h2 : m < 9007199254740992) : (m * 2 ^ d).log2 = 52 + d := by
 have hp := Nat.two_pow_pos d
 refine log2_of ?_ ?_
 ·rw [Nat.pow_add]; exact Nat.mul_le_mul_right _ h1
 ·rw [show 52 + d + 1 = 53 + d by omega, Nat.pow_add]; exact Nat.mul_lt_mul_of_pos_right h2 hp
/-- Digits that are whole behind the cut. -/
theorem near_exact (neg : Bool) {m d : Nat} {p : Int} (h1 : 4503599627370496 ≤ m) (h2 : m < 9007199254740992) (hp : -1074 ≤ p + d) (hq : p + d ≤ 900) :
  double.nearest neg (m * 2 ^ d) p = double.word neg ((p + d + 1074).toNat * 4503599627370496 + m) := by
 have hpd := Nat.two_pow_pos d
 have h0 : ¬ m * 2 ^ d = 0 := by
  intro h; rcases Nat.mul_eq_zero.1 h with h | h <;> omega
 unfold Format.nearest
 rw [if_neg h0, log2_mul h1 h2, dbl_lp, dbl_fb, dbl_bin, dbl_inf]
 have e1 : max (p + ((52 + d : Nat) : Int) - ((52 : Nat) : Int)) (-1074) = p + d := by omega
 simp only [e1]
 have e2 : (p - (p + (d : Int))).toNat = 0 := by omega
 have e3 : (p + (d : Int) - p).toNat = d := by omega
 rw [e2, e3]
 have e4 : (m * 2 ^ d) <<< 0 = m * 2 ^ d := rfl
 rw [e4]
 have e5 : Toward.even.cut neg (m * 2 ^ d) d = m := by
  unfold Toward.cut
  rw [log2_mul h1 h2, show min d (52 + d + 2) = d by omega, Nat.one_shiftLeft]
  dsimp only
  rw [Nat.mul_div_cancel _ hpd, Nat.mul_mod_left]
  simp only [Nat.mul_zero, Nat.not_lt_zero, decide_false, Bool.false_or]
  have h6 : (2 ^ d == 0) = false := by simp
  rw [h6]; rfl
 rw [e5]
 have e6 : p + (d : Int) - -1074 = p + d + 1074 := by omega
 rw [e6]
 have e7 : (p + (d : Int) + 1074).toNat ≤ 1974 := by omega
 rw [Nat.min_eq_left (by omega)]
/-- Digits that are too few: they move up. -/
theorem near_up (neg : Bool) {m d : Nat} {p : Int} (h1 : 4503599627370496 ≤ m * 2 ^ d) (h2 : m * 2 ^ d < 9007199254740992) (hd : d ≤ 52) (hp : -1074 ≤ p - d) (hq : p - d ≤ 900) :
  double.nearest neg m p = double.word neg ((p - d + 1074).toNat * 4503599627370496 + m * 2 ^ d) := by
 have hpd := Nat.two_pow_pos d
 have h0 : ¬ m = 0 := by intro h; rw [h] at h1; omega
 have hlog : m.log2 = 52 - d := by
  refine log2_of ?_ ?_
  ·have : 2 ^ (52 - d) * 2 ^ d ≤ m * 2 ^ d := by rw [← Nat.pow_add, show 52 - d + d = 52 by omega]; exact h1
   exact Nat.le_of_mul_le_mul_right this hpd
  ·have : m * 2 ^ d < 2 ^ (52 - d + 1) * 2 ^ d := by rw [← Nat.pow_add, show 52 - d + 1 + d = 53 by omega]; exact h2
   exact Nat.lt_of_mul_lt_mul_right this
 unfold Format.nearest
 rw [if_neg h0, hlog, dbl_lp, dbl_fb, dbl_bin, dbl_inf]
 have e1 : max (p + ((52 - d : Nat) : Int) - ((52 : Nat) : Int)) (-1074) = p - d := by omega
 simp only [e1]
 have e2 : (p - (p - (d : Int))).toNat = d := by omega
 have e3 : (p - (d : Int) - p).toNat = 0 := by omega
 rw [e2, e3, Nat.shiftLeft_eq]
 have e5 : Toward.even.cut neg (m * 2 ^ d) 0 = m * 2 ^ d := by
  unfold Toward.cut
  rw [Nat.zero_min]
  simp [Nat.mod_one]
 rw [e5]
 have e6 : p - (d : Int) - -1074 = p - d + 1074 := by omega
 rw [e6]
 have e7 : (p - (d : Int) + 1074).toNat ≤ 1974 := by omega
 rw [Nat.min_eq_left (by omega)]
theorem read_word (neg : Bool) {q m : Nat} (h1 : 4503599627370496 ≤ m) (h2 : m < 9007199254740992) (hq : q ≤ 1974) :
  double.read (double.word neg (q * 4503599627370496 + m)) = .number neg m ((q : Int) - 1074) := by
 unfold Format.read Format.word
 rw [dbl_sgn, dbl_bin, dbl_inf, dbl_lp]
 cases neg <;> simp only [Bool.false_eq_true, if_false, if_true]
 ·have e1 : (q * 4503599627370496 + m) / 9223372036854775808 = 0 := by omega
  have e2 : (q * 4503599627370496 + m) % 9223372036854775808 = q * 4503599627370496 + m := by omega
  rw [e1, e2, if_neg (by omega), if_pos (by omega)]
  have e3 : 4503599627370496 + (q * 4503599627370496 + m) % 4503599627370496 = m := by omega
  have e4 : (-1074 : Int) + (((q * 4503599627370496 + m) / 4503599627370496 - 1 : Nat) : Int) = (q : Int) - 1074 := by omega
  rw [e3, e4]; rfl
 ·have e1 : (9223372036854775808 + (q * 4503599627370496 + m)) / 9223372036854775808 = 1 := by omega
  have e2 : (9223372036854775808 + (q * 4503599627370496 + m)) % 9223372036854775808 = q * 4503599627370496 + m := by omega
  rw [e1, e2, if_neg (by omega), if_pos (by omega)]
  have e3 : 4503599627370496 + (q * 4503599627370496 + m) % 4503599627370496 = m := by omega
  have e4 : (-1074 : Int) + (((q * 4503599627370496 + m) / 4503599627370496 - 1 : Nat) : Int) = (q : Int) - 1074 := by omega
  rw [e3, e4]; rfl
/-- A whole number below 2^53, not 0: its digits, moved up to 53 of them. -/
structure Dig (h : Int) (m d : Nat) : Prop where
 pos : 0 < h.natAbs
 eq : m = h.natAbs * 2 ^ d
 lo : 4503599627370496 ≤ m
 hi : m < 9007199254740992
 d52 : d ≤ 52
theorem dig_of {h : Int} (h0 : h ≠ 0) (hb : h.natAbs < 9007199254740992) : ∃ m d, Dig h m d := by
 have hn : h.natAbs ≠ 0 := by omega
 have hlt := Nat.log2_lt (n := h.natAbs) (k := 53) hn
 have hk : h.natAbs.log2 < 53 := hlt.2 (by omega)
 have hs := (Nat.log2_eq_iff hn).1 rfl
 refine ⟨h.natAbs * 2 ^ (52 - h.natAbs.log2), 52 - h.natAbs.log2, ⟨by omega, rfl, ?_, ?_, by omega⟩⟩
 ·have : 2 ^ h.natAbs.log2 * 2 ^ (52 - h.natAbs.log2) ≤ h.natAbs * 2 ^ (52 - h.natAbs.log2) := Nat.mul_le_mul_right _ hs.1
  rw [← Nat.pow_add, show h.natAbs.log2 + (52 - h.natAbs.log2) = 52 by omega] at this
  exact this
 ·have : h.natAbs * 2 ^ (52 - h.natAbs.log2) < 2 ^ (h.natAbs.log2 + 1) * 2 ^ (52 - h.natAbs.log2) := Nat.mul_lt_mul_of_pos_right hs.2 (Nat.two_pow_pos _)
  rw [← Nat.pow_add, show h.natAbs.log2 + 1 + (52 - h.natAbs.log2) = 53 by omega] at this
  exact this
section
variable {h : Int} {m d : Nat}
def wordH (h : Int) (m d : Nat) : Nat := double.word (decide (h < 0)) ((1074 - d) * 4503599627370496 + m)
def wordF (h : Int) (m d : Nat) : Nat := double.word (decide (h < 0)) ((1073 - d) * 4503599627370496 + m)
theorem Dig.near (D : Dig h m d) : FloatKind.f64.nearest h = wordH h m d := by
 have e := D.eq
 show double.nearest (decide (h < 0)) h.natAbs 0 = _
 rw [near_up (decide (h < 0)) (m := h.natAbs) (d := d) (p := 0) (by rw [← e]; exact D.lo) (by rw [← e]; exact D.hi) D.d52 (by have := D.d52; omega) (by omega), ← e]
 unfold wordH
 have : ((0 : Int) - d + 1074).toNat = 1074 - d := by have := D.d52; omega
 rw [this]
theorem Dig.readH (D : Dig h m d) : double.read (wordH h m d) = .number (decide (h < 0)) m (-(d : Int)) := by
 unfold wordH
 rw [read_word _ D.lo D.hi (by omega)]
 have : ((1074 - d : Nat) : Int) - 1074 = -(d : Int) := by have := D.d52; omega
 rw [this]
theorem Dig.readF (D : Dig h m d) : double.read (wordF h m d) = .number (decide (h < 0)) m (-(d : Int) - 1) := by
 unfold wordF
 rw [read_word _ D.lo D.hi (by omega)]
 have : ((1073 - d : Nat) : Int) - 1074 = -(d : Int) - 1 := by have := D.d52; omega
 rw [this]
theorem read_two : double.read 4611686018427387904 = .number false 4503599627370496 (-51) := by decide +kernel
/-- h / 2. -/
theorem Dig.half (D : Dig h m d) : double.div (wordH h m d) 4611686018427387904 = some (wordF h m d) := by
 unfold Format.div
 rw [D.readH, read_two, dbl_fb]
 have hl : m.log2 = 52 := log2_of (k := 52) D.lo D.hi
 have hl2 : Nat.log2 4503599627370496 = 52 := log2_of (k := 52) (by decide) (by decide)
 simp only [Datum.quotient]
 rw [if_neg (by decide), hl, hl2]
 have e0 : 52 + 2 + 52 - 52 = 54 := by omega
 have e1 : m <<< 54 = m * 4 * 4503599627370496 := by rw [Nat.shiftLeft_eq, Nat.mul_assoc]
 rw [e0, e1, Nat.mul_div_cancel _ (by decide), Nat.mul_mod_left]
 simp only [Option.map_some, Bool.xor_false]
 have e2 : 2 * (m * 4) + (0 != 0 : Bool).toNat = m * 2 ^ 3 := by simp; omega
 rw [e2]
 show some (double.nearest _ _ _) = _
 rw [near_exact (d := 3) _ D.lo D.hi (by have := D.d52; omega) (by omega)]
 unfold wordF
 have e3 : (-(d : Int) - -51 - ((54 : Nat) : Int) - 1 + ((3 : Nat) : Int) + 1074).toNat = 1073 - d := by have := D.d52; omega
 rw [e3]
/-- 2 * (h / 2). -/
theorem Dig.twice (D : Dig h m d) : double.mul 4611686018427387904 (wordF h m d) = some (wordH h m d) := by
 unfold Format.mul
 rw [D.readF, read_two]
 simp only [Datum.product, Option.map_some, Bool.false_xor]
 show some (double.nearest _ _ _) = _
 rw [Nat.mul_comm, show m * 4503599627370496 = m * 2 ^ 52 from rfl, near_exact (d := 52) _ D.lo D.hi (by have := D.d52; omega) (by omega)]
 unfold wordH
 have e3 : ((-51 : Int) + (-(d : Int) - 1) + ((52 : Nat) : Int) + 1074).toNat = 1074 - d := by have := D.d52; omega
 rw [e3]
theorem Dig.cut (D : Dig h m d) (neg : Bool) : Toward.zero.cut neg m d = h.natAbs := by
 have hl : m.log2 = 52 := log2_of (k := 52) D.lo D.hi
 have hd := D.d52
 unfold Toward.cut
 rw [hl, show min d (52 + 2) = d by omega, Nat.one_shiftLeft, D.eq]
 dsimp only
 rw [Nat.mul_div_cancel _ (Nat.two_pow_pos _)]
 rfl
theorem Dig.integral (D : Dig h m d) : (FloatKind.f64.decode (wordH h m d)).integral .zero = .number (decide (h < 0)) h.natAbs 0 := by
 show (double.read (wordH h m d)).integral .zero = _
 rw [D.readH]
 simp only [Datum.integral]
 have e1 : (-(d : Int)).toNat = 0 := by omega
 have e2 : (- -(d : Int)).toNat = d := by omega
 rw [e1, e2, show m <<< 0 = m from rfl, D.cut]
theorem signed_nat (h : Int) : signed (decide (h < 0)) h.natAbs 0 = h := by
 unfold signed
 rw [show h.natAbs <<< 0 = h.natAbs from rfl]
 by_cases hc : h < 0 <;> simp [hc] <;> omega
/-- int(x). -/
theorem Dig.toInt (D : Dig h m d) (hb : h.natAbs < 9007199254740992) : floatToIntVal .f64 (wordH h m d) .i64 = some h := by
 unfold floatToIntVal Datum.toInt
 rw [D.integral]
 simp only [signed_nat]
 rw [if_pos]
 exact ⟨by show -9223372036854775808 ≤ h; omega, by show h ≤ 9223372036854775807; omega⟩
end
end Go.Proofs.YtmbleojlnaofjaaGreatDoor

/- More laws: floats compared and cut, a function without a body, an empty slice literal, a map's look-up. -/
namespace Go.Proofs.YtmbleojlnaofjaaGreatDoor.D
open Go Go.RowKit Go.Deep
set_option linter.unusedVariables false
set_option linter.unusedSectionVars false
set_option linter.unusedSimpArgs false
section
variable {P : Program} {n : Nat} {e : Env} {w : World} {ops rest : List Oper} {K : Env → World → Prop} {dst : Option Tmp} {ty : TypeId} {pos : String} {af : Array Edge} {g : Option (Nat × Bool)}
theorem Y.fne {x y : Operand} {t u : TypeId} {a b : Nat} {r : Bool} (hx : ev e x = .float .f64 a) (hy : ev e y = .float .f64 b) (h : (FloatKind.f64.format.order a b != some .eq) = r) : Y P e ⟨dst, .binOp .neq t x y u, ty, pos, af, g⟩ w (.bool r) := by
 subst h; unfold Y; simp [execOp, hx, hy, eqGuard, binOp_float_cmp_neq]
theorem Y.fle {x y : Operand} {t u : TypeId} {a b : Nat} {r : Bool} (hx : ev e x = .float .f64 a) (hy : ev e y = .float .f64 b) (h : (FloatKind.f64.format.order a b == some .lt || FloatKind.f64.format.order a b == some .eq) = r) : Y P e ⟨dst, .binOp .leq t x y u, ty, pos, af, g⟩ w (.bool r) := by
 subst h; unfold Y; simp [execOp, hx, hy, eqGuard, binOp_float_cmp_leq]
theorem Y.flt {x y : Operand} {t u : TypeId} {a b : Nat} {r : Bool} (hx : ev e x = .float .f64 a) (hy : ev e y = .float .f64 b) (h : (FloatKind.f64.format.order a b == some .lt) = r) : Y P e ⟨dst, .binOp .lss t x y u, ty, pos, af, g⟩ w (.bool r) := by
 subst h; unfold Y; simp [execOp, hx, hy, eqGuard, binOp_float_cmp_lss]
theorem Y.fge {x y : Operand} {t u : TypeId} {a b : Nat} {r : Bool} (hx : ev e x = .float .f64 a) (hy : ev e y = .float .f64 b) (h : (FloatKind.f64.format.order a b == some .gt || FloatKind.f64.format.order a b == some .eq) = r) : Y P e ⟨dst, .binOp .geq t x y u, ty, pos, af, g⟩ w (.bool r) := by
 subst h; unfold Y; simp [execOp, hx, hy, eqGuard, binOp_float_cmp_geq]
theorem Y.convFI {x : Operand} {s t : TypeId} {a : Nat} {z : Int} (hs : (P.underlying s).isSome = true) (ht : P.underlying t = some (.int .i64)) (hx : ev e x = .float .f64 a) (h : floatToIntVal .f64 a .i64 = some z) : Y P e ⟨dst, .convert s t x, ty, pos, af, g⟩ w (.int .i64 z) := by
 unfold Y; simp [execOp, hx, run_convert_float_int (P := P) w s t .f64 .i64 a z hs ht h]
/-- A function without a body, of one argument. -/
theorem Y.ext1 {x : Operand} {f : FuncId} {fn : Func} {ats : Array TypeId} {en : Array Value → Sem Value} {a v : Value} (hf : P.funcs[f]? = some fn) (hname : (fn.name == "runtime.NumGoroutine") = false) (hb : fn.body.isNone = true) (hn : Extern.findNext fn = none) (he : Extern.find fn = some en)
  (hx : ev e x = a) (hr : (en #[a]).run P w = .ok v w) : Y P e ⟨dst, .call ⟨.value (.func f), #[x], ats⟩, ty, pos, af, g⟩ w v := by
 have h4 : execOp (ev e) ⟨dst, .call ⟨.value (.func f), #[x], ats⟩, ty, pos, af, g⟩ = callFunc f (#[] ++ #[x].map (ev e) ++ #[]) := rfl
 have h5 : (#[] ++ #[x].map (ev e) ++ #[]) = #[a] := by simp [hx]
 unfold Y
 rw [h4, h5, run_callFunc_extern hf hname hb hn he, hr]
 rfl
/-- A slice literal without elements. -/
theorem DL.buildSl0 {t el d : Nat} (hg : wantB ops e g = true) (hn : Nat.blt d n = true) (hu : P.underlying t = some (.slice el)) (hi : (P.info? el).isSome = true)
  (k : ∀ b w', Fr [] w w' → w.heap.size ≤ b → b < w'.heap.size → w'.heap[b]? = some (.cells #[] el (0, 0)) → DL P n ops rest (upd e d (.slice (some ⟨b, 0, none⟩) 0 0)) w' K) :
  DL P n ops (⟨some d, .buildSlice t 0 #[], ty, pos, af, g⟩ :: rest) e w K := by
 obtain ⟨i, hi⟩ := Option.isSome_iff_exists.1 hi
 have hrun : (Instr.buildSlice t 0 #[]).run P w = .ok (.slice (some ⟨w.heap.size, 0, none⟩) 0 0) (w.alloc (.cells #[] el)) := by
  have h0 : Array.range 0 = #[] := by simp [Array.range]
  simp [Instr.buildSlice, run_underlying hu, sizeOf, typeInfo, hi, newRow, Instr.fill, h0]
 refine DL.run (w' := { w with heap := w.heap.push (.cells #[] el) }) hg hn (v := .slice (some ⟨w.heap.size, 0, none⟩) 0 0) ?_ (k w.heap.size _ (fr_alloc w _) (Nat.le_refl _) (by simp) (blk_alloc w _))
 have e2 : execOp (ev e) ⟨some d, .buildSlice t 0 #[], ty, pos, af, g⟩ = (do pure (.value (← Instr.buildSlice t 0 #[]))) := by
  simp [execOp]
 rw [e2]
 simp only [Sem.run_bind, hrun, Result.andThen_ok, Sem.run_pure]
 rfl
theorem own_empty {w : World} {B el size b : Nat} (hb : w.heap[b]? = some (.cells #[] el (0, 0))) (hB : B ≤ b) : w.ownsRow B el size (.slice (some ⟨b, 0, none⟩) 0 0) 0 [] :=
 ⟨by simp, .inr ⟨b, 0, #[], rfl, hB, hb, Nat.le_refl _, by decide, by simp, by simp⟩⟩
theorem findNow_at {keys : List ByteArray} {es : Array MapEntry} {xs : Nat → Value} (he : ∀ (i : Nat) (h : i < keys.length), es[i]? = some ⟨.string keys[i], xs i, i⟩) (hs : es.size = keys.length) (hne : ∀ (i j : Nat) (hi : i < j) (hj : j < keys.length), keys[i]'(by omega) ≠ keys[j]) {k : Nat} (hk : k < keys.length) :
  Instr.findNow .string (.string keys[k]) es.toList 0 = some (some (k, xs k)) := by
 have key : ∀ (m i : Nat), i + m = k → Instr.findNow .string (.string keys[k]) (es.toList.drop i) i = some (some (k, xs k)) := by
  intro m
  induction m with
  | zero =>
   intro i hi
   obtain rfl : i = k := by omega
   have hl : i < es.toList.length := by simp; omega
   rw [List.drop_eq_getElem_cons hl]
   have h1 : es.toList[i] = ⟨.string keys[i], xs i, i⟩ := by
    have := he i hk
    rw [Array.getElem?_eq_getElem (by omega)] at this
    simpa using this
   unfold Instr.findNow
   rw [h1]
   have hf : (keys[i] == keys[i]) = true := (beq_self_eq_true (keys[i].data) : ((keys[i]).data == (keys[i]).data) = true)
   simp only [Instr.sameNow, hf]
  | succ m ih =>
   intro i hi
   have hl : i < es.toList.length := by simp; omega
   rw [List.drop_eq_getElem_cons hl]
   have h1 : es.toList[i] = ⟨.string (keys[i]'(by omega)), xs i, i⟩ := by
    have := he i (by omega)
    rw [Array.getElem?_eq_getElem (by omega)] at this
    simpa using this
   have hd : keys[i]'(by omega) ≠ keys[k] := hne i k (by omega) hk
   have hf : (keys[k] == keys[i]'(by omega)) = false := (beq_eq_false_iff_ne.2 (fun h => hd (ByteArray.ext h.symm)) : ((keys[k]).data == (keys[i]'(by omega)).data) = false)
   unfold Instr.findNow
   rw [h1]
   simp only [Instr.sameNow, hf]
   exact ih (i + 1) (by omega)
 have := key k 0 (by omega)
 simpa using this
/-- m[k] of a key that is there. -/
theorem Y.lookupAt {m x : Operand} {t kt el r clock : Nat} {es : Array MapEntry} {xs : Nat → Value} {keys : List ByteArray} {k : Nat} (ht : P.underlying t = some (.map kt el)) (hkt : P.underlying kt = some .string) (hm : ev e m = .map (some r)) (hk : k < keys.length) (hx : ev e x = .string keys[k])
  (hr : w.heap[r]? = some (.map es clock)) (hes : es.size = keys.length) (he : ∀ (i : Nat) (h : i < keys.length), es[i]? = some ⟨.string keys[i], xs i, i⟩) (hne : ∀ (i j : Nat) (hi : i < j) (hj : j < keys.length), keys[i]'(by omega) ≠ keys[j]) :
  Y P e ⟨dst, .lookup t m x false, ty, pos, af, g⟩ w (xs k) := by
 have hget : (getObj r).run P w = .ok (.map es clock) w := by simp [getObj, Sem.run, hr]
 have hck : (Instr.checkKey es.isEmpty 10000 kt (.string keys[k])).run P w = .ok () w := by
  unfold Instr.checkKey
  simp only [Sem.run_bind, run_underlying hkt, Result.andThen_ok]
  rfl
 have hfind : (Instr.findKey kt (.string keys[k]) es.toList).run P w = .ok (some (k, xs k)) w := by
  unfold Instr.findKey
  simp only [Sem.run_bind, run_underlying hkt, Result.andThen_ok, findNow_at he hes hne hk]
  rfl
 unfold Y
 simp only [execOp, hm, hx, Instr.lookup, Sem.run_bind, run_underlying ht, Result.andThen_ok, hget, Sem.run_pure, hck, hfind]
 rfl
end
end Go.Proofs.YtmbleojlnaofjaaGreatDoor.D

/- Values of JSON as trees, and how they lie in memory. -/
namespace Go.Proofs.YtmbleojlnaofjaaGreatDoor
open Go Go.RowKit D
set_option linter.unusedVariables false

/-- A value as data: kind, twice its number, text, list, keys, values. -/
inductive V where
 | mk (kind half : Int) (text : ByteArray) (list : List V) (keys : List ByteArray) (vals : List V)

/-- A row of n elements of sz cells each: its address below block B. -/
def Row (w : World) (B : Nat) (a : Option Addr) (n sz : Nat) (cl : Nat → Array Value) : Prop :=
 ∀ i, i < n → ∃ b o, a = some ⟨b, o, none⟩ ∧ b < B ∧ CellsAt w b (o + i * sz) (cl i) ∧ (cl i).size = sz
def strCells (keys : List ByteArray) (i : Nat) : Array Value := #[.string (keys.getD i default)]

inductive RV (w : World) (B : Nat) : V → Array Value → Prop
 | mk {kind half : Int} {text : ByteArray} {list : List V} {keys : List ByteArray} {vals : List V} {la ka va : Option Addr} {lc kc vc : Nat} (cl cv : Nat → Array Value)
   (hk : -9223372036854775808 ≤ kind ∧ kind ≤ 9223372036854775807) (hh : -9223372036854775808 ≤ half ∧ half ≤ 9223372036854775807) (ht : text.size ≤ 140737488351232)
   (ln : list.length ≤ 140737488351232) (kn : keys.length ≤ 140737488351232) (vn : vals.length ≤ 140737488351232) (ks : ∀ k ∈ keys, k.size ≤ 140737488351232)
   (hl : Row w B la list.length 6 cl) (rl : ∀ (i : Nat) (h : i < list.length), RV w B list[i] (cl i))
   (hks : Row w B ka keys.length 1 (strCells keys))
   (hv : Row w B va vals.length 6 cv) (rv : ∀ (i : Nat) (h : i < vals.length), RV w B vals[i] (cv i)) :
   RV w B (.mk kind half text list keys vals) #[.int .i64 kind, .int .i64 half, .string text, .slice la list.length lc, .slice ka keys.length kc, .slice va vals.length vc]

theorem Row.fr {S : List Nat} {w w' : World} {B : Nat} {a : Option Addr} {n sz : Nat} {cl : Nat → Array Value} (h : Row w B a n sz cl) (f : Fr S w w') (hs : ∀ b, b < B → b ∉ S) : Row w' B a n sz cl :=
 fun i hi => let ⟨b, o, h1, h2, h3, h4⟩ := h i hi; ⟨b, o, h1, h2, h3.fr f (hs b h2), h4⟩
theorem RV.fr {S : List Nat} {w w' : World} {B : Nat} {v : V} {cs : Array Value} (h : RV w B v cs) (f : Fr S w w') (hs : ∀ b, b < B → b ∉ S) : RV w' B v cs := by
 induction h with
 | mk cl cv hk hh ht ln kn vn ks hl rl hks hv rv ih1 ih2 => exact .mk cl cv hk hh ht ln kn vn ks (hl.fr f hs) ih1 (hks.fr f hs) (hv.fr f hs) ih2
theorem RV.size {w : World} {B : Nat} {v : V} {cs : Array Value} (h : RV w B v cs) : cs.size = 6 := by cases h; rfl
theorem Row.at {w : World} {B : Nat} {a : Option Addr} {n sz : Nat} {cl : Nat → Array Value} (h : Row w B a n sz cl) {i : Nat} (hi : i < n) : ∃ b o, a = some ⟨b, o, none⟩ ∧ b < B ∧ CellsAt w b (o + i * sz) (cl i) := by
 obtain ⟨b, o, h1, h2, h3, _⟩ := h i hi
 exact ⟨b, o, h1, h2, h3⟩
theorem Row.str {w : World} {B : Nat} {a : Option Addr} {keys : List ByteArray} (h : Row w B a keys.length 1 (strCells keys)) {i : Nat} (hi : i < keys.length) :
  ∃ b o, a = some ⟨b, o, none⟩ ∧ b < B ∧ w.cell? ⟨b, o + i * 1, none⟩ = some (.string keys[i]) := by
 obtain ⟨b, o, h1, h2, h3, _⟩ := h i hi
 refine ⟨b, o, h1, h2, ?_⟩
 have := h3.cell 0 (v := .string keys[i]) (by simp [strCells, List.getD_eq_getElem?_getD, hi])
 simpa using this

mutual
def V.nodes : V → Nat
 | .mk _ _ _ list _ vals => 1 + V.nodesL list + V.nodesL vals
def V.nodesL : List V → Nat
 | [] => 0
 | v :: r => v.nodes + V.nodesL r
end
def bytesK (keys : List ByteArray) : Nat := (keys.map (·.size)).sum
mutual
def V.bytes : V → Nat
 | .mk _ _ text list keys vals => text.size + V.bytesL list + bytesK keys + V.bytesL vals
def V.bytesL : List V → Nat
 | [] => 0
 | v :: r => v.bytes + V.bytesL r
end
def rising : List ByteArray → Prop
 | [] => True
 | [_] => True
 | a :: b :: r => Op.bytesLess a.toList b.toList = true ∧ rising (b :: r)
/-- What the statements call right: one node. -/
structure GoodN (kind half : Int) (text : ByteArray) (nl : Nat) (keys : List ByteArray) (nv : Nat) : Prop where
 krange : 0 ≤ kind ∧ kind ≤ 6
 hzero : kind = 3 ∨ half = 0
 tzero : kind = 4 ∨ text = ⟨#[]⟩
 lzero : kind = 5 ∨ nl = 0
 kzero : kind = 6 ∨ keys.length = 0
 same : keys.length = nv
 hbound : -18014398509481984 ≤ half ∧ half ≤ 18014398509481984
 hodd : half.tmod 2 = 0 ∨ (-9007199254740992 < half ∧ half < 9007199254740992)
 tvalid : Lib.validD text.data.toList = true
 kvalid : ∀ i (h : i < keys.length), Lib.validD keys[i].data.toList = true
 rise : ∀ i (h : i + 1 < keys.length), Op.bytesLess keys[i].toList keys[i + 1].toList = true
inductive Good : V → Prop
 | mk {kind half : Int} {text : ByteArray} {list : List V} {keys : List ByteArray} {vals : List V} (n : GoodN kind half text list.length keys vals.length)
   (hl : ∀ i (h : i < list.length), Good list[i]) (hv : ∀ i (h : i < vals.length), Good vals[i]) : Good (.mk kind half text list keys vals)

theorem nodesL_take {l : List V} : ∀ {k : Nat} (h : k < l.length), V.nodesL (l.take (k + 1)) = V.nodesL (l.take k) + l[k].nodes := by
 induction l with
 | nil => intro k h; cases h
 | cons v l ih =>
  intro k h
  cases k with
  | zero => simp [V.nodesL]
  | succ k =>
   have := ih (k := k) (by simpa using h)
   simp only [List.take_succ_cons, V.nodesL, this, List.getElem_cons_succ]
   omega
theorem bytesL_take {l : List V} : ∀ {k : Nat} (h : k < l.length), V.bytesL (l.take (k + 1)) = V.bytesL (l.take k) + l[k].bytes := by
 induction l with
 | nil => intro k h; cases h
 | cons v l ih =>
  intro k h
  cases k with
  | zero => simp [V.bytesL]
  | succ k =>
   have := ih (k := k) (by simpa using h)
   simp only [List.take_succ_cons, V.bytesL, this, List.getElem_cons_succ]
   omega
theorem bytesK_take {l : List ByteArray} : ∀ {k : Nat} (h : k < l.length), bytesK (l.take (k + 1)) = bytesK (l.take k) + l[k].size := by
 induction l with
 | nil => intro k h; cases h
 | cons v l ih =>
  intro k h
  cases k with
  | zero => simp [bytesK]
  | succ k =>
   have := ih (k := k) (by simpa using h)
   simp only [bytesK, List.take_succ_cons, List.map_cons, List.sum_cons, List.getElem_cons_succ] at this ⊢
   omega
theorem nodes_le {l : List V} {k : Nat} (h : k < l.length) : l[k].nodes ≤ V.nodesL l := by
 induction l generalizing k with
 | nil => cases h
 | cons v l ih =>
  cases k with
  | zero => simp [V.nodesL]
  | succ k => have := ih (k := k) (by simpa using h); simp only [List.getElem_cons_succ, V.nodesL]; omega
theorem nodes_pos (v : V) : 1 ≤ v.nodes := by cases v; simp only [V.nodes]; omega
theorem length_le_nodesL (l : List V) : l.length ≤ V.nodesL l := by
 induction l with
 | nil => simp [V.nodesL]
 | cons v l ih => have := nodes_pos v; simp only [List.length_cons, V.nodesL]; omega

section
variable {w : World} {B : Nat} {kind half : Int} {text : ByteArray} {list : List V} {keys : List ByteArray} {vals : List V} {la ka va : Option Addr} {ln kn vn lc kc vc : Nat}
theorem RV.shape {cs : Array Value} (h : RV w B (.mk kind half text list keys vals) cs) :
  ∃ la lc ka kc va vc, cs = #[.int .i64 kind, .int .i64 half, .string text, .slice la list.length lc, .slice ka keys.length kc, .slice va vals.length vc] := by
 cases h; exact ⟨_, _, _, _, _, _, rfl⟩
theorem RV.lens (h : RV w B (.mk kind half text list keys vals) #[.int .i64 kind, .int .i64 half, .string text, .slice la ln lc, .slice ka kn kc, .slice va vn vc]) :
  ln = list.length ∧ kn = keys.length ∧ vn = vals.length := by cases h; exact ⟨rfl, rfl, rfl⟩
theorem RV.elem (h : RV w B (.mk kind half text list keys vals) #[.int .i64 kind, .int .i64 half, .string text, .slice la ln lc, .slice ka kn kc, .slice va vn vc]) {k : Nat} (hk : k < list.length) :
  ∃ b o cl, la = some ⟨b, o, none⟩ ∧ b < B ∧ CellsAt w b (o + k * 6) cl ∧ cl.size = 6 ∧ RV w B list[k] cl := by
 cases h with
 | mk cl cv hk0 hh ht l1 k1 v1 ks hl rl hks hv rv =>
  obtain ⟨b, o, h1, h2, h3, h4⟩ := hl k hk
  exact ⟨b, o, cl k, h1, h2, h3, h4, rl k hk⟩
theorem RV.valAt (h : RV w B (.mk kind half text list keys vals) #[.int .i64 kind, .int .i64 half, .string text, .slice la ln lc, .slice ka kn kc, .slice va vn vc]) {k : Nat} (hk : k < vals.length) :
  ∃ b o cl, va = some ⟨b, o, none⟩ ∧ b < B ∧ CellsAt w b (o + k * 6) cl ∧ cl.size = 6 ∧ RV w B vals[k] cl := by
 cases h with
 | mk cl cv hk0 hh ht l1 k1 v1 ks hl rl hks hv rv =>
  obtain ⟨b, o, h1, h2, h3, h4⟩ := hv k hk
  exact ⟨b, o, cv k, h1, h2, h3, h4, rv k hk⟩
theorem RV.keyAt (h : RV w B (.mk kind half text list keys vals) #[.int .i64 kind, .int .i64 half, .string text, .slice la ln lc, .slice ka kn kc, .slice va vn vc]) {k : Nat} (hk : k < keys.length) :
  ∃ b o, ka = some ⟨b, o, none⟩ ∧ b < B ∧ w.cell? ⟨b, o + k * 1, none⟩ = some (.string keys[k]) ∧ keys[k].size ≤ 140737488351232 := by
 cases h with
 | mk cl cv hk0 hh ht l1 k1 v1 ks hl rl hks hv rv =>
  obtain ⟨b, o, h1, h2, h3⟩ := hks.str hk
  exact ⟨b, o, h1, h2, h3, ks _ (List.getElem_mem hk)⟩
theorem RV.bounds (h : RV w B (.mk kind half text list keys vals) #[.int .i64 kind, .int .i64 half, .string text, .slice la ln lc, .slice ka kn kc, .slice va vn vc]) :
  text.size ≤ 140737488351232 ∧ list.length ≤ 140737488351232 ∧ keys.length ≤ 140737488351232 ∧ vals.length ≤ 140737488351232 ∧
  (-9223372036854775808 ≤ kind ∧ kind ≤ 9223372036854775807) ∧ (-9223372036854775808 ≤ half ∧ half ≤ 9223372036854775807) := by
 cases h with
 | mk cl cv hk0 hh ht l1 k1 v1 ks hl rl hks hv rv => exact ⟨ht, l1, k1, v1, hk0, hh⟩
end
/-- Package utf8's two tables, as its text lays them. -/
def Tabs (w : World) : Prop := Lib.Utf8Tabs 0 1 w
theorem Tabs.fr {S : List Nat} {w w' : World} (h : Tabs w) (f : Fr S w w') (hs : ∀ b, b < 2 → b ∉ S) : Tabs w' := by
 have key : ∀ b o v, b < 2 → w.cell? ⟨b, o, none⟩ = some v → w'.cell? ⟨b, o, none⟩ = some v := fun b o v hb hc => f.cell hc (hs b hb)
 exact ⟨fun c hc => key _ _ _ (by decide) (h.1 c hc), fun i hi => ⟨key _ _ _ (by decide) (h.2 i hi).1, key _ _ _ (by decide) (h.2 i hi).2⟩⟩
end Go.Proofs.YtmbleojlnaofjaaGreatDoor

/- Parts of trees of values: slices of strings, slices of values. -/
namespace Go.Proofs.YtmbleojlnaofjaaGreatDoor
open Go Go.RowKit D
set_option linter.unusedVariables false
/-! ### The order of strings -/
def V.kind : V → Int | .mk kind _ _ _ _ _ => kind
theorem less_irr : ∀ l : List UInt8, Op.bytesLess l l = false
 | [] => rfl
 | a :: l => by simp [Op.bytesLess, less_irr l]
theorem less_trans : ∀ {a b c : List UInt8}, Op.bytesLess a b = true → Op.bytesLess b c = true → Op.bytesLess a c = true
 | _, [], _, h, _ => by cases ‹List UInt8› <;> simp [Op.bytesLess] at h
 | _, _ :: _, [], _, h => by simp [Op.bytesLess] at h
 | [], _ :: _, _ :: _, _, _ => rfl
 | x :: a, y :: b, z :: c, h, k => by
  simp only [Op.bytesLess, Bool.or_eq_true, Bool.and_eq_true, decide_eq_true_eq, beq_iff_eq] at h k ⊢
  rcases h with h | ⟨rfl, h⟩
  ·rcases k with k | ⟨rfl, k⟩
   ·exact .inl (UInt8.lt_trans h k)
   ·exact .inl h
  ·rcases k with k | ⟨rfl, k⟩
   ·exact .inl k
   ·exact .inr ⟨rfl, less_trans h k⟩
theorem rise_lt {keys : List ByteArray} (h : ∀ i (h : i + 1 < keys.length), Op.bytesLess keys[i].toList keys[i + 1].toList = true) : ∀ (d i : Nat) (hj : i + d + 1 < keys.length), Op.bytesLess (keys[i]'(by omega)).toList keys[i + d + 1].toList = true
 | 0, i, hj => h i hj
 | d + 1, i, hj => less_trans (rise_lt h d i (by omega)) (h (i + d + 1) hj)
theorem rise_ne {keys : List ByteArray} (h : ∀ i (h : i + 1 < keys.length), Op.bytesLess keys[i].toList keys[i + 1].toList = true) {i j : Nat} (hij : i < j) (hj : j < keys.length) : keys[i]'(by omega) ≠ keys[j] := by
 intro he
 have := rise_lt h (j - i - 1) i (by omega)
 simp only [show i + (j - i - 1) + 1 = j by omega] at this
 rw [he, less_irr] at this
 cases this
/-- A slice of strings that lies below B. -/
def RVK (w : World) (B : Nat) (a : Option Addr) (keys : List ByteArray) : Prop := ∀ k (hk : k < keys.length), ∃ b o, a = some ⟨b, o, none⟩ ∧ b < B ∧ w.cell? ⟨b, o + k * 1, none⟩ = some (.string keys[k]) ∧ keys[k].size ≤ 140737488351232
theorem RVK.fr {S : List Nat} {w w' : World} {B : Nat} {a : Option Addr} {keys : List ByteArray} (h : RVK w B a keys) (f : Fr S w w') (hs : ∀ b, b < B → b ∉ S) : RVK w' B a keys :=
 fun k hk => let ⟨b, o, h1, h2, h3, h4⟩ := h k hk; ⟨b, o, h1, h2, f.cell h3 (hs b h2), h4⟩
theorem RV.keys {w : World} {B : Nat} {kind half : Int} {text : ByteArray} {list : List V} {keys : List ByteArray} {vals : List V} {la ka va : Option Addr} {ln kn vn lc kc vc : Nat} (h : RV w B (.mk kind half text list keys vals) #[.int .i64 kind, .int .i64 half, .string text, .slice la ln lc, .slice ka kn kc, .slice va vn vc]) : RVK w B ka keys :=
 fun k hk => h.keyAt hk
/-- A list of values below B. -/
def RVL (w : World) (B : Nat) (a : Option Addr) (list : List V) : Prop := ∀ k (hk : k < list.length), ∃ b o cl, a = some ⟨b, o, none⟩ ∧ b < B ∧ CellsAt w b (o + k * 6) cl ∧ cl.size = 6 ∧ RV w B list[k] cl
theorem RVL.fr {S : List Nat} {w w' : World} {B : Nat} {a : Option Addr} {list : List V} (h : RVL w B a list) (f : Fr S w w') (hs : ∀ b, b < B → b ∉ S) : RVL w' B a list :=
 fun k hk => let ⟨b, o, cl, h1, h2, h3, h4, h5⟩ := h k hk; ⟨b, o, cl, h1, h2, h3.fr f (hs b h2), h4, h5.fr f hs⟩
section
variable {w : World} {B : Nat} {kind half : Int} {text : ByteArray} {list : List V} {keys : List ByteArray} {vals : List V} {la ka va : Option Addr} {ln kn vn lc kc vc : Nat}
theorem RV.lists (h : RV w B (.mk kind half text list keys vals) #[.int .i64 kind, .int .i64 half, .string text, .slice la ln lc, .slice ka kn kc, .slice va vn vc]) : RVL w B la list := fun k hk => h.elem hk
theorem RV.valss (h : RV w B (.mk kind half text list keys vals) #[.int .i64 kind, .int .i64 half, .string text, .slice la ln lc, .slice ka kn kc, .slice va vn vc]) : RVL w B va vals := fun k hk => h.valAt hk
end
end Go.Proofs.YtmbleojlnaofjaaGreatDoor

/- JSON texts, as lists of bytes; laws of operations with their results named. -/
namespace Go.Proofs.YtmbleojlnaofjaaGreatDoor
open Go Go.RowKit D
set_option linter.unusedVariables false
set_option linter.unusedSimpArgs false
namespace D
section
variable {P : Program} {e : Env} {w : World} {dst : Option Tmp} {ty : TypeId} {pos : String} {af : Array Edge} {g : Option (Nat × Bool)}
theorem Y.remC {x y : Operand} {t u : TypeId} {k : IntKind} {a b c : Int} (hx : ev e x = .int k a) (hy : ev e y = .int k b) (hb : b ≠ 0) (h : a.tmod b = c) : Y P e ⟨dst, .binOp .rem t x y u, ty, pos, af, g⟩ w (.int k c) := by
 subst h; exact Y.rem hx hy hb
theorem Y.addC {x y : Operand} {t u : TypeId} {k : IntKind} {a b c : Int} (hx : ev e x = .int k a) (hy : ev e y = .int k b) (h : k.wrap (a + b) = c) : Y P e ⟨dst, .binOp .add t x y u, ty, pos, af, g⟩ w (.int k c) := by
 subst h; exact Y.add hx hy
theorem Y.convC {x : Operand} {s t : TypeId} {k k' : IntKind} {a c : Int} (hs : (P.underlying s).isSome = true) (ht : P.underlying t = some (.int k')) (hx : ev e x = .int k a) (h : k'.wrap a = c) : Y P e ⟨dst, .convert s t x, ty, pos, af, g⟩ w (.int k' c) := by
 subst h; exact Y.convII hs ht hx
theorem Y.runeC {x : Operand} {s t : Nat} {k : IntKind} {r : Int} {b : ByteArray} (hs : (P.underlying s).isSome = true) (ht : P.underlying t = some .string) (hx : ev e x = .int k r) (h : Utf8.encode r = b) : Y P e ⟨dst, .convert s t x, ty, pos, af, g⟩ w (.string b) := by
 subst h; exact Y.runeStr hs ht hx
/-- What is joined has a name. -/
theorem DL.catE {n : Nat} {ops rest : List Oper} {K : Env → World → Prop} {x y : Operand} {t u d : Nat} {a b : ByteArray} (hg : wantB ops e g = true) (hn : Nat.blt d n = true) (hx : ev e x = .string a) (hy : ev e y = .string b) (h : a.size + b.size ≤ 9223372036854775807)
  (k : ∀ c : ByteArray, c.data.toList = a.data.toList ++ b.data.toList → DL P n ops rest (upd e d (.string c)) w K) : DL P n ops (⟨some d, .binOp .add t x y u, ty, pos, af, g⟩ :: rest) e w K :=
 DL.y hg hn (Y.cat hx hy h) (k _ (by rw [ByteArray.data_append, Array.toList_append]))
end
end D
theorem size_list (b : ByteArray) : b.size = b.data.toList.length := by rw [Array.length_toList]; rfl
/-! ### Texts -/
def hexd (d : Nat) : UInt8 := if d < 10 then UInt8.ofNat (48 + d) else UInt8.ofNat (87 + d)
def escJ (c : UInt8) : List UInt8 :=
 if c = 34 then [92, 34] else if c = 92 then [92, 92] else if c = 10 then [92, 110] else if c = 9 then [92, 116] else if c = 13 then [92, 114] else if c = 8 then [92, 98] else if c = 12 then [92, 102]
 else if c.toNat < 32 ∨ c = 127 then [92, 117, 48, 48, hexd (c.toNat / 16), hexd (c.toNat % 16)] else [c]
def escT (l : List UInt8) : List UInt8 := l.flatMap escJ
def qL (l : List UInt8) : List UInt8 := 34 :: (escT l ++ [34])
theorem escJ_len (c : UInt8) : (escJ c).length ≤ 6 := by
 unfold escJ
 repeat' split
 all_goals simp
theorem escT_len : ∀ l : List UInt8, (escT l).length ≤ 6 * l.length
 | [] => by simp [escT]
 | c :: l => by
  have h1 := escJ_len c
  have h2 := escT_len l
  simp only [escT, List.flatMap_cons, List.length_append, List.length_cons] at h2 ⊢
  omega
theorem escT_succ {s : ByteArray} {i : Nat} (h : i < s.size) : escT (s.data.toList.take (i + 1)) = escT (s.data.toList.take i) ++ escJ s[i] := by
 have hl : i < s.data.toList.length := by simpa using h
 rw [List.take_succ_eq_append_getElem hl]
 simp [escT]
 rfl
def decL (n : Nat) : List UInt8 := if h : n < 10 then [UInt8.ofNat (48 + n)] else decL (n / 10) ++ [UInt8.ofNat (48 + n % 10)]
termination_by n
decreasing_by omega
theorem decL_lt {n : Nat} (h : n < 10) : decL n = [UInt8.ofNat (48 + n)] := by rw [decL, dif_pos h]
theorem decL_ge {n : Nat} (h : 10 ≤ n) : decL n = decL (n / 10) ++ [UInt8.ofNat (48 + n % 10)] := by rw [decL, dif_neg (by omega)]
theorem decL_len : ∀ (k n : Nat), n < 10 ^ (k + 1) → (decL n).length ≤ k + 1
 | 0, n, h => by rw [decL_lt (by simpa using h)]; simp
 | k + 1, n, h => by
  by_cases hn : n < 10
  ·rw [decL_lt hn]; simp
  ·rw [decL_ge (by omega), List.length_append]
   have := decL_len k (n / 10) (by rw [Nat.pow_succ] at h; omega)
   simp only [List.length_singleton]; omega
def numL (h : Int) : List UInt8 := (if h < 0 then [45] else []) ++ decL (h.natAbs / 2) ++ (if h.natAbs % 2 = 1 then [46, 53] else [])
def joinT : List (List UInt8) → List UInt8
 | [] => []
 | e :: r => e ++ r.flatMap (fun x => 44 :: x)
theorem joinT_succ {es : List (List UInt8)} {k : Nat} (h : k < es.length) : joinT (es.take (k + 1)) = joinT (es.take k) ++ (if k = 0 then [] else [44]) ++ es[k] := by
 cases es with
 | nil => cases h
 | cons e r =>
  cases k with
  | zero => simp [joinT]
  | succ k =>
   have h' : k < r.length := by simpa using h
   simp only [List.take_succ_cons, joinT, List.getElem_cons_succ]
   rw [List.take_succ_eq_append_getElem h', List.flatMap_append]
   simp
mutual
def jL : V → List UInt8
 | .mk kind half text list keys vals =>
  if kind = 0 then [110, 117, 108, 108] else if kind = 1 then [102, 97, 108, 115, 101] else if kind = 2 then [116, 114, 117, 101] else if kind = 3 then numL half else if kind = 4 then qL text.data.toList
  else if kind = 5 then 91 :: (joinT (jLs list) ++ [93]) else 123 :: (joinT (jMs keys vals) ++ [125])
def jLs : List V → List (List UInt8)
 | [] => []
 | v :: r => jL v :: jLs r
def jMs : List ByteArray → List V → List (List UInt8)
 | k :: ks, v :: vs => (qL k.data.toList ++ 58 :: jL v) :: jMs ks vs
 | _, _ => []
end
theorem jLs_len : ∀ l : List V, (jLs l).length = l.length
 | [] => rfl
 | v :: r => by simp [jLs, jLs_len r]
theorem jLs_get : ∀ {l : List V} {i : Nat} (h : i < l.length), (jLs l)[i]'(by rw [jLs_len]; exact h) = jL l[i]
 | v :: r, 0, h => by simp [jLs]
 | v :: r, i + 1, h => by
  have := jLs_get (l := r) (i := i) (by simpa using h)
  simpa [jLs] using this
theorem jMs_len : ∀ (ks : List ByteArray) (vs : List V), ks.length = vs.length → (jMs ks vs).length = ks.length
 | [], [], _ => rfl
 | k :: ks, v :: vs, h => by simp [jMs, jMs_len ks vs (by simpa using h)]
 | [], _ :: _, h => by cases h
 | _ :: _, [], h => by cases h
theorem jMs_get : ∀ {ks : List ByteArray} {vs : List V} {i : Nat} (h : i < ks.length) (h2 : i < vs.length) (h3 : i < (jMs ks vs).length), (jMs ks vs)[i] = qL ks[i].data.toList ++ 58 :: jL vs[i]
 | k :: ks, v :: vs, 0, h, h2, h3 => by simp [jMs]
 | k :: ks, v :: vs, i + 1, h, h2, h3 => by
  have := jMs_get (ks := ks) (vs := vs) (i := i) (by simpa using h) (by simpa using h2) (by simpa [jMs] using h3)
  simpa [jMs] using this
 | [], _, _, h, _, _ => by cases h
 | _, [], _, _, h, _ => by cases h
/-- A text that is told, or of which nothing is said. -/
def Said (b : ByteArray) (how : Int) (l : List UInt8) : Prop := (how = 0 ∧ b.data.toList = l) ∨ how = 2
end Go.Proofs.YtmbleojlnaofjaaGreatDoor

