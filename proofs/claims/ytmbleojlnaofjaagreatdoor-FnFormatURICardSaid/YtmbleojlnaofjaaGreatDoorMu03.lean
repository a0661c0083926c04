/- Own texts, merged: FitV, Fits, Js1, Js2, JT. -/
import Derived.Test.YtmbleojlnaofjaaGreatDoorMu02
import Derived.Test.YtmbleojlnaofjaaGreatDoorMu01
/- The walk of (*looker).value: what Fit asks of a value. -/
namespace Go.Proofs.YtmbleojlnaofjaaGreatDoor
open Go Go.RowKit D
set_option linter.unusedVariables false
set_option linter.unusedSimpArgs false


/-- What the first test asks of a node; what the second asks of its number. -/
def n1 (kind half : Int) (text : ByteArray) (ll kl vl : Nat) : Bool := decide (0 ≤ kind) && decide (kind ≤ 6) && (decide (kind = 3) || decide (half = 0)) && (decide (kind = 4) || decide (text = ⟨#[]⟩)) && (decide (kind = 5) || decide ((ll : Int) = 0)) && (decide (kind = 6) || decide ((kl : Int) = 0)) && decide ((kl : Int) = (vl : Int))
def n2 (half : Int) : Bool := decide (-18014398509481984 ≤ half) && decide (half ≤ 18014398509481984) && (decide (half.tmod 2 = 0) || (decide (-9007199254740992 < half) && decide (half < 9007199254740992)))
theorem n1_spec {kind half : Int} {text : ByteArray} {ll kl vl : Nat} (h : n1 kind half text ll kl vl = true) :
  (0 ≤ kind ∧ kind ≤ 6) ∧ (kind = 3 ∨ half = 0) ∧ (kind = 4 ∨ text = ⟨#[]⟩) ∧ (kind = 5 ∨ ll = 0) ∧ (kind = 6 ∨ kl = 0) ∧ kl = vl := by
 simp only [n1, Bool.and_eq_true, Bool.or_eq_true, decide_eq_true_eq] at h
 obtain ⟨⟨⟨⟨⟨⟨h1, h2⟩, h3⟩, h4⟩, h5⟩, h6⟩, h7⟩ := h
 exact ⟨⟨h1, h2⟩, h3, h4, by omega, by omega, by omega⟩
theorem n2_spec {half : Int} (h : n2 half = true) : (-18014398509481984 ≤ half ∧ half ≤ 18014398509481984) ∧ (half.tmod 2 = 0 ∨ (-9007199254740992 < half ∧ half < 9007199254740992)) := by
 simp only [n2, Bool.and_eq_true, Bool.or_eq_true, decide_eq_true_eq] at h
 exact h
/-- The contract of (*looker).value at values of at most m nodes. -/
def ValueC (m : Nat) : Prop := ∀ (v : V) (cs : Array Value) (b B : Nat) (p n d : Int) (bad : Bool) (w : World), v.nodes ≤ m → RV w B v cs → B ≤ b → 2 ≤ B → Tabs w →
 w.heap[b]? = some (.cells (lk p n bad) 67 (0, 0)) → (bad = false → 0 ≤ p ∧ p ≤ 400 ∧ 0 ≤ n ∧ n ≤ 2000) → 0 ≤ d → d ≤ 1000 →
 Calls Tryz.prog 45 #[.pointer (some ⟨b, 0, none⟩), .agg cs, .int .i64 d] w (Ret w [b] fun _ w' => ∃ p' n' bad', w'.heap[b]? = some (.cells (lk p' n' bad') 67 (0, 0)) ∧
  (bad' = false → bad = false ∧ Good v ∧ p' = p + v.nodes ∧ n' = n + v.bytes ∧ p' ≤ 400 ∧ n' ≤ 2000))

set_option maxHeartbeats 1000000 in
theorem value_step (m : Nat) (ih : ValueC m) : ValueC (m + 1) := by
 intro v cs b B p n d bad w hm hR hB h2 hT hb hx hd0 hd1
 obtain ⟨kind, half, text, list, keys, vals⟩ := v
 obtain ⟨la, lc, ka, kc, va, vc, rfl⟩ := hR.shape
 obtain ⟨bt, bl, bk, bv, bkind, bhalf⟩ := hR.bounds
 have hbl := lt_of_blk hb
 refine calls_of Tryz.func45 rfl rfl rfl rfl ?_
 have FR := Fr.refl [b] w
 refine DC.seq ?_
 refine DC.region ?_
 refine DL.boxA rfl rfl rfl ?_
 intro b4 w1 f2 lo4 hi4 hb4
 replace lo4 := Nat.le_trans FR.size lo4
 replace FR := FR.tr0 f2
 replace hb := f2.blk0 hb
 replace hR := hR.fr f2 (by intro x hx; simp <;> omega)
 replace hT := hT.fr f2 (by intro x hx; simp <;> omega)
 refine DL.nil ?_
 show DC _ _ _ _ _ _
 refine DC.seq ?_
 refine DC.seq ?_
 refine DC.region ?_
 refine DL.y rfl rfl (Y.move) ?_
 refine DL.y rfl rfl (Y.move) ?_
 refine DL.call rfl rfl F.nm86 rfl (part_any b _ _ _ _ _ hb hx) ?_
 rintro _ w3 f4 ⟨r1, p1, rfl, hb, hr1⟩
 replace FR := FR.put f4 (by intro i hi; simp only [List.mem_cons, List.mem_singleton, List.not_mem_nil, or_false] at hi; rcases hi with rfl; all_goals (first | (left; simp; done) | (right; omega)))
 replace hR := hR.fr f4 (by intro x hx; simp <;> omega)
 replace hT := hT.fr f4 (by intro x hx; simp <;> omega)
 replace hb4 := f4.blk hb4 (by simp only [List.mem_cons, List.not_mem_nil, or_false, not_or]; omega)
 replace hi4 := Nat.lt_of_lt_of_le hi4 f4.size
 refine DL.y rfl rfl (Y.not rfl) ?_
 refine DL.nil ?_
 show DC _ _ _ _ _ _
 refine DC.cond rfl (fun c11 => ?_) (fun c11 => ?_)
 ·have hr : r1 = false := by simpa using c11
  subst hr
  refine DC.ret ?_
  exact FinQ.ret0 (Ret.mk FR ⟨p1, n, true, hb, fun h => by cases h⟩)
 ·have hr : r1 = true := by simpa using c11
  subst hr
  have hd60 : d ≤ 60 := (hr1 rfl).2.2.2.2
  obtain ⟨g1, hg1⟩ : ∃ g, g = n1 kind half text list.length keys.length vals.length := ⟨_, rfl⟩
  obtain ⟨g2, hg2⟩ : ∃ g, g = n2 half := ⟨_, rfl⟩
  refine DC.skip ?_
  show DC _ _ _ _ _ _
  refine DC.seq ?_
  refine DC.region ?_
  refine DL.y rfl rfl (Y.move) ?_
  refine DL.cut 59 [(13, 71)] 71 (.bool g1) (fun w' => w' = w3) rfl ?_ ?_
  ·refine DL.y rfl rfl (Y.field F.fd26_0 rfl) ?_
   refine DL.y rfl rfl (Y.loadB F.sc22 rfl hb4 rfl) ?_
   refine DL.if rfl rfl (Y.ge rfl rfl) (fun c15 => ?_) (fun c15 => ?_)
   ·refine DL.y rfl rfl (Y.move) ?_
    refine DL.y rfl rfl (Y.field F.fd26_0 rfl) ?_
    refine DL.y rfl rfl (Y.loadB F.sc22 rfl hb4 rfl) ?_
    refine DL.if rfl rfl (Y.le rfl rfl) (fun c19 => ?_) (fun c19 => ?_)
    ·refine DL.y rfl rfl (Y.pickT rfl) ?_
     refine DL.y rfl rfl (Y.move) ?_
     refine DL.y rfl rfl (Y.field F.fd26_0 rfl) ?_
     refine DL.y rfl rfl (Y.loadB F.sc22 rfl hb4 rfl) ?_
     refine DL.if rfl rfl (Y.eq rfl rfl) (fun c24 => ?_) (fun c24 => ?_)
     ·refine DL.y rfl rfl (Y.move) ?_
      refine DL.skip rfl rfl ?_
      refine DL.skip rfl rfl ?_
      refine DL.skip rfl rfl ?_
      refine DL.y rfl rfl (Y.pickT rfl) ?_
      refine DL.y rfl rfl (Y.pickT rfl) ?_
      refine DL.y rfl rfl (Y.move) ?_
      refine DL.y rfl rfl (Y.field F.fd26_0 rfl) ?_
      refine DL.y rfl rfl (Y.loadB F.sc22 rfl hb4 rfl) ?_
      refine DL.if rfl rfl (Y.eq rfl rfl) (fun c34 => ?_) (fun c34 => ?_)
      ·refine DL.y rfl rfl (Y.move) ?_
       refine DL.skip rfl rfl ?_
       refine DL.skip rfl rfl ?_
       refine DL.skip rfl rfl ?_
       refine DL.y rfl rfl (Y.pickT rfl) ?_
       refine DL.y rfl rfl (Y.pickT rfl) ?_
       refine DL.y rfl rfl (Y.move) ?_
       refine DL.y rfl rfl (Y.field F.fd26_0 rfl) ?_
       refine DL.y rfl rfl (Y.loadB F.sc22 rfl hb4 rfl) ?_
       refine DL.if rfl rfl (Y.eq rfl rfl) (fun c44 => ?_) (fun c44 => ?_)
       ·refine DL.y rfl rfl (Y.move) ?_
        refine DL.skip rfl rfl ?_
        refine DL.skip rfl rfl ?_
        refine DL.skip rfl rfl ?_
        refine DL.skip rfl rfl ?_
        refine DL.y rfl rfl (Y.pickT rfl) ?_
        refine DL.y rfl rfl (Y.pickT rfl) ?_
        refine DL.y rfl rfl (Y.move) ?_
        refine DL.y rfl rfl (Y.field F.fd26_0 rfl) ?_
        refine DL.y rfl rfl (Y.loadB F.sc22 rfl hb4 rfl) ?_
        refine DL.if rfl rfl (Y.eq rfl rfl) (fun c55 => ?_) (fun c55 => ?_)
        ·refine DL.y rfl rfl (Y.move) ?_
         refine DL.skip rfl rfl ?_
         refine DL.skip rfl rfl ?_
         refine DL.skip rfl rfl ?_
         refine DL.skip rfl rfl ?_
         refine DL.y rfl rfl (Y.pickT rfl) ?_
         refine DL.y rfl rfl (Y.pickT rfl) ?_
         refine DL.y rfl rfl (Y.move) ?_
         refine DL.y rfl rfl (Y.field F.fd26_4 rfl) ?_
         refine DL.y rfl rfl (Y.loadB F.sc24 rfl hb4 rfl) ?_
         refine DL.y rfl rfl (Y.lenS Tryz.underlying24 rfl) ?_
         refine DL.y rfl rfl (Y.field F.fd26_5 rfl) ?_
         refine DL.y rfl rfl (Y.loadB F.sc23 rfl hb4 rfl) ?_
         refine DL.y rfl rfl (Y.lenS Tryz.underlying23 rfl) ?_
         refine DL.if rfl rfl (Y.eq rfl rfl) (fun c70 => ?_) (fun c70 => ?_)
         ·refine DL.y rfl rfl (Y.pickT rfl) ?_
          exact DL.nil ⟨by (show Value.bool _ = Value.bool _; rw [hg1]; simp only [n1, decide_eq_true c15, decide_eq_true c19, decide_eq_true c24, decide_eq_true c34, decide_eq_true c44, decide_eq_true c55, decide_eq_true c70]; first | done | rfl), rfl⟩
         ·refine DL.y rfl rfl (Y.pickT rfl) ?_
          exact DL.nil ⟨by (show Value.bool _ = Value.bool _; rw [hg1]; simp only [n1, decide_eq_true c15, decide_eq_true c19, decide_eq_true c24, decide_eq_true c34, decide_eq_true c44, decide_eq_true c55, decide_eq_false c70]; first | done | rfl), rfl⟩
        ·refine DL.y rfl rfl (Y.move) ?_
         refine DL.y rfl rfl (Y.field F.fd26_4 rfl) ?_
         refine DL.y rfl rfl (Y.loadB F.sc24 rfl hb4 rfl) ?_
         refine DL.y rfl rfl (Y.lenS Tryz.underlying24 rfl) ?_
         refine DL.if rfl rfl (Y.eq rfl rfl) (fun c60 => ?_) (fun c60 => ?_)
         ·refine DL.y rfl rfl (Y.pickF rfl) ?_
          refine DL.y rfl rfl (Y.pickT rfl) ?_
          refine DL.y rfl rfl (Y.move) ?_
          refine DL.y rfl rfl (Y.field F.fd26_4 rfl) ?_
          refine DL.y rfl rfl (Y.loadB F.sc24 rfl hb4 rfl) ?_
          refine DL.y rfl rfl (Y.lenS Tryz.underlying24 rfl) ?_
          refine DL.y rfl rfl (Y.field F.fd26_5 rfl) ?_
          refine DL.y rfl rfl (Y.loadB F.sc23 rfl hb4 rfl) ?_
          refine DL.y rfl rfl (Y.lenS Tryz.underlying23 rfl) ?_
          refine DL.if rfl rfl (Y.eq rfl rfl) (fun c70 => ?_) (fun c70 => ?_)
          ·refine DL.y rfl rfl (Y.pickT rfl) ?_
           exact DL.nil ⟨by (show Value.bool _ = Value.bool _; rw [hg1]; simp only [n1, decide_eq_true c15, decide_eq_true c19, decide_eq_true c24, decide_eq_true c34, decide_eq_true c44, decide_eq_false c55, decide_eq_true c60, decide_eq_true c70]; first | done | rfl), rfl⟩
          ·refine DL.y rfl rfl (Y.pickT rfl) ?_
           exact DL.nil ⟨by (show Value.bool _ = Value.bool _; rw [hg1]; simp only [n1, decide_eq_true c15, decide_eq_true c19, decide_eq_true c24, decide_eq_true c34, decide_eq_true c44, decide_eq_false c55, decide_eq_true c60, decide_eq_false c70]; first | done | rfl), rfl⟩
         ·refine DL.y rfl rfl (Y.pickF rfl) ?_
          refine DL.y rfl rfl (Y.pickT rfl) ?_
          refine DL.y rfl rfl (Y.move) ?_
          refine DL.skip rfl rfl ?_
          refine DL.skip rfl rfl ?_
          refine DL.skip rfl rfl ?_
          refine DL.skip rfl rfl ?_
          refine DL.skip rfl rfl ?_
          refine DL.skip rfl rfl ?_
          refine DL.skip rfl rfl ?_
          refine DL.y rfl rfl (Y.pickF rfl) ?_
          exact DL.nil ⟨by (show Value.bool _ = Value.bool _; rw [hg1]; simp only [n1, decide_eq_true c15, decide_eq_true c19, decide_eq_true c24, decide_eq_true c34, decide_eq_true c44, decide_eq_false c55, decide_eq_false c60]; first | done | rfl), rfl⟩
       ·refine DL.y rfl rfl (Y.move) ?_
        refine DL.y rfl rfl (Y.field F.fd26_3 rfl) ?_
        refine DL.y rfl rfl (Y.loadB F.sc23 rfl hb4 rfl) ?_
        refine DL.y rfl rfl (Y.lenS Tryz.underlying23 rfl) ?_
        refine DL.if rfl rfl (Y.eq rfl rfl) (fun c49 => ?_) (fun c49 => ?_)
        ·refine DL.y rfl rfl (Y.pickF rfl) ?_
         refine DL.y rfl rfl (Y.pickT rfl) ?_
         refine DL.y rfl rfl (Y.move) ?_
         refine DL.y rfl rfl (Y.field F.fd26_0 rfl) ?_
         refine DL.y rfl rfl (Y.loadB F.sc22 rfl hb4 rfl) ?_
         refine DL.if rfl rfl (Y.eq rfl rfl) (fun c55 => ?_) (fun c55 => ?_)
         ·refine DL.y rfl rfl (Y.move) ?_
          refine DL.skip rfl rfl ?_
          refine DL.skip rfl rfl ?_
          refine DL.skip rfl rfl ?_
          refine DL.skip rfl rfl ?_
          refine DL.y rfl rfl (Y.pickT rfl) ?_
          refine DL.y rfl rfl (Y.pickT rfl) ?_
          refine DL.y rfl rfl (Y.move) ?_
          refine DL.y rfl rfl (Y.field F.fd26_4 rfl) ?_
          refine DL.y rfl rfl (Y.loadB F.sc24 rfl hb4 rfl) ?_
          refine DL.y rfl rfl (Y.lenS Tryz.underlying24 rfl) ?_
          refine DL.y rfl rfl (Y.field F.fd26_5 rfl) ?_
          refine DL.y rfl rfl (Y.loadB F.sc23 rfl hb4 rfl) ?_
          refine DL.y rfl rfl (Y.lenS Tryz.underlying23 rfl) ?_
          refine DL.if rfl rfl (Y.eq rfl rfl) (fun c70 => ?_) (fun c70 => ?_)
          ·refine DL.y rfl rfl (Y.pickT rfl) ?_
           exact DL.nil ⟨by (show Value.bool _ = Value.bool _; rw [hg1]; simp only [n1, decide_eq_true c15, decide_eq_true c19, decide_eq_true c24, decide_eq_true c34, decide_eq_false c44, decide_eq_true c49, decide_eq_true c55, decide_eq_true c70]; first | done | rfl), rfl⟩
          ·refine DL.y rfl rfl (Y.pickT rfl) ?_
           exact DL.nil ⟨by (show Value.bool _ = Value.bool _; rw [hg1]; simp only [n1, decide_eq_true c15, decide_eq_true c19, decide_eq_true c24, decide_eq_true c34, decide_eq_false c44, decide_eq_true c49, decide_eq_true c55, decide_eq_false c70]; first | done | rfl), rfl⟩
         ·refine DL.y rfl rfl (Y.move) ?_
          refine DL.y rfl rfl (Y.field F.fd26_4 rfl) ?_
          refine DL.y rfl rfl (Y.loadB F.sc24 rfl hb4 rfl) ?_
          refine DL.y rfl rfl (Y.lenS Tryz.underlying24 rfl) ?_
          refine DL.if rfl rfl (Y.eq rfl rfl) (fun c60 => ?_) (fun c60 => ?_)
          ·refine DL.y rfl rfl (Y.pickF rfl) ?_
           refine DL.y rfl rfl (Y.pickT rfl) ?_
           refine DL.y rfl rfl (Y.move) ?_
           refine DL.y rfl rfl (Y.field F.fd26_4 rfl) ?_
           refine DL.y rfl rfl (Y.loadB F.sc24 rfl hb4 rfl) ?_
           refine DL.y rfl rfl (Y.lenS Tryz.underlying24 rfl) ?_
           refine DL.y rfl rfl (Y.field F.fd26_5 rfl) ?_
           refine DL.y rfl rfl (Y.loadB F.sc23 rfl hb4 rfl) ?_
           refine DL.y rfl rfl (Y.lenS Tryz.underlying23 rfl) ?_
           refine DL.if rfl rfl (Y.eq rfl rfl) (fun c70 => ?_) (fun c70 => ?_)
           ·refine DL.y rfl rfl (Y.pickT rfl) ?_
            exact DL.nil ⟨by (show Value.bool _ = Value.bool _; rw [hg1]; simp only [n1, decide_eq_true c15, decide_eq_true c19, decide_eq_true c24, decide_eq_true c34, decide_eq_false c44, decide_eq_true c49, decide_eq_false c55, decide_eq_true c60, decide_eq_true c70]; first | done | rfl), rfl⟩
           ·refine DL.y rfl rfl (Y.pickT rfl) ?_
            exact DL.nil ⟨by (show Value.bool _ = Value.bool _; rw [hg1]; simp only [n1, decide_eq_true c15, decide_eq_true c19, decide_eq_true c24, decide_eq_true c34, decide_eq_false c44, decide_eq_true c49, decide_eq_false c55, decide_eq_true c60, decide_eq_false c70]; first | done | rfl), rfl⟩
          ·refine DL.y rfl rfl (Y.pickF rfl) ?_
           refine DL.y rfl rfl (Y.pickT rfl) ?_
           refine DL.y rfl rfl (Y.move) ?_
           refine DL.skip rfl rfl ?_
           refine DL.skip rfl rfl ?_
           refine DL.skip rfl rfl ?_
           refine DL.skip rfl rfl ?_
           refine DL.skip rfl rfl ?_
           refine DL.skip rfl rfl ?_
           refine DL.skip rfl rfl ?_
           refine DL.y rfl rfl (Y.pickF rfl) ?_
           exact DL.nil ⟨by (show Value.bool _ = Value.bool _; rw [hg1]; simp only [n1, decide_eq_true c15, decide_eq_true c19, decide_eq_true c24, decide_eq_true c34, decide_eq_false c44, decide_eq_true c49, decide_eq_false c55, decide_eq_false c60]; first | done | rfl), rfl⟩
        ·refine DL.y rfl rfl (Y.pickF rfl) ?_
         refine DL.y rfl rfl (Y.pickT rfl) ?_
         refine DL.y rfl rfl (Y.move) ?_
         refine DL.skip rfl rfl ?_
         refine DL.skip rfl rfl ?_
         refine DL.skip rfl rfl ?_
         refine DL.skip rfl rfl ?_
         refine DL.skip rfl rfl ?_
         refine DL.skip rfl rfl ?_
         refine DL.skip rfl rfl ?_
         refine DL.skip rfl rfl ?_
         refine DL.skip rfl rfl ?_
         refine DL.y rfl rfl (Y.pickF rfl) ?_
         refine DL.y rfl rfl (Y.move) ?_
         refine DL.skip rfl rfl ?_
         refine DL.skip rfl rfl ?_
         refine DL.skip rfl rfl ?_
         refine DL.skip rfl rfl ?_
         refine DL.skip rfl rfl ?_
         refine DL.skip rfl rfl ?_
         refine DL.skip rfl rfl ?_
         refine DL.y rfl rfl (Y.pickF rfl) ?_
         exact DL.nil ⟨by (show Value.bool _ = Value.bool _; rw [hg1]; simp only [n1, decide_eq_true c15, decide_eq_true c19, decide_eq_true c24, decide_eq_true c34, decide_eq_false c44, decide_eq_false c49]; first | done | rfl), rfl⟩
      ·refine DL.y rfl rfl (Y.move) ?_
       refine DL.y rfl rfl (Y.field F.fd26_2 rfl) ?_
       refine DL.y rfl rfl (Y.loadB F.sc9 rfl hb4 rfl) ?_
       refine DL.if rfl rfl (Y.seq rfl rfl) (fun c38 => ?_) (fun c38 => ?_)
       ·refine DL.y rfl rfl (Y.pickF rfl) ?_
        refine DL.y rfl rfl (Y.pickT rfl) ?_
        refine DL.y rfl rfl (Y.move) ?_
        refine DL.y rfl rfl (Y.field F.fd26_0 rfl) ?_
        refine DL.y rfl rfl (Y.loadB F.sc22 rfl hb4 rfl) ?_
        refine DL.if rfl rfl (Y.eq rfl rfl) (fun c44 => ?_) (fun c44 => ?_)
        ·refine DL.y rfl rfl (Y.move) ?_
         refine DL.skip rfl rfl ?_
         refine DL.skip rfl rfl ?_
         refine DL.skip rfl rfl ?_
         refine DL.skip rfl rfl ?_
         refine DL.y rfl rfl (Y.pickT rfl) ?_
         refine DL.y rfl rfl (Y.pickT rfl) ?_
         refine DL.y rfl rfl (Y.move) ?_
         refine DL.y rfl rfl (Y.field F.fd26_0 rfl) ?_
         refine DL.y rfl rfl (Y.loadB F.sc22 rfl hb4 rfl) ?_
         refine DL.if rfl rfl (Y.eq rfl rfl) (fun c55 => ?_) (fun c55 => ?_)
         ·refine DL.y rfl rfl (Y.move) ?_
          refine DL.skip rfl rfl ?_
          refine DL.skip rfl rfl ?_
          refine DL.skip rfl rfl ?_
          refine DL.skip rfl rfl ?_
          refine DL.y rfl rfl (Y.pickT rfl) ?_
          refine DL.y rfl rfl (Y.pickT rfl) ?_
          refine DL.y rfl rfl (Y.move) ?_
          refine DL.y rfl rfl (Y.field F.fd26_4 rfl) ?_
          refine DL.y rfl rfl (Y.loadB F.sc24 rfl hb4 rfl) ?_
          refine DL.y rfl rfl (Y.lenS Tryz.underlying24 rfl) ?_
          refine DL.y rfl rfl (Y.field F.fd26_5 rfl) ?_
          refine DL.y rfl rfl (Y.loadB F.sc23 rfl hb4 rfl) ?_
          refine DL.y rfl rfl (Y.lenS Tryz.underlying23 rfl) ?_
          refine DL.if rfl rfl (Y.eq rfl rfl) (fun c70 => ?_) (fun c70 => ?_)
          ·refine DL.y rfl rfl (Y.pickT rfl) ?_
           exact DL.nil ⟨by (show Value.bool _ = Value.bool _; rw [hg1]; simp only [n1, decide_eq_true c15, decide_eq_true c19, decide_eq_true c24, decide_eq_false c34, decide_eq_true c38, decide_eq_true c44, decide_eq_true c55, decide_eq_true c70]; first | done | rfl), rfl⟩
          ·refine DL.y rfl rfl (Y.pickT rfl) ?_
           exact DL.nil ⟨by (show Value.bool _ = Value.bool _; rw [hg1]; simp only [n1, decide_eq_true c15, decide_eq_true c19, decide_eq_true c24, decide_eq_false c34, decide_eq_true c38, decide_eq_true c44, decide_eq_true c55, decide_eq_false c70]; first | done | rfl), rfl⟩
         ·refine DL.y rfl rfl (Y.move) ?_
          refine DL.y rfl rfl (Y.field F.fd26_4 rfl) ?_
          refine DL.y rfl rfl (Y.loadB F.sc24 rfl hb4 rfl) ?_
          refine DL.y rfl rfl (Y.lenS Tryz.underlying24 rfl) ?_
          refine DL.if rfl rfl (Y.eq rfl rfl) (fun c60 => ?_) (fun c60 => ?_)
          ·refine DL.y rfl rfl (Y.pickF rfl) ?_
           refine DL.y rfl rfl (Y.pickT rfl) ?_
           refine DL.y rfl rfl (Y.move) ?_
           refine DL.y rfl rfl (Y.field F.fd26_4 rfl) ?_
           refine DL.y rfl rfl (Y.loadB F.sc24 rfl hb4 rfl) ?_
           refine DL.y rfl rfl (Y.lenS Tryz.underlying24 rfl) ?_
           refine DL.y rfl rfl (Y.field F.fd26_5 rfl) ?_
           refine DL.y rfl rfl (Y.loadB F.sc23 rfl hb4 rfl) ?_
           refine DL.y rfl rfl (Y.lenS Tryz.underlying23 rfl) ?_
           refine DL.if rfl rfl (Y.eq rfl rfl) (fun c70 => ?_) (fun c70 => ?_)
           ·refine DL.y rfl rfl (Y.pickT rfl) ?_
            exact DL.nil ⟨by (show Value.bool _ = Value.bool _; rw [hg1]; simp only [n1, decide_eq_true c15, decide_eq_true c19, decide_eq_true c24, decide_eq_false c34, decide_eq_true c38, decide_eq_true c44, decide_eq_false c55, decide_eq_true c60, decide_eq_true c70]; first | done | rfl), rfl⟩
           ·refine DL.y rfl rfl (Y.pickT rfl) ?_
            exact DL.nil ⟨by (show Value.bool _ = Value.bool _; rw [hg1]; simp only [n1, decide_eq_true c15, decide_eq_true c19, decide_eq_true c24, decide_eq_false c34, decide_eq_true c38, decide_eq_true c44, decide_eq_false c55, decide_eq_true c60, decide_eq_false c70]; first | done | rfl), rfl⟩
          ·refine DL.y rfl rfl (Y.pickF rfl) ?_
           refine DL.y rfl rfl (Y.pickT rfl) ?_
           refine DL.y rfl rfl (Y.move) ?_
           refine DL.skip rfl rfl ?_
           refine DL.skip rfl rfl ?_
           refine DL.skip rfl rfl ?_
           refine DL.skip rfl rfl ?_
           refine DL.skip rfl rfl ?_
           refine DL.skip rfl rfl ?_
           refine DL.skip rfl rfl ?_
           refine DL.y rfl rfl (Y.pickF rfl) ?_
           exact DL.nil ⟨by (show Value.bool _ = Value.bool _; rw [hg1]; simp only [n1, decide_eq_true c15, decide_eq_true c19, decide_eq_true c24, decide_eq_false c34, decide_eq_true c38, decide_eq_true c44, decide_eq_false c55, decide_eq_false c60]; first | done | rfl), rfl⟩
        ·refine DL.y rfl rfl (Y.move) ?_
         refine DL.y rfl rfl (Y.field F.fd26_3 rfl) ?_
         refine DL.y rfl rfl (Y.loadB F.sc23 rfl hb4 rfl) ?_
         refine DL.y rfl rfl (Y.lenS Tryz.underlying23 rfl) ?_
         refine DL.if rfl rfl (Y.eq rfl rfl) (fun c49 => ?_) (fun c49 => ?_)
         ·refine DL.y rfl rfl (Y.pickF rfl) ?_
          refine DL.y rfl rfl (Y.pickT rfl) ?_
          refine DL.y rfl rfl (Y.move) ?_
          refine DL.y rfl rfl (Y.field F.fd26_0 rfl) ?_
          refine DL.y rfl rfl (Y.loadB F.sc22 rfl hb4 rfl) ?_
          refine DL.if rfl rfl (Y.eq rfl rfl) (fun c55 => ?_) (fun c55 => ?_)
          ·refine DL.y rfl rfl (Y.move) ?_
           refine DL.skip rfl rfl ?_
           refine DL.skip rfl rfl ?_
           refine DL.skip rfl rfl ?_
           refine DL.skip rfl rfl ?_
           refine DL.y rfl rfl (Y.pickT rfl) ?_
           refine DL.y rfl rfl (Y.pickT rfl) ?_
           refine DL.y rfl rfl (Y.move) ?_
           refine DL.y rfl rfl (Y.field F.fd26_4 rfl) ?_
           refine DL.y rfl rfl (Y.loadB F.sc24 rfl hb4 rfl) ?_
           refine DL.y rfl rfl (Y.lenS Tryz.underlying24 rfl) ?_
           refine DL.y rfl rfl (Y.field F.fd26_5 rfl) ?_
           refine DL.y rfl rfl (Y.loadB F.sc23 rfl hb4 rfl) ?_
           refine DL.y rfl rfl (Y.lenS Tryz.underlying23 rfl) ?_
           refine DL.if rfl rfl (Y.eq rfl rfl) (fun c70 => ?_) (fun c70 => ?_)
           ·refine DL.y rfl rfl (Y.pickT rfl) ?_
            exact DL.nil ⟨by (show Value.bool _ = Value.bool _; rw [hg1]; simp only [n1, decide_eq_true c15, decide_eq_true c19, decide_eq_true c24, decide_eq_false c34, decide_eq_true c38, decide_eq_false c44, decide_eq_true c49, decide_eq_true c55, decide_eq_true c70]; first | done | rfl), rfl⟩
           ·refine DL.y rfl rfl (Y.pickT rfl) ?_
            exact DL.nil ⟨by (show Value.bool _ = Value.bool _; rw [hg1]; simp only [n1, decide_eq_true c15, decide_eq_true c19, decide_eq_true c24, decide_eq_false c34, decide_eq_true c38, decide_eq_false c44, decide_eq_true c49, decide_eq_true c55, decide_eq_false c70]; first | done | rfl), rfl⟩
          ·refine DL.y rfl rfl (Y.move) ?_
           refine DL.y rfl rfl (Y.field F.fd26_4 rfl) ?_
           refine DL.y rfl rfl (Y.loadB F.sc24 rfl hb4 rfl) ?_
           refine DL.y rfl rfl (Y.lenS Tryz.underlying24 rfl) ?_
           refine DL.if rfl rfl (Y.eq rfl rfl) (fun c60 => ?_) (fun c60 => ?_)
           ·refine DL.y rfl rfl (Y.pickF rfl) ?_
            refine DL.y rfl rfl (Y.pickT rfl) ?_
            refine DL.y rfl rfl (Y.move) ?_
            refine DL.y rfl rfl (Y.field F.fd26_4 rfl) ?_
            refine DL.y rfl rfl (Y.loadB F.sc24 rfl hb4 rfl) ?_
            refine DL.y rfl rfl (Y.lenS Tryz.underlying24 rfl) ?_
            refine DL.y rfl rfl (Y.field F.fd26_5 rfl) ?_
            refine DL.y rfl rfl (Y.loadB F.sc23 rfl hb4 rfl) ?_
            refine DL.y rfl rfl (Y.lenS Tryz.underlying23 rfl) ?_
            refine DL.if rfl rfl (Y.eq rfl rfl) (fun c70 => ?_) (fun c70 => ?_)
            ·refine DL.y rfl rfl (Y.pickT rfl) ?_
             exact DL.nil ⟨by (show Value.bool _ = Value.bool _; rw [hg1]; simp only [n1, decide_eq_true c15, decide_eq_true c19, decide_eq_true c24, decide_eq_false c34, decide_eq_true c38, decide_eq_false c44, decide_eq_true c49, decide_eq_false c55, decide_eq_true c60, decide_eq_true c70]; first | done | rfl), rfl⟩
            ·refine DL.y rfl rfl (Y.pickT rfl) ?_
             exact DL.nil ⟨by (show Value.bool _ = Value.bool _; rw [hg1]; simp only [n1, decide_eq_true c15, decide_eq_true c19, decide_eq_true c24, decide_eq_false c34, decide_eq_true c38, decide_eq_false c44, decide_eq_true c49, decide_eq_false c55, decide_eq_true c60, decide_eq_false c70]; first | done | rfl), rfl⟩
           ·refine DL.y rfl rfl (Y.pickF rfl) ?_
            refine DL.y rfl rfl (Y.pickT rfl) ?_
            refine DL.y rfl rfl (Y.move) ?_
            refine DL.skip rfl rfl ?_
            refine DL.skip rfl rfl ?_
            refine DL.skip rfl rfl ?_
            refine DL.skip rfl rfl ?_
            refine DL.skip rfl rfl ?_
            refine DL.skip rfl rfl ?_
            refine DL.skip rfl rfl ?_
            refine DL.y rfl rfl (Y.pickF rfl) ?_
            exact DL.nil ⟨by (show Value.bool _ = Value.bool _; rw [hg1]; simp only [n1, decide_eq_true c15, decide_eq_true c19, decide_eq_true c24, decide_eq_false c34, decide_eq_true c38, decide_eq_false c44, decide_eq_true c49, decide_eq_false c55, decide_eq_false c60]; first | done | rfl), rfl⟩
         ·refine DL.y rfl rfl (Y.pickF rfl) ?_
          refine DL.y rfl rfl (Y.pickT rfl) ?_
          refine DL.y rfl rfl (Y.move) ?_
          refine DL.skip rfl rfl ?_
          refine DL.skip rfl rfl ?_
          refine DL.skip rfl rfl ?_
          refine DL.skip rfl rfl ?_
          refine DL.skip rfl rfl ?_
          refine DL.skip rfl rfl ?_
          refine DL.skip rfl rfl ?_
          refine DL.skip rfl rfl ?_
          refine DL.skip rfl rfl ?_
          refine DL.y rfl rfl (Y.pickF rfl) ?_
          refine DL.y rfl rfl (Y.move) ?_
          refine DL.skip rfl rfl ?_
          refine DL.skip rfl rfl ?_
          refine DL.skip rfl rfl ?_
          refine DL.skip rfl rfl ?_
          refine DL.skip rfl rfl ?_
          refine DL.skip rfl rfl ?_
          refine DL.skip rfl rfl ?_
          refine DL.y rfl rfl (Y.pickF rfl) ?_
          exact DL.nil ⟨by (show Value.bool _ = Value.bool _; rw [hg1]; simp only [n1, decide_eq_true c15, decide_eq_true c19, decide_eq_true c24, decide_eq_false c34, decide_eq_true c38, decide_eq_false c44, decide_eq_false c49]; first | done | rfl), rfl⟩
       ·refine DL.y rfl rfl (Y.pickF rfl) ?_
        refine DL.y rfl rfl (Y.pickT rfl) ?_
        refine DL.y rfl rfl (Y.move) ?_
        refine DL.skip rfl rfl ?_
        refine DL.skip rfl rfl ?_
        refine DL.skip rfl rfl ?_
        refine DL.skip rfl rfl ?_
        refine DL.skip rfl rfl ?_
        refine DL.skip rfl rfl ?_
        refine DL.skip rfl rfl ?_
        refine DL.skip rfl rfl ?_
        refine DL.skip rfl rfl ?_
        refine DL.y rfl rfl (Y.pickF rfl) ?_
        refine DL.y rfl rfl (Y.move) ?_
        refine DL.skip rfl rfl ?_
        refine DL.skip rfl rfl ?_
        refine DL.skip rfl rfl ?_
        refine DL.skip rfl rfl ?_
        refine DL.skip rfl rfl ?_
        refine DL.skip rfl rfl ?_
        refine DL.skip rfl rfl ?_
        refine DL.skip rfl rfl ?_
        refine DL.skip rfl rfl ?_
        refine DL.y rfl rfl (Y.pickF rfl) ?_
        refine DL.y rfl rfl (Y.move) ?_
        refine DL.skip rfl rfl ?_
        refine DL.skip rfl rfl ?_
        refine DL.skip rfl rfl ?_
        refine DL.skip rfl rfl ?_
        refine DL.skip rfl rfl ?_
        refine DL.skip rfl rfl ?_
        refine DL.skip rfl rfl ?_
        refine DL.y rfl rfl (Y.pickF rfl) ?_
        exact DL.nil ⟨by (show Value.bool _ = Value.bool _; rw [hg1]; simp only [n1, decide_eq_true c15, decide_eq_true c19, decide_eq_true c24, decide_eq_false c34, decide_eq_false c38]; first | done | rfl), rfl⟩
     ·refine DL.y rfl rfl (Y.move) ?_
      refine DL.y rfl rfl (Y.field F.fd26_1 rfl) ?_
      refine DL.y rfl rfl (Y.loadB F.sc3 rfl hb4 rfl) ?_
      refine DL.if rfl rfl (Y.eq rfl rfl) (fun c28 => ?_) (fun c28 => ?_)
      ·refine DL.y rfl rfl (Y.pickF rfl) ?_
       refine DL.y rfl rfl (Y.pickT rfl) ?_
       refine DL.y rfl rfl (Y.move) ?_
       refine DL.y rfl rfl (Y.field F.fd26_0 rfl) ?_
       refine DL.y rfl rfl (Y.loadB F.sc22 rfl hb4 rfl) ?_
       refine DL.if rfl rfl (Y.eq rfl rfl) (fun c34 => ?_) (fun c34 => ?_)
       ·refine DL.y rfl rfl (Y.move) ?_
        refine DL.skip rfl rfl ?_
        refine DL.skip rfl rfl ?_
        refine DL.skip rfl rfl ?_
        refine DL.y rfl rfl (Y.pickT rfl) ?_
        refine DL.y rfl rfl (Y.pickT rfl) ?_
        refine DL.y rfl rfl (Y.move) ?_
        refine DL.y rfl rfl (Y.field F.fd26_0 rfl) ?_
        refine DL.y rfl rfl (Y.loadB F.sc22 rfl hb4 rfl) ?_
        refine DL.if rfl rfl (Y.eq rfl rfl) (fun c44 => ?_) (fun c44 => ?_)
        ·refine DL.y rfl rfl (Y.move) ?_
         refine DL.skip rfl rfl ?_
         refine DL.skip rfl rfl ?_
         refine DL.skip rfl rfl ?_
         refine DL.skip rfl rfl ?_
         refine DL.y rfl rfl (Y.pickT rfl) ?_
         refine DL.y rfl rfl (Y.pickT rfl) ?_
         refine DL.y rfl rfl (Y.move) ?_
         refine DL.y rfl rfl (Y.field F.fd26_0 rfl) ?_
         refine DL.y rfl rfl (Y.loadB F.sc22 rfl hb4 rfl) ?_
         refine DL.if rfl rfl (Y.eq rfl rfl) (fun c55 => ?_) (fun c55 => ?_)
         ·refine DL.y rfl rfl (Y.move) ?_
          refine DL.skip rfl rfl ?_
          refine DL.skip rfl rfl ?_
          refine DL.skip rfl rfl ?_
          refine DL.skip rfl rfl ?_
          refine DL.y rfl rfl (Y.pickT rfl) ?_
          refine DL.y rfl rfl (Y.pickT rfl) ?_
          refine DL.y rfl rfl (Y.move) ?_
          refine DL.y rfl rfl (Y.field F.fd26_4 rfl) ?_
          refine DL.y rfl rfl (Y.loadB F.sc24 rfl hb4 rfl) ?_
          refine DL.y rfl rfl (Y.lenS Tryz.underlying24 rfl) ?_
          refine DL.y rfl rfl (Y.field F.fd26_5 rfl) ?_
          refine DL.y rfl rfl (Y.loadB F.sc23 rfl hb4 rfl) ?_
          refine DL.y rfl rfl (Y.lenS Tryz.underlying23 rfl) ?_
          refine DL.if rfl rfl (Y.eq rfl rfl) (fun c70 => ?_) (fun c70 => ?_)
          ·refine DL.y rfl rfl (Y.pickT rfl) ?_
           exact DL.nil ⟨by (show Value.bool _ = Value.bool _; rw [hg1]; simp only [n1, decide_eq_true c15, decide_eq_true c19, decide_eq_false c24, decide_eq_true c28, decide_eq_true c34, decide_eq_true c44, decide_eq_true c55, decide_eq_true c70]; first | done | rfl), rfl⟩
          ·refine DL.y rfl rfl (Y.pickT rfl) ?_
           exact DL.nil ⟨by (show Value.bool _ = Value.bool _; rw [hg1]; simp only [n1, decide_eq_true c15, decide_eq_true c19, decide_eq_false c24, decide_eq_true c28, decide_eq_true c34, decide_eq_true c44, decide_eq_true c55, decide_eq_false c70]; first | done | rfl), rfl⟩
         ·refine DL.y rfl rfl (Y.move) ?_
          refine DL.y rfl rfl (Y.field F.fd26_4 rfl) ?_
          refine DL.y rfl rfl (Y.loadB F.sc24 rfl hb4 rfl) ?_
          refine DL.y rfl rfl (Y.lenS Tryz.underlying24 rfl) ?_
          refine DL.if rfl rfl (Y.eq rfl rfl) (fun c60 => ?_) (fun c60 => ?_)
          ·refine DL.y rfl rfl (Y.pickF rfl) ?_
           refine DL.y rfl rfl (Y.pickT rfl) ?_
           refine DL.y rfl rfl (Y.move) ?_
           refine DL.y rfl rfl (Y.field F.fd26_4 rfl) ?_
           refine DL.y rfl rfl (Y.loadB F.sc24 rfl hb4 rfl) ?_
           refine DL.y rfl rfl (Y.lenS Tryz.underlying24 rfl) ?_
           refine DL.y rfl rfl (Y.field F.fd26_5 rfl) ?_
           refine DL.y rfl rfl (Y.loadB F.sc23 rfl hb4 rfl) ?_
           refine DL.y rfl rfl (Y.lenS Tryz.underlying23 rfl) ?_
           refine DL.if rfl rfl (Y.eq rfl rfl) (fun c70 => ?_) (fun c70 => ?_)
           ·refine DL.y rfl rfl (Y.pickT rfl) ?_
            exact DL.nil ⟨by (show Value.bool _ = Value.bool _; rw [hg1]; simp only [n1, decide_eq_true c15, decide_eq_true c19, decide_eq_false c24, decide_eq_true c28, decide_eq_true c34, decide_eq_true c44, decide_eq_false c55, decide_eq_true c60, decide_eq_true c70]; first | done | rfl), rfl⟩
           ·refine DL.y rfl rfl (Y.pickT rfl) ?_
            exact DL.nil ⟨by (show Value.bool _ = Value.bool _; rw [hg1]; simp only [n1, decide_eq_true c15, decide_eq_true c19, decide_eq_false c24, decide_eq_true c28, decide_eq_true c34, decide_eq_true c44, decide_eq_false c55, decide_eq_true c60, decide_eq_false c70]; first | done | rfl), rfl⟩
          ·refine DL.y rfl rfl (Y.pickF rfl) ?_
           refine DL.y rfl rfl (Y.pickT rfl) ?_
           refine DL.y rfl rfl (Y.move) ?_
           refine DL.skip rfl rfl ?_
           refine DL.skip rfl rfl ?_
           refine DL.skip rfl rfl ?_
           refine DL.skip rfl rfl ?_
           refine DL.skip rfl rfl ?_
           refine DL.skip rfl rfl ?_
           refine DL.skip rfl rfl ?_
           refine DL.y rfl rfl (Y.pickF rfl) ?_
           exact DL.nil ⟨by (show Value.bool _ = Value.bool _; rw [hg1]; simp only [n1, decide_eq_true c15, decide_eq_true c19, decide_eq_false c24, decide_eq_true c28, decide_eq_true c34, decide_eq_true c44, decide_eq_false c55, decide_eq_false c60]; first | done | rfl), rfl⟩
        ·refine DL.y rfl rfl (Y.move) ?_
         refine DL.y rfl rfl (Y.field F.fd26_3 rfl) ?_
         refine DL.y rfl rfl (Y.loadB F.sc23 rfl hb4 rfl) ?_
         refine DL.y rfl rfl (Y.lenS Tryz.underlying23 rfl) ?_
         refine DL.if rfl rfl (Y.eq rfl rfl) (fun c49 => ?_) (fun c49 => ?_)
         ·refine DL.y rfl rfl (Y.pickF rfl) ?_
          refine DL.y rfl rfl (Y.pickT rfl) ?_
          refine DL.y rfl rfl (Y.move) ?_
          refine DL.y rfl rfl (Y.field F.fd26_0 rfl) ?_
          refine DL.y rfl rfl (Y.loadB F.sc22 rfl hb4 rfl) ?_
          refine DL.if rfl rfl (Y.eq rfl rfl) (fun c55 => ?_) (fun c55 => ?_)
          ·refine DL.y rfl rfl (Y.move) ?_
           refine DL.skip rfl rfl ?_
           refine DL.skip rfl rfl ?_
           refine DL.skip rfl rfl ?_
           refine DL.skip rfl rfl ?_
           refine DL.y rfl rfl (Y.pickT rfl) ?_
           refine DL.y rfl rfl (Y.pickT rfl) ?_
           refine DL.y rfl rfl (Y.move) ?_
           refine DL.y rfl rfl (Y.field F.fd26_4 rfl) ?_
           refine DL.y rfl rfl (Y.loadB F.sc24 rfl hb4 rfl) ?_
           refine DL.y rfl rfl (Y.lenS Tryz.underlying24 rfl) ?_
           refine DL.y rfl rfl (Y.field F.fd26_5 rfl) ?_
           refine DL.y rfl rfl (Y.loadB F.sc23 rfl hb4 rfl) ?_
           refine DL.y rfl rfl (Y.lenS Tryz.underlying23 rfl) ?_
           refine DL.if rfl rfl (Y.eq rfl rfl) (fun c70 => ?_) (fun c70 => ?_)
           ·refine DL.y rfl rfl (Y.pickT rfl) ?_
            exact DL.nil ⟨by (show Value.bool _ = Value.bool _; rw [hg1]; simp only [n1, decide_eq_true c15, decide_eq_true c19, decide_eq_false c24, decide_eq_true c28, decide_eq_true c34, decide_eq_false c44, decide_eq_true c49, decide_eq_true c55, decide_eq_true c70]; first | done | rfl), rfl⟩
           ·refine DL.y rfl rfl (Y.pickT rfl) ?_
            exact DL.nil ⟨by (show Value.bool _ = Value.bool _; rw [hg1]; simp only [n1, decide_eq_true c15, decide_eq_true c19, decide_eq_false c24, decide_eq_true c28, decide_eq_true c34, decide_eq_false c44, decide_eq_true c49, decide_eq_true c55, decide_eq_false c70]; first | done | rfl), rfl⟩
          ·refine DL.y rfl rfl (Y.move) ?_
           refine DL.y rfl rfl (Y.field F.fd26_4 rfl) ?_
           refine DL.y rfl rfl (Y.loadB F.sc24 rfl hb4 rfl) ?_
           refine DL.y rfl rfl (Y.lenS Tryz.underlying24 rfl) ?_
           refine DL.if rfl rfl (Y.eq rfl rfl) (fun c60 => ?_) (fun c60 => ?_)
           ·refine DL.y rfl rfl (Y.pickF rfl) ?_
            refine DL.y rfl rfl (Y.pickT rfl) ?_
            refine DL.y rfl rfl (Y.move) ?_
            refine DL.y rfl rfl (Y.field F.fd26_4 rfl) ?_
            refine DL.y rfl rfl (Y.loadB F.sc24 rfl hb4 rfl) ?_
            refine DL.y rfl rfl (Y.lenS Tryz.underlying24 rfl) ?_
            refine DL.y rfl rfl (Y.field F.fd26_5 rfl) ?_
            refine DL.y rfl rfl (Y.loadB F.sc23 rfl hb4 rfl) ?_
            refine DL.y rfl rfl (Y.lenS Tryz.underlying23 rfl) ?_
            refine DL.if rfl rfl (Y.eq rfl rfl) (fun c70 => ?_) (fun c70 => ?_)
            ·refine DL.y rfl rfl (Y.pickT rfl) ?_
             exact DL.nil ⟨by (show Value.bool _ = Value.bool _; rw [hg1]; simp only [n1, decide_eq_true c15, decide_eq_true c19, decide_eq_false c24, decide_eq_true c28, decide_eq_true c34, decide_eq_false c44, decide_eq_true c49, decide_eq_false c55, decide_eq_true c60, decide_eq_true c70]; first | done | rfl), rfl⟩
            ·refine DL.y rfl rfl (Y.pickT rfl) ?_
             exact DL.nil ⟨by (show Value.bool _ = Value.bool _; rw [hg1]; simp only [n1, decide_eq_true c15, decide_eq_true c19, decide_eq_false c24, decide_eq_true c28, decide_eq_true c34, decide_eq_false c44, decide_eq_true c49, decide_eq_false c55, decide_eq_true c60, decide_eq_false c70]; first | done | rfl), rfl⟩
           ·refine DL.y rfl rfl (Y.pickF rfl) ?_
            refine DL.y rfl rfl (Y.pickT rfl) ?_
            refine DL.y rfl rfl (Y.move) ?_
            refine DL.skip rfl rfl ?_
            refine DL.skip rfl rfl ?_
            refine DL.skip rfl rfl ?_
            refine DL.skip rfl rfl ?_
            refine DL.skip rfl rfl ?_
            refine DL.skip rfl rfl ?_
            refine DL.skip rfl rfl ?_
            refine DL.y rfl rfl (Y.pickF rfl) ?_
            exact DL.nil ⟨by (show Value.bool _ = Value.bool _; rw [hg1]; simp only [n1, decide_eq_true c15, decide_eq_true c19, decide_eq_false c24, decide_eq_true c28, decide_eq_true c34, decide_eq_false c44, decide_eq_true c49, decide_eq_false c55, decide_eq_false c60]; first | done | rfl), rfl⟩
         ·refine DL.y rfl rfl (Y.pickF rfl) ?_
          refine DL.y rfl rfl (Y.pickT rfl) ?_
          refine DL.y rfl rfl (Y.move) ?_
          refine DL.skip rfl rfl ?_
          refine DL.skip rfl rfl ?_
          refine DL.skip rfl rfl ?_
          refine DL.skip rfl rfl ?_
          refine DL.skip rfl rfl ?_
          refine DL.skip rfl rfl ?_
          refine DL.skip rfl rfl ?_
          refine DL.skip rfl rfl ?_
          refine DL.skip rfl rfl ?_
          refine DL.y rfl rfl (Y.pickF rfl) ?_
          refine DL.y rfl rfl (Y.move) ?_
          refine DL.skip rfl rfl ?_
          refine DL.skip rfl rfl ?_
          refine DL.skip rfl rfl ?_
          refine DL.skip rfl rfl ?_
          refine DL.skip rfl rfl ?_
          refine DL.skip rfl rfl ?_
          refine DL.skip rfl rfl ?_
          refine DL.y rfl rfl (Y.pickF rfl) ?_
          exact DL.nil ⟨by (show Value.bool _ = Value.bool _; rw [hg1]; simp only [n1, decide_eq_true c15, decide_eq_true c19, decide_eq_false c24, decide_eq_true c28, decide_eq_true c34, decide_eq_false c44, decide_eq_false c49]; first | done | rfl), rfl⟩
       ·refine DL.y rfl rfl (Y.move) ?_
        refine DL.y rfl rfl (Y.field F.fd26_2 rfl) ?_
        refine DL.y rfl rfl (Y.loadB F.sc9 rfl hb4 rfl) ?_
        refine DL.if rfl rfl (Y.seq rfl rfl) (fun c38 => ?_) (fun c38 => ?_)
        ·refine DL.y rfl rfl (Y.pickF rfl) ?_
         refine DL.y rfl rfl (Y.pickT rfl) ?_
         refine DL.y rfl rfl (Y.move) ?_
         refine DL.y rfl rfl (Y.field F.fd26_0 rfl) ?_
         refine DL.y rfl rfl (Y.loadB F.sc22 rfl hb4 rfl) ?_
         refine DL.if rfl rfl (Y.eq rfl rfl) (fun c44 => ?_) (fun c44 => ?_)
         ·refine DL.y rfl rfl (Y.move) ?_
          refine DL.skip rfl rfl ?_
          refine DL.skip rfl rfl ?_
          refine DL.skip rfl rfl ?_
          refine DL.skip rfl rfl ?_
          refine DL.y rfl rfl (Y.pickT rfl) ?_
          refine DL.y rfl rfl (Y.pickT rfl) ?_
          refine DL.y rfl rfl (Y.move) ?_
          refine DL.y rfl rfl (Y.field F.fd26_0 rfl) ?_
          refine DL.y rfl rfl (Y.loadB F.sc22 rfl hb4 rfl) ?_
          refine DL.if rfl rfl (Y.eq rfl rfl) (fun c55 => ?_) (fun c55 => ?_)
          ·refine DL.y rfl rfl (Y.move) ?_
           refine DL.skip rfl rfl ?_
           refine DL.skip rfl rfl ?_
           refine DL.skip rfl rfl ?_
           refine DL.skip rfl rfl ?_
           refine DL.y rfl rfl (Y.pickT rfl) ?_
           refine DL.y rfl rfl (Y.pickT rfl) ?_
           refine DL.y rfl rfl (Y.move) ?_
           refine DL.y rfl rfl (Y.field F.fd26_4 rfl) ?_
           refine DL.y rfl rfl (Y.loadB F.sc24 rfl hb4 rfl) ?_
           refine DL.y rfl rfl (Y.lenS Tryz.underlying24 rfl) ?_
           refine DL.y rfl rfl (Y.field F.fd26_5 rfl) ?_
           refine DL.y rfl rfl (Y.loadB F.sc23 rfl hb4 rfl) ?_
           refine DL.y rfl rfl (Y.lenS Tryz.underlying23 rfl) ?_
           refine DL.if rfl rfl (Y.eq rfl rfl) (fun c70 => ?_) (fun c70 => ?_)
           ·refine DL.y rfl rfl (Y.pickT rfl) ?_
            exact DL.nil ⟨by (show Value.bool _ = Value.bool _; rw [hg1]; simp only [n1, decide_eq_true c15, decide_eq_true c19, decide_eq_false c24, decide_eq_true c28, decide_eq_false c34, decide_eq_true c38, decide_eq_true c44, decide_eq_true c55, decide_eq_true c70]; first | done | rfl), rfl⟩
           ·refine DL.y rfl rfl (Y.pickT rfl) ?_
            exact DL.nil ⟨by (show Value.bool _ = Value.bool _; rw [hg1]; simp only [n1, decide_eq_true c15, decide_eq_true c19, decide_eq_false c24, decide_eq_true c28, decide_eq_false c34, decide_eq_true c38, decide_eq_true c44, decide_eq_true c55, decide_eq_false c70]; first | done | rfl), rfl⟩
          ·refine DL.y rfl rfl (Y.move) ?_
           refine DL.y rfl rfl (Y.field F.fd26_4 rfl) ?_
           refine DL.y rfl rfl (Y.loadB F.sc24 rfl hb4 rfl) ?_
           refine DL.y rfl rfl (Y.lenS Tryz.underlying24 rfl) ?_
           refine DL.if rfl rfl (Y.eq rfl rfl) (fun c60 => ?_) (fun c60 => ?_)
           ·refine DL.y rfl rfl (Y.pickF rfl) ?_
            refine DL.y rfl rfl (Y.pickT rfl) ?_
            refine DL.y rfl rfl (Y.move) ?_
            refine DL.y rfl rfl (Y.field F.fd26_4 rfl) ?_
            refine DL.y rfl rfl (Y.loadB F.sc24 rfl hb4 rfl) ?_
            refine DL.y rfl rfl (Y.lenS Tryz.underlying24 rfl) ?_
            refine DL.y rfl rfl (Y.field F.fd26_5 rfl) ?_
            refine DL.y rfl rfl (Y.loadB F.sc23 rfl hb4 rfl) ?_
            refine DL.y rfl rfl (Y.lenS Tryz.underlying23 rfl) ?_
            refine DL.if rfl rfl (Y.eq rfl rfl) (fun c70 => ?_) (fun c70 => ?_)
            ·refine DL.y rfl rfl (Y.pickT rfl) ?_
             exact DL.nil ⟨by (show Value.bool _ = Value.bool _; rw [hg1]; simp only [n1, decide_eq_true c15, decide_eq_true c19, decide_eq_false c24, decide_eq_true c28, decide_eq_false c34, decide_eq_true c38, decide_eq_true c44, decide_eq_false c55, decide_eq_true c60, decide_eq_true c70]; first | done | rfl), rfl⟩
            ·refine DL.y rfl rfl (Y.pickT rfl) ?_
             exact DL.nil ⟨by (show Value.bool _ = Value.bool _; rw [hg1]; simp only [n1, decide_eq_true c15, decide_eq_true c19, decide_eq_false c24, decide_eq_true c28, decide_eq_false c34, decide_eq_true c38, decide_eq_true c44, decide_eq_false c55, decide_eq_true c60, decide_eq_false c70]; first | done | rfl), rfl⟩
           ·refine DL.y rfl rfl (Y.pickF rfl) ?_
            refine DL.y rfl rfl (Y.pickT rfl) ?_
            refine DL.y rfl rfl (Y.move) ?_
            refine DL.skip rfl rfl ?_
            refine DL.skip rfl rfl ?_
            refine DL.skip rfl rfl ?_
            refine DL.skip rfl rfl ?_
            refine DL.skip rfl rfl ?_
            refine DL.skip rfl rfl ?_
            refine DL.skip rfl rfl ?_
            refine DL.y rfl rfl (Y.pickF rfl) ?_
            exact DL.nil ⟨by (show Value.bool _ = Value.bool _; rw [hg1]; simp only [n1, decide_eq_true c15, decide_eq_true c19, decide_eq_false c24, decide_eq_true c28, decide_eq_false c34, decide_eq_true c38, decide_eq_true c44, decide_eq_false c55, decide_eq_false c60]; first | done | rfl), rfl⟩
         ·refine DL.y rfl rfl (Y.move) ?_
          refine DL.y rfl rfl (Y.field F.fd26_3 rfl) ?_
          refine DL.y rfl rfl (Y.loadB F.sc23 rfl hb4 rfl) ?_
          refine DL.y rfl rfl (Y.lenS Tryz.underlying23 rfl) ?_
          refine DL.if rfl rfl (Y.eq rfl rfl) (fun c49 => ?_) (fun c49 => ?_)
          ·refine DL.y rfl rfl (Y.pickF rfl) ?_
           refine DL.y rfl rfl (Y.pickT rfl) ?_
           refine DL.y rfl rfl (Y.move) ?_
           refine DL.y rfl rfl (Y.field F.fd26_0 rfl) ?_
           refine DL.y rfl rfl (Y.loadB F.sc22 rfl hb4 rfl) ?_
           refine DL.if rfl rfl (Y.eq rfl rfl) (fun c55 => ?_) (fun c55 => ?_)
           ·refine DL.y rfl rfl (Y.move) ?_
            refine DL.skip rfl rfl ?_
            refine DL.skip rfl rfl ?_
            refine DL.skip rfl rfl ?_
            refine DL.skip rfl rfl ?_
            refine DL.y rfl rfl (Y.pickT rfl) ?_
            refine DL.y rfl rfl (Y.pickT rfl) ?_
            refine DL.y rfl rfl (Y.move) ?_
            refine DL.y rfl rfl (Y.field F.fd26_4 rfl) ?_
            refine DL.y rfl rfl (Y.loadB F.sc24 rfl hb4 rfl) ?_
            refine DL.y rfl rfl (Y.lenS Tryz.underlying24 rfl) ?_
            refine DL.y rfl rfl (Y.field F.fd26_5 rfl) ?_
            refine DL.y rfl rfl (Y.loadB F.sc23 rfl hb4 rfl) ?_
            refine DL.y rfl rfl (Y.lenS Tryz.underlying23 rfl) ?_
            refine DL.if rfl rfl (Y.eq rfl rfl) (fun c70 => ?_) (fun c70 => ?_)
            ·refine DL.y rfl rfl (Y.pickT rfl) ?_
             exact DL.nil ⟨by (show Value.bool _ = Value.bool _; rw [hg1]; simp only [n1, decide_eq_true c15, decide_eq_true c19, decide_eq_false c24, decide_eq_true c28, decide_eq_false c34, decide_eq_true c38, decide_eq_false c44, decide_eq_true c49, decide_eq_true c55, decide_eq_true c70]; first | done | rfl), rfl⟩
            ·refine DL.y rfl rfl (Y.pickT rfl) ?_
             exact DL.nil ⟨by (show Value.bool _ = Value.bool _; rw [hg1]; simp only [n1, decide_eq_true c15, decide_eq_true c19, decide_eq_false c24, decide_eq_true c28, decide_eq_false c34, decide_eq_true c38, decide_eq_false c44, decide_eq_true c49, decide_eq_true c55, decide_eq_false c70]; first | done | rfl), rfl⟩
           ·refine DL.y rfl rfl (Y.move) ?_
            refine DL.y rfl rfl (Y.field F.fd26_4 rfl) ?_
            refine DL.y rfl rfl (Y.loadB F.sc24 rfl hb4 rfl) ?_
            refine DL.y rfl rfl (Y.lenS Tryz.underlying24 rfl) ?_
            refine DL.if rfl rfl (Y.eq rfl rfl) (fun c60 => ?_) (fun c60 => ?_)
            ·refine DL.y rfl rfl (Y.pickF rfl) ?_
             refine DL.y rfl rfl (Y.pickT rfl) ?_
             refine DL.y rfl rfl (Y.move) ?_
             refine DL.y rfl rfl (Y.field F.fd26_4 rfl) ?_
             refine DL.y rfl rfl (Y.loadB F.sc24 rfl hb4 rfl) ?_
             refine DL.y rfl rfl (Y.lenS Tryz.underlying24 rfl) ?_
             refine DL.y rfl rfl (Y.field F.fd26_5 rfl) ?_
             refine DL.y rfl rfl (Y.loadB F.sc23 rfl hb4 rfl) ?_
             refine DL.y rfl rfl (Y.lenS Tryz.underlying23 rfl) ?_
             refine DL.if rfl rfl (Y.eq rfl rfl) (fun c70 => ?_) (fun c70 => ?_)
             ·refine DL.y rfl rfl (Y.pickT rfl) ?_
              exact DL.nil ⟨by (show Value.bool _ = Value.bool _; rw [hg1]; simp only [n1, decide_eq_true c15, decide_eq_true c19, decide_eq_false c24, decide_eq_true c28, decide_eq_false c34, decide_eq_true c38, decide_eq_false c44, decide_eq_true c49, decide_eq_false c55, decide_eq_true c60, decide_eq_true c70]; first | done | rfl), rfl⟩
             ·refine DL.y rfl rfl (Y.pickT rfl) ?_
              exact DL.nil ⟨by (show Value.bool _ = Value.bool _; rw [hg1]; simp only [n1, decide_eq_true c15, decide_eq_true c19, decide_eq_false c24, decide_eq_true c28, decide_eq_false c34, decide_eq_true c38, decide_eq_false c44, decide_eq_true c49, decide_eq_false c55, decide_eq_true c60, decide_eq_false c70]; first | done | rfl), rfl⟩
            ·refine DL.y rfl rfl (Y.pickF rfl) ?_
             refine DL.y rfl rfl (Y.pickT rfl) ?_
             refine DL.y rfl rfl (Y.move) ?_
             refine DL.skip rfl rfl ?_
             refine DL.skip rfl rfl ?_
             refine DL.skip rfl rfl ?_
             refine DL.skip rfl rfl ?_
             refine DL.skip rfl rfl ?_
             refine DL.skip rfl rfl ?_
             refine DL.skip rfl rfl ?_
             refine DL.y rfl rfl (Y.pickF rfl) ?_
             exact DL.nil ⟨by (show Value.bool _ = Value.bool _; rw [hg1]; simp only [n1, decide_eq_true c15, decide_eq_true c19, decide_eq_false c24, decide_eq_true c28, decide_eq_false c34, decide_eq_true c38, decide_eq_false c44, decide_eq_true c49, decide_eq_false c55, decide_eq_false c60]; first | done | rfl), rfl⟩
          ·refine DL.y rfl rfl (Y.pickF rfl) ?_
           refine DL.y rfl rfl (Y.pickT rfl) ?_
           refine DL.y rfl rfl (Y.move) ?_
           refine DL.skip rfl rfl ?_
           refine DL.skip rfl rfl ?_
           refine DL.skip rfl rfl ?_
           refine DL.skip rfl rfl ?_
           refine DL.skip rfl rfl ?_
           refine DL.skip rfl rfl ?_
           refine DL.skip rfl rfl ?_
           refine DL.skip rfl rfl ?_
           refine DL.skip rfl rfl ?_
           refine DL.y rfl rfl (Y.pickF rfl) ?_
           refine DL.y rfl rfl (Y.move) ?_
           refine DL.skip rfl rfl ?_
           refine DL.skip rfl rfl ?_
           refine DL.skip rfl rfl ?_
           refine DL.skip rfl rfl ?_
           refine DL.skip rfl rfl ?_
           refine DL.skip rfl rfl ?_
           refine DL.skip rfl rfl ?_
           refine DL.y rfl rfl (Y.pickF rfl) ?_
           exact DL.nil ⟨by (show Value.bool _ = Value.bool _; rw [hg1]; simp only [n1, decide_eq_true c15, decide_eq_true c19, decide_eq_false c24, decide_eq_true c28, decide_eq_false c34, decide_eq_true c38, decide_eq_false c44, decide_eq_false c49]; first | done | rfl), rfl⟩
        ·refine DL.y rfl rfl (Y.pickF rfl) ?_
         refine DL.y rfl rfl (Y.pickT rfl) ?_
         refine DL.y rfl rfl (Y.move) ?_
         refine DL.skip rfl rfl ?_
         refine DL.skip rfl rfl ?_
         refine DL.skip rfl rfl ?_
         refine DL.skip rfl rfl ?_
         refine DL.skip rfl rfl ?_
         refine DL.skip rfl rfl ?_
         refine DL.skip rfl rfl ?_
         refine DL.skip rfl rfl ?_
         refine DL.skip rfl rfl ?_
         refine DL.y rfl rfl (Y.pickF rfl) ?_
         refine DL.y rfl rfl (Y.move) ?_
         refine DL.skip rfl rfl ?_
         refine DL.skip rfl rfl ?_
         refine DL.skip rfl rfl ?_
         refine DL.skip rfl rfl ?_
         refine DL.skip rfl rfl ?_
         refine DL.skip rfl rfl ?_
         refine DL.skip rfl rfl ?_
         refine DL.skip rfl rfl ?_
         refine DL.skip rfl rfl ?_
         refine DL.y rfl rfl (Y.pickF rfl) ?_
         refine DL.y rfl rfl (Y.move) ?_
         refine DL.skip rfl rfl ?_
         refine DL.skip rfl rfl ?_
         refine DL.skip rfl rfl ?_
         refine DL.skip rfl rfl ?_
         refine DL.skip rfl rfl ?_
         refine DL.skip rfl rfl ?_
         refine DL.skip rfl rfl ?_
         refine DL.y rfl rfl (Y.pickF rfl) ?_
         exact DL.nil ⟨by (show Value.bool _ = Value.bool _; rw [hg1]; simp only [n1, decide_eq_true c15, decide_eq_true c19, decide_eq_false c24, decide_eq_true c28, decide_eq_false c34, decide_eq_false c38]; first | done | rfl), rfl⟩
      ·refine DL.y rfl rfl (Y.pickF rfl) ?_
       refine DL.y rfl rfl (Y.pickT rfl) ?_
       refine DL.y rfl rfl (Y.move) ?_
       refine DL.skip rfl rfl ?_
       refine DL.skip rfl rfl ?_
       refine DL.skip rfl rfl ?_
       refine DL.skip rfl rfl ?_
       refine DL.skip rfl rfl ?_
       refine DL.skip rfl rfl ?_
       refine DL.skip rfl rfl ?_
       refine DL.skip rfl rfl ?_
       refine DL.y rfl rfl (Y.pickF rfl) ?_
       refine DL.y rfl rfl (Y.move) ?_
       refine DL.skip rfl rfl ?_
       refine DL.skip rfl rfl ?_
       refine DL.skip rfl rfl ?_
       refine DL.skip rfl rfl ?_
       refine DL.skip rfl rfl ?_
       refine DL.skip rfl rfl ?_
       refine DL.skip rfl rfl ?_
       refine DL.skip rfl rfl ?_
       refine DL.skip rfl rfl ?_
       refine DL.y rfl rfl (Y.pickF rfl) ?_
       refine DL.y rfl rfl (Y.move) ?_
       refine DL.skip rfl rfl ?_
       refine DL.skip rfl rfl ?_
       refine DL.skip rfl rfl ?_
       refine DL.skip rfl rfl ?_
       refine DL.skip rfl rfl ?_
       refine DL.skip rfl rfl ?_
       refine DL.skip rfl rfl ?_
       refine DL.skip rfl rfl ?_
       refine DL.skip rfl rfl ?_
       refine DL.y rfl rfl (Y.pickF rfl) ?_
       refine DL.y rfl rfl (Y.move) ?_
       refine DL.skip rfl rfl ?_
       refine DL.skip rfl rfl ?_
       refine DL.skip rfl rfl ?_
       refine DL.skip rfl rfl ?_
       refine DL.skip rfl rfl ?_
       refine DL.skip rfl rfl ?_
       refine DL.skip rfl rfl ?_
       refine DL.y rfl rfl (Y.pickF rfl) ?_
       exact DL.nil ⟨by (show Value.bool _ = Value.bool _; rw [hg1]; simp only [n1, decide_eq_true c15, decide_eq_true c19, decide_eq_false c24, decide_eq_false c28]; first | done | rfl), rfl⟩
    ·refine DL.y rfl rfl (Y.pickT rfl) ?_
     refine DL.y rfl rfl (Y.move) ?_
     refine DL.skip rfl rfl ?_
     refine DL.skip rfl rfl ?_
     refine DL.skip rfl rfl ?_
     refine DL.skip rfl rfl ?_
     refine DL.skip rfl rfl ?_
     refine DL.skip rfl rfl ?_
     refine DL.skip rfl rfl ?_
     refine DL.skip rfl rfl ?_
     refine DL.y rfl rfl (Y.pickF rfl) ?_
     refine DL.y rfl rfl (Y.move) ?_
     refine DL.skip rfl rfl ?_
     refine DL.skip rfl rfl ?_
     refine DL.skip rfl rfl ?_
     refine DL.skip rfl rfl ?_
     refine DL.skip rfl rfl ?_
     refine DL.skip rfl rfl ?_
     refine DL.skip rfl rfl ?_
     refine DL.skip rfl rfl ?_
     refine DL.y rfl rfl (Y.pickF rfl) ?_
     refine DL.y rfl rfl (Y.move) ?_
     refine DL.skip rfl rfl ?_
     refine DL.skip rfl rfl ?_
     refine DL.skip rfl rfl ?_
     refine DL.skip rfl rfl ?_
     refine DL.skip rfl rfl ?_
     refine DL.skip rfl rfl ?_
     refine DL.skip rfl rfl ?_
     refine DL.skip rfl rfl ?_
     refine DL.skip rfl rfl ?_
     refine DL.y rfl rfl (Y.pickF rfl) ?_
     refine DL.y rfl rfl (Y.move) ?_
     refine DL.skip rfl rfl ?_
     refine DL.skip rfl rfl ?_
     refine DL.skip rfl rfl ?_
     refine DL.skip rfl rfl ?_
     refine DL.skip rfl rfl ?_
     refine DL.skip rfl rfl ?_
     refine DL.skip rfl rfl ?_
     refine DL.skip rfl rfl ?_
     refine DL.skip rfl rfl ?_
     refine DL.y rfl rfl (Y.pickF rfl) ?_
     refine DL.y rfl rfl (Y.move) ?_
     refine DL.skip rfl rfl ?_
     refine DL.skip rfl rfl ?_
     refine DL.skip rfl rfl ?_
     refine DL.skip rfl rfl ?_
     refine DL.skip rfl rfl ?_
     refine DL.skip rfl rfl ?_
     refine DL.skip rfl rfl ?_
     refine DL.y rfl rfl (Y.pickF rfl) ?_
     exact DL.nil ⟨by (show Value.bool _ = Value.bool _; rw [hg1]; simp only [n1, decide_eq_true c15, decide_eq_false c19]; first | done | rfl), rfl⟩
   ·refine DL.y rfl rfl (Y.move) ?_
    refine DL.skip rfl rfl ?_
    refine DL.skip rfl rfl ?_
    refine DL.skip rfl rfl ?_
    refine DL.y rfl rfl (Y.pickF rfl) ?_
    refine DL.y rfl rfl (Y.move) ?_
    refine DL.skip rfl rfl ?_
    refine DL.skip rfl rfl ?_
    refine DL.skip rfl rfl ?_
    refine DL.skip rfl rfl ?_
    refine DL.skip rfl rfl ?_
    refine DL.skip rfl rfl ?_
    refine DL.skip rfl rfl ?_
    refine DL.skip rfl rfl ?_
    refine DL.y rfl rfl (Y.pickF rfl) ?_
    refine DL.y rfl rfl (Y.move) ?_
    refine DL.skip rfl rfl ?_
    refine DL.skip rfl rfl ?_
    refine DL.skip rfl rfl ?_
    refine DL.skip rfl rfl ?_
    refine DL.skip rfl rfl ?_
    refine DL.skip rfl rfl ?_
    refine DL.skip rfl rfl ?_
    refine DL.skip rfl rfl ?_
    refine DL.y rfl rfl (Y.pickF rfl) ?_
    refine DL.y rfl rfl (Y.move) ?_
    refine DL.skip rfl rfl ?_
    refine DL.skip rfl rfl ?_
    refine DL.skip rfl rfl ?_
    refine DL.skip rfl rfl ?_
    refine DL.skip rfl rfl ?_
    refine DL.skip rfl rfl ?_
    refine DL.skip rfl rfl ?_
    refine DL.skip rfl rfl ?_
    refine DL.skip rfl rfl ?_
    refine DL.y rfl rfl (Y.pickF rfl) ?_
    refine DL.y rfl rfl (Y.move) ?_
    refine DL.skip rfl rfl ?_
    refine DL.skip rfl rfl ?_
    refine DL.skip rfl rfl ?_
    refine DL.skip rfl rfl ?_
    refine DL.skip rfl rfl ?_
    refine DL.skip rfl rfl ?_
    refine DL.skip rfl rfl ?_
    refine DL.skip rfl rfl ?_
    refine DL.skip rfl rfl ?_
    refine DL.y rfl rfl (Y.pickF rfl) ?_
    refine DL.y rfl rfl (Y.move) ?_
    refine DL.skip rfl rfl ?_
    refine DL.skip rfl rfl ?_
    refine DL.skip rfl rfl ?_
    refine DL.skip rfl rfl ?_
    refine DL.skip rfl rfl ?_
    refine DL.skip rfl rfl ?_
    refine DL.skip rfl rfl ?_
    refine DL.y rfl rfl (Y.pickF rfl) ?_
    exact DL.nil ⟨by (show Value.bool _ = Value.bool _; rw [hg1]; simp only [n1, decide_eq_false c15]; first | done | rfl), rfl⟩
  ·rintro j _ hcut; obtain rfl := hcut.symm
   refine DL.call rfl rfl F.nm87 rfl (want_any b _ _ _ _ _ hb) ?_
   rintro _ w6 f7 hb
   replace FR := FR.put f7 (by intro i hi; simp only [List.mem_cons, List.mem_singleton, List.not_mem_nil, or_false] at hi; rcases hi with rfl; all_goals (first | (left; simp; done) | (right; omega)))
   replace hR := hR.fr f7 (by intro x hx; simp <;> omega)
   replace hT := hT.fr f7 (by intro x hx; simp <;> omega)
   replace hb4 := f7.blk hb4 (by simp only [List.mem_cons, List.not_mem_nil, or_false, not_or]; omega)
   replace hi4 := Nat.lt_of_lt_of_le hi4 f7.size
   refine DL.nil ?_
   show DC _ _ _ _ _ _
   refine DC.seq ?_
   refine DC.region ?_
   refine DL.y rfl rfl (Y.move) ?_
   refine DL.cut 24 [(74, 97)] 97 (.bool g2) (fun w' => w' = w6) rfl ?_ ?_
   ·refine DL.y rfl rfl (Y.field F.fd26_1 rfl) ?_
    refine DL.y rfl rfl (Y.loadB F.sc3 rfl hb4 rfl) ?_
    refine DL.if rfl rfl (Y.ge rfl rfl) (fun c76 => ?_) (fun c76 => ?_)
    ·refine DL.y rfl rfl (Y.move) ?_
     refine DL.y rfl rfl (Y.field F.fd26_1 rfl) ?_
     refine DL.y rfl rfl (Y.loadB F.sc3 rfl hb4 rfl) ?_
     refine DL.if rfl rfl (Y.le rfl rfl) (fun c80 => ?_) (fun c80 => ?_)
     ·refine DL.y rfl rfl (Y.pickT rfl) ?_
      refine DL.y rfl rfl (Y.move) ?_
      refine DL.y rfl rfl (Y.field F.fd26_1 rfl) ?_
      refine DL.y rfl rfl (Y.loadB F.sc3 rfl hb4 rfl) ?_
      refine DL.y rfl rfl (Y.rem rfl rfl (by decide)) ?_
      refine DL.if rfl rfl (Y.eq rfl rfl) (fun c86 => ?_) (fun c86 => ?_)
      ·refine DL.y rfl rfl (Y.move) ?_
       refine DL.skip rfl rfl ?_
       refine DL.skip rfl rfl ?_
       refine DL.skip rfl rfl ?_
       refine DL.skip rfl rfl ?_
       refine DL.skip rfl rfl ?_
       refine DL.skip rfl rfl ?_
       refine DL.skip rfl rfl ?_
       refine DL.skip rfl rfl ?_
       refine DL.y rfl rfl (Y.pickT rfl) ?_
       refine DL.y rfl rfl (Y.pickT rfl) ?_
       exact DL.nil ⟨by (show Value.bool _ = Value.bool _; rw [hg2]; simp only [n2, decide_eq_true c76, decide_eq_true c80, decide_eq_true c86]; first | done | rfl), rfl⟩
      ·refine DL.y rfl rfl (Y.move) ?_
       refine DL.y rfl rfl (Y.field F.fd26_1 rfl) ?_
       refine DL.y rfl rfl (Y.loadB F.sc3 rfl hb4 rfl) ?_
       refine DL.if rfl rfl (Y.gt rfl rfl) (fun c90 => ?_) (fun c90 => ?_)
       ·refine DL.y rfl rfl (Y.move) ?_
        refine DL.y rfl rfl (Y.field F.fd26_1 rfl) ?_
        refine DL.y rfl rfl (Y.loadB F.sc3 rfl hb4 rfl) ?_
        refine DL.if rfl rfl (Y.lt rfl rfl) (fun c94 => ?_) (fun c94 => ?_)
        ·refine DL.y rfl rfl (Y.pickT rfl) ?_
         refine DL.y rfl rfl (Y.pickF rfl) ?_
         refine DL.y rfl rfl (Y.pickT rfl) ?_
         exact DL.nil ⟨by (show Value.bool _ = Value.bool _; rw [hg2]; simp only [n2, decide_eq_true c76, decide_eq_true c80, decide_eq_false c86, decide_eq_true c90, decide_eq_true c94]; first | done | rfl), rfl⟩
        ·refine DL.y rfl rfl (Y.pickT rfl) ?_
         refine DL.y rfl rfl (Y.pickF rfl) ?_
         refine DL.y rfl rfl (Y.pickT rfl) ?_
         exact DL.nil ⟨by (show Value.bool _ = Value.bool _; rw [hg2]; simp only [n2, decide_eq_true c76, decide_eq_true c80, decide_eq_false c86, decide_eq_true c90, decide_eq_false c94]; first | done | rfl), rfl⟩
       ·refine DL.y rfl rfl (Y.move) ?_
        refine DL.skip rfl rfl ?_
        refine DL.skip rfl rfl ?_
        refine DL.skip rfl rfl ?_
        refine DL.y rfl rfl (Y.pickF rfl) ?_
        refine DL.y rfl rfl (Y.pickF rfl) ?_
        refine DL.y rfl rfl (Y.pickT rfl) ?_
        exact DL.nil ⟨by (show Value.bool _ = Value.bool _; rw [hg2]; simp only [n2, decide_eq_true c76, decide_eq_true c80, decide_eq_false c86, decide_eq_false c90]; first | done | rfl), rfl⟩
     ·refine DL.y rfl rfl (Y.pickT rfl) ?_
      refine DL.y rfl rfl (Y.move) ?_
      refine DL.skip rfl rfl ?_
      refine DL.skip rfl rfl ?_
      refine DL.skip rfl rfl ?_
      refine DL.skip rfl rfl ?_
      refine DL.skip rfl rfl ?_
      refine DL.skip rfl rfl ?_
      refine DL.skip rfl rfl ?_
      refine DL.skip rfl rfl ?_
      refine DL.skip rfl rfl ?_
      refine DL.skip rfl rfl ?_
      refine DL.skip rfl rfl ?_
      refine DL.skip rfl rfl ?_
      refine DL.skip rfl rfl ?_
      refine DL.skip rfl rfl ?_
      refine DL.y rfl rfl (Y.pickF rfl) ?_
      exact DL.nil ⟨by (show Value.bool _ = Value.bool _; rw [hg2]; simp only [n2, decide_eq_true c76, decide_eq_false c80]; first | done | rfl), rfl⟩
    ·refine DL.y rfl rfl (Y.move) ?_
     refine DL.skip rfl rfl ?_
     refine DL.skip rfl rfl ?_
     refine DL.skip rfl rfl ?_
     refine DL.y rfl rfl (Y.pickF rfl) ?_
     refine DL.y rfl rfl (Y.move) ?_
     refine DL.skip rfl rfl ?_
     refine DL.skip rfl rfl ?_
     refine DL.skip rfl rfl ?_
     refine DL.skip rfl rfl ?_
     refine DL.skip rfl rfl ?_
     refine DL.skip rfl rfl ?_
     refine DL.skip rfl rfl ?_
     refine DL.skip rfl rfl ?_
     refine DL.skip rfl rfl ?_
     refine DL.skip rfl rfl ?_
     refine DL.skip rfl rfl ?_
     refine DL.skip rfl rfl ?_
     refine DL.skip rfl rfl ?_
     refine DL.skip rfl rfl ?_
     refine DL.y rfl rfl (Y.pickF rfl) ?_
     exact DL.nil ⟨by (show Value.bool _ = Value.bool _; rw [hg2]; simp only [n2, decide_eq_false c76]; first | done | rfl), rfl⟩
   ·rintro j _ hcut; obtain rfl := hcut.symm
    refine DL.call rfl rfl F.nm87 rfl (want_any b _ _ _ _ _ hb) ?_
    rintro _ w9 f10 hb
    replace FR := FR.put f10 (by intro i hi; simp only [List.mem_cons, List.mem_singleton, List.not_mem_nil, or_false] at hi; rcases hi with rfl; all_goals (first | (left; simp; done) | (right; omega)))
    replace hR := hR.fr f10 (by intro x hx; simp <;> omega)
    replace hT := hT.fr f10 (by intro x hx; simp <;> omega)
    replace hb4 := f10.blk hb4 (by simp only [List.mem_cons, List.not_mem_nil, or_false, not_or]; omega)
    replace hi4 := Nat.lt_of_lt_of_le hi4 f10.size
    refine DL.nil ?_
    show DC _ _ _ _ _ _
    refine DC.seq ?_
    refine DC.region ?_
    refine DL.y rfl rfl (Y.move) ?_
    refine DL.y rfl rfl (Y.field F.fd26_2 rfl) ?_
    refine DL.y rfl rfl (Y.loadB F.sc9 rfl hb4 rfl) ?_
    have hxs : ((!g1) || (!g2)) = false → 0 ≤ n ∧ n ≤ 2000 := by
     obtain ⟨q1, q2, q3, q4, q5⟩ := hr1 rfl
     obtain ⟨q6, q7, q8, q9⟩ := hx q1
     intro _; exact ⟨q8, q9⟩
    refine DL.call rfl rfl F.nm88 rfl (str_any b _ _ _ _ _ hb (by omega) bt hT hxs) ?_
    rintro _ w11 f12 ⟨n4, bad4, hb, hx4⟩
    replace FR := FR.put f12 (by intro i hi; simp only [List.mem_cons, List.mem_singleton, List.not_mem_nil, or_false] at hi; rcases hi with rfl; all_goals (first | (left; simp; done) | (right; omega)))
    replace hR := hR.fr f12 (by intro x hx; simp <;> omega)
    replace hT := hT.fr f12 (by intro x hx; simp <;> omega)
    replace hb4 := f12.blk hb4 (by simp only [List.mem_cons, List.not_mem_nil, or_false, not_or]; omega)
    replace hi4 := Nat.lt_of_lt_of_le hi4 f12.size
    refine DL.nil ?_
    show DC _ _ _ _ _ _
    refine DC.seq ?_
    refine DC.seq ?_
    refine DC.region ?_
    refine DL.y rfl rfl (Y.assign) ?_
    refine DL.nil ?_
    show DC _ _ _ _ _ _
    refine DC.block ?_
    refine DC.loop (σ := Nat × Int × Int × Bool) [(6, 6), (103, 125)] (fun (k, _, _, _) => [(6, .int .i64 (k : Int))]) (fun sg wl => Fr [b] w11 wl ∧ (fun (k, p', n', bad') w' => k ≤ list.length ∧ w'.heap[b]? = some (.cells (lk p' n' bad') 67 (0, 0)) ∧ (bad' = false → ((g1 = true ∧ g2 = true ∧ Lib.validD text.data.toList = true) ∧ bad = false) ∧ (∀ i (h : i < list.length), i < k → Good list[i]) ∧ p' = p + 1 + V.nodesL (list.take k) ∧ n' = n + text.size + V.bytesL (list.take k) ∧ p' ≤ 400 ∧ n' ≤ 2000)) sg wl) (fun (k, _, _, _) => list.length - k) ((0, p1, n4, bad4)) rfl ?_ ?_ ?_
    ·exact rfl
    ·exact ⟨Fr.refl _ _, Nat.zero_le _, hb, fun h => by obtain ⟨e1, e2, e3, e4⟩ := hx4 h; have e56 : g1 = true ∧ g2 = true := (by simpa using e1); obtain ⟨q1, q2, q3, q4, q5⟩ := hr1 rfl; exact ⟨⟨⟨e56.1, e56.2, e4⟩, q1⟩, fun i h hi => by omega, by simp [V.nodesL]; omega, by simp [V.bytesL]; omega, by omega, e3⟩⟩
    ·rintro ⟨k, p5, n5, bad5⟩ j w13 ⟨f14, hk5, hb, hx5⟩
     replace FR := FR.put f14 (by intro i hi; simp only [List.mem_cons, List.mem_singleton, List.not_mem_nil, or_false] at hi; rcases hi with rfl; all_goals (first | (left; simp; done) | (right; omega)))
     replace hR := hR.fr f14 (by intro x hx; simp <;> omega)
     replace hT := hT.fr f14 (by intro x hx; simp <;> omega)
     replace hb4 := f14.blk hb4 (by simp only [List.mem_cons, List.not_mem_nil, or_false, not_or]; omega)
     replace hi4 := Nat.lt_of_lt_of_le hi4 f14.size
     have G15 := f14
     have HG15 := Fr.refl [b] w13
     refine DC.seq ?_
     refine DC.seq ?_
     refine DC.region ?_
     refine DL.cut 12 [(103, 114)] 114 (.bool (decide ((k : Int) < (list.length : Int)) && !bad5)) (fun w' => w' = w13) rfl ?_ ?_
     ·refine DL.y rfl rfl (Y.move) ?_
      refine DL.y rfl rfl (Y.field F.fd26_3 rfl) ?_
      refine DL.y rfl rfl (Y.loadB F.sc23 rfl hb4 rfl) ?_
      refine DL.y rfl rfl (Y.lenS Tryz.underlying23 rfl) ?_
      refine DL.if rfl rfl (Y.lt rfl rfl) (fun c107 => ?_) (fun c107 => ?_)
      ·refine DL.y rfl rfl (Y.move) ?_
       refine DL.y rfl rfl (Y.move) ?_
       refine DL.y rfl rfl (Y.nil rfl) ?_
       refine DL.y rfl rfl (Y.field F.fd67_2 rfl) ?_
       refine DL.ifb rfl rfl (Y.loadB F.sc4 rfl hb rfl) (fun c112 => ?_) (fun c112 => ?_)
       ·refine DL.y rfl rfl (Y.not rfl) ?_
        refine DL.y rfl rfl (Y.pickT rfl) ?_
        exact DL.nil ⟨by (show Value.bool _ = Value.bool _; simp only [decide_eq_true c107, c112]; first | done | rfl), rfl⟩
       ·refine DL.y rfl rfl (Y.not rfl) ?_
        refine DL.y rfl rfl (Y.pickT rfl) ?_
        exact DL.nil ⟨by (show Value.bool _ = Value.bool _; simp only [decide_eq_true c107, c112]; first | done | rfl), rfl⟩
      ·refine DL.y rfl rfl (Y.move) ?_
       refine DL.skip rfl rfl ?_
       refine DL.skip rfl rfl ?_
       refine DL.skip rfl rfl ?_
       refine DL.skip rfl rfl ?_
       refine DL.skip rfl rfl ?_
       refine DL.y rfl rfl (Y.pickF rfl) ?_
       exact DL.nil ⟨by (show Value.bool _ = Value.bool _; simp only [decide_eq_false c107]; first | done | rfl), rfl⟩
     ·rintro j _ hcut; obtain rfl := hcut.symm
      refine DL.nil ?_
      show DC _ _ _ _ _ _
      refine DC.cond rfl (fun c114 => ?_) (fun c114 => ?_)
      ·obtain ⟨hk, hbad5⟩ : k < list.length ∧ bad5 = false := by simpa using c114
       subst hbad5
       refine DC.skip ?_
       show DC _ _ _ _ _ _
       refine DC.seq ?_
       refine DC.block ?_
       refine DC.region ?_
       refine DL.y rfl rfl (Y.move) ?_
       refine DL.y rfl rfl (Y.field F.fd26_3 rfl) ?_
       refine DL.y rfl rfl (Y.loadB F.sc23 rfl hb4 rfl) ?_
       refine DL.y rfl rfl (Y.move) ?_
       obtain ⟨ba, oa, cl, rfl, hba, hcl, hcs, hRi⟩ := hR.elem hk
       have hle : list[k].nodes ≤ m := by have := nodes_le hk; simp only [V.nodes] at hm; omega
       have hx5' : false = false → 0 ≤ p5 ∧ p5 ≤ 400 ∧ 0 ≤ n5 ∧ n5 ≤ 2000 := fun _ => by obtain ⟨q1, q3, q4, q5, q6, q7⟩ := hx5 rfl; obtain ⟨q8, q9, q10, q11⟩ := hx q1.2; omega
       refine DL.y rfl rfl (Y.index F.sl23 rfl rfl (rfl) (hk)) ?_
       refine DL.y rfl rfl (Y.loadAn hcs F.ag26 rfl hcl) ?_
       refine DL.y rfl rfl (Y.move) ?_
       refine DL.y rfl rfl (Y.addI rfl rfl (rfl) (by omega) (by omega)) ?_
       refine DL.call rfl rfl F.nm45 rfl (ih _ _ b B _ _ _ _ _ hle hRi hB h2 hT hb hx5' (by omega) (by omega)) ?_
       rintro _ w17 f18 ⟨p7, n7, bad7, hb, hx7⟩
       replace FR := FR.put f18 (by intro i hi; simp only [List.mem_cons, List.mem_singleton, List.not_mem_nil, or_false] at hi; rcases hi with rfl; all_goals (first | (left; simp; done) | (right; omega)))
       replace G15 := G15.put f18 (by intro i hi; simp only [List.mem_cons, List.mem_singleton, List.not_mem_nil, or_false] at hi; rcases hi with rfl; all_goals (first | (left; simp; done) | (right; omega)))
       replace HG15 := HG15.put f18 (by intro i hi; simp only [List.mem_cons, List.mem_singleton, List.not_mem_nil, or_false] at hi; rcases hi with rfl; all_goals (first | (left; simp; done) | (right; omega)))
       replace hR := hR.fr f18 (by intro x hx; simp <;> omega)
       replace hT := hT.fr f18 (by intro x hx; simp <;> omega)
       replace hb4 := f18.blk hb4 (by simp only [List.mem_cons, List.not_mem_nil, or_false, not_or]; omega)
       replace hi4 := Nat.lt_of_lt_of_le hi4 f18.size
       refine DL.nil ?_
       show DC _ _ _ _ _ _
       refine DC.region ?_
       refine DL.y rfl rfl (Y.move) ?_
       refine DL.y rfl rfl (Y.addI (c := ((k + 1 : Nat) : Int)) rfl rfl (by omega) (by omega) (by omega)) ?_
       refine DL.y rfl rfl (Y.assign) ?_
       refine DL.nil ?_
       refine ⟨(k + 1, p7, n7, bad7), ⟨G15, hk, hb, fun h => ?_⟩, by show list.length - (k + 1) < list.length - k; omega, rfl⟩
       obtain ⟨e1, e2, e3, e4, e5, e6⟩ := hx7 h
       obtain ⟨q1, q3, q4, q5, q6, q7⟩ := hx5 e1
       refine ⟨q1, fun i hi hik => ?_, ?_, ?_, e5, e6⟩
       ·by_cases h' : i = k
        ·subst h'; exact e2
        ·exact q3 i hi (by omega)
       ·rw [nodesL_take hk, e3, q4]; push_cast; omega
       ·rw [bytesL_take hk, e4, q5]; push_cast; omega
      ·refine DC.exit ?_
       show DC _ _ _ _ _ _
       refine DC.seq ?_
       refine DC.region ?_
       refine DL.y rfl rfl (Y.assign) ?_
       refine DL.nil ?_
       show DC _ _ _ _ _ _
       refine DC.block ?_
       have hx6 : bad5 = false → k = list.length := by
        intro h; subst h; simp at c114; omega
       refine DC.loop (σ := Nat × Int × Int × Bool) [(7, 7), (126, 173)] (fun (k, _, _, _) => [(7, .int .i64 (k : Int))]) (fun sg wl => Fr [b] w13 wl ∧ (fun (k, p', n', bad') w' => k ≤ keys.length ∧ w'.heap[b]? = some (.cells (lk p' n' bad') 67 (0, 0)) ∧ (bad' = false → (((g1 = true ∧ g2 = true ∧ Lib.validD text.data.toList = true) ∧ bad = false) ∧ (∀ i (h : i < list.length), Good list[i])) ∧ (∀ i (h : i < keys.length), i < k → Lib.validD keys[i].data.toList = true) ∧ (∀ i (h : i + 1 < keys.length), i + 1 < k → Op.bytesLess keys[i].toList keys[i + 1].toList = true) ∧ (∀ i (h : i < vals.length), i < k → Good vals[i]) ∧ p' = p + 1 + V.nodesL list + V.nodesL (vals.take k) ∧ n' = n + text.size + V.bytesL list + bytesK (keys.take k) + V.bytesL (vals.take k) ∧ p' ≤ 400 ∧ n' ≤ 2000)) sg wl) (fun (k, _, _, _) => keys.length - k) ((0, p5, n5, bad5)) rfl ?_ ?_ ?_
       ·exact rfl
       ·exact ⟨Fr.refl _ _, Nat.zero_le _, hb, fun h => by obtain ⟨q1, q3, q4, q5, q6, q7⟩ := hx5 h; have e := hx6 h; subst e; simp only [List.take_length] at q4 q5; exact ⟨⟨q1, fun i hi => q3 i hi hi⟩, fun i h hi => by omega, fun i h hi => by omega, fun i h hi => by omega, by simp [V.nodesL]; omega, by simp [V.bytesL, bytesK]; omega, q6, q7⟩⟩
       ·rintro ⟨i2, p8, n8, bad8⟩ j w19 ⟨f20, hk8, hb, hx8⟩
        replace FR := FR.put f20 (by intro i hi; simp only [List.mem_cons, List.mem_singleton, List.not_mem_nil, or_false] at hi; rcases hi with rfl; all_goals (first | (left; simp; done) | (right; omega)))
        replace hR := hR.fr f20 (by intro x hx; simp <;> omega)
        replace hT := hT.fr f20 (by intro x hx; simp <;> omega)
        replace hb4 := f20.blk hb4 (by simp only [List.mem_cons, List.not_mem_nil, or_false, not_or]; omega)
        replace hi4 := Nat.lt_of_lt_of_le hi4 f20.size
        have G21 := f20
        have HG21 := Fr.refl [b] w19
        refine DC.seq ?_
        refine DC.seq ?_
        refine DC.region ?_
        refine DL.cut 12 [(126, 137)] 137 (.bool (decide ((i2 : Int) < (keys.length : Int)) && !bad8)) (fun w' => w' = w19) rfl ?_ ?_
        ·refine DL.y rfl rfl (Y.move) ?_
         refine DL.y rfl rfl (Y.field F.fd26_4 rfl) ?_
         refine DL.y rfl rfl (Y.loadB F.sc24 rfl hb4 rfl) ?_
         refine DL.y rfl rfl (Y.lenS Tryz.underlying24 rfl) ?_
         refine DL.if rfl rfl (Y.lt rfl rfl) (fun c130 => ?_) (fun c130 => ?_)
         ·refine DL.y rfl rfl (Y.move) ?_
          refine DL.y rfl rfl (Y.move) ?_
          refine DL.y rfl rfl (Y.nil rfl) ?_
          refine DL.y rfl rfl (Y.field F.fd67_2 rfl) ?_
          refine DL.ifb rfl rfl (Y.loadB F.sc4 rfl hb rfl) (fun c135 => ?_) (fun c135 => ?_)
          ·refine DL.y rfl rfl (Y.not rfl) ?_
           refine DL.y rfl rfl (Y.pickT rfl) ?_
           exact DL.nil ⟨by (show Value.bool _ = Value.bool _; simp only [decide_eq_true c130, c135]; first | done | rfl), rfl⟩
          ·refine DL.y rfl rfl (Y.not rfl) ?_
           refine DL.y rfl rfl (Y.pickT rfl) ?_
           exact DL.nil ⟨by (show Value.bool _ = Value.bool _; simp only [decide_eq_true c130, c135]; first | done | rfl), rfl⟩
         ·refine DL.y rfl rfl (Y.move) ?_
          refine DL.skip rfl rfl ?_
          refine DL.skip rfl rfl ?_
          refine DL.skip rfl rfl ?_
          refine DL.skip rfl rfl ?_
          refine DL.skip rfl rfl ?_
          refine DL.y rfl rfl (Y.pickF rfl) ?_
          exact DL.nil ⟨by (show Value.bool _ = Value.bool _; simp only [decide_eq_false c130]; first | done | rfl), rfl⟩
        ·rintro j _ hcut; obtain rfl := hcut.symm
         refine DL.nil ?_
         show DC _ _ _ _ _ _
         refine DC.cond rfl (fun c137 => ?_) (fun c137 => ?_)
         ·obtain ⟨hk2, hbad8⟩ : i2 < keys.length ∧ bad8 = false := by simpa using c137
          subst hbad8
          refine DC.skip ?_
          show DC _ _ _ _ _ _
          refine DC.seq ?_
          refine DC.block ?_
          refine DC.seq ?_
          refine DC.region ?_
          refine DL.y rfl rfl (Y.move) ?_
          refine DL.y rfl rfl (Y.field F.fd26_4 rfl) ?_
          refine DL.y rfl rfl (Y.loadB F.sc24 rfl hb4 rfl) ?_
          refine DL.y rfl rfl (Y.move) ?_
          obtain ⟨bs, os, rfl, hbs, hkc, hks⟩ := hR.keyAt hk2
          have hx8' : false = false → 0 ≤ n8 ∧ n8 ≤ 2000 := fun _ => by obtain ⟨q1, q2, q3, q4, q5, q6, q7, q8⟩ := hx8 rfl; obtain ⟨q9, q10, q11, q12⟩ := hx q1.1.2; omega
          refine DL.y rfl rfl (Y.index F.sl24 rfl rfl (rfl) (hk2)) ?_
          refine DL.y rfl rfl (Y.load F.sc9 rfl hkc) ?_
          refine DL.call rfl rfl F.nm88 rfl (str_any b _ _ _ _ _ hb (by omega) hks hT hx8') ?_
          rintro _ w23 f24 ⟨n9, bad9, hb, hx9⟩
          replace FR := FR.put f24 (by intro i hi; simp only [List.mem_cons, List.mem_singleton, List.not_mem_nil, or_false] at hi; rcases hi with rfl; all_goals (first | (left; simp; done) | (right; omega)))
          replace G21 := G21.put f24 (by intro i hi; simp only [List.mem_cons, List.mem_singleton, List.not_mem_nil, or_false] at hi; rcases hi with rfl; all_goals (first | (left; simp; done) | (right; omega)))
          replace HG21 := HG21.put f24 (by intro i hi; simp only [List.mem_cons, List.mem_singleton, List.not_mem_nil, or_false] at hi; rcases hi with rfl; all_goals (first | (left; simp; done) | (right; omega)))
          replace hR := hR.fr f24 (by intro x hx; simp <;> omega)
          replace hT := hT.fr f24 (by intro x hx; simp <;> omega)
          replace hb4 := f24.blk hb4 (by simp only [List.mem_cons, List.not_mem_nil, or_false, not_or]; omega)
          replace hi4 := Nat.lt_of_lt_of_le hi4 f24.size
          replace hkc := f24.cell hkc (by simp <;> omega)
          refine DL.nil ?_
          show DC _ _ _ _ _ _
          refine DC.seq ?_
          refine DC.tail 17 F.mixed (by kernel_rfl) ?_
          intro w25 f26 hsw25
          replace FR := FR.tr0 f26
          replace G21 := G21.tr0 f26
          replace HG21 := HG21.tr0 f26
          replace hR := hR.fr f26 (by intro x hx; simp <;> omega)
          replace hT := hT.fr f26 (by intro x hx; simp <;> omega)
          replace hb4 := f26.blk0 hb4
          replace hi4 := Nat.lt_of_lt_of_le hi4 f26.size
          replace hkc := f26.cell hkc (by simp <;> omega)
          replace hb := f26.blk0 hb
          refine DS.y rfl rfl (Y.move) ?_
          have hk3 : i2 - 1 < keys.length := by omega
          obtain ⟨g3, hg3⟩ : ∃ g, g = (decide ((i2 : Int) = 0) || Op.bytesLess (keys[i2 - 1]'hk3).toList (keys[i2]'hk2).toList) := ⟨_, rfl⟩
          refine DS.cut 16 [(148, 163)] 163 (.bool g3) (fun w' => w' = w25) rfl ?_ ?_
          ·refine DS.y rfl rfl (Y.move) ?_
           refine DS.if rfl rfl (Y.eq rfl rfl) (fun c149 => ?_) (fun c149 => ?_)
           ·refine DS.y rfl rfl (Y.move) ?_
            refine DS.skip rfl rfl ?_
            refine DS.skip rfl rfl ?_
            refine DS.skip rfl rfl ?_
            refine DS.skip rfl rfl ?_
            refine DS.skip rfl rfl ?_
            refine DS.skip rfl rfl ?_
            refine DS.skip rfl rfl ?_
            refine DS.skip rfl rfl ?_
            refine DS.skip rfl rfl ?_
            refine DS.skip rfl rfl ?_
            refine DS.skip rfl rfl ?_
            refine DS.skip rfl rfl ?_
            refine DS.y rfl rfl (Y.pickT rfl) ?_
            exact DS.nil ⟨by (show Value.bool _ = Value.bool _; rw [hg3]; simp only [decide_eq_true c149]; first | done | rfl), trivial⟩
           ·refine DS.y rfl rfl (Y.move) ?_
            refine DS.y rfl rfl (Y.field F.fd26_4 rfl) ?_
            refine DS.y rfl rfl (Y.loadB F.sc24 rfl hb4 rfl) ?_
            refine DS.y rfl rfl (Y.move) ?_
            refine DS.y rfl rfl (Y.subI (c := (i2 : Int) - 1) rfl rfl (by omega) (by omega) (by omega)) ?_
            have hi3 : (i2 : Int) - 1 = ((i2 - 1 : Nat) : Int) := by omega
            obtain ⟨bs', os', hsome, _, hkc1, _⟩ := hR.keyAt hk3
            simp only [Option.some.injEq, Addr.mk.injEq, and_true] at hsome
            obtain ⟨rfl, rfl⟩ := hsome
            refine DS.y rfl rfl (Y.index F.sl24 rfl rfl (hi3) (hk3)) ?_
            refine DS.y rfl rfl (Y.load F.sc9 rfl hkc1) ?_
            refine DS.y rfl rfl (Y.field F.fd26_4 rfl) ?_
            refine DS.y rfl rfl (Y.loadB F.sc24 rfl hb4 rfl) ?_
            refine DS.y rfl rfl (Y.move) ?_
            refine DS.y rfl rfl (Y.index F.sl24 rfl rfl (rfl) (hk2)) ?_
            refine DS.y rfl rfl (Y.load F.sc9 rfl hkc) ?_
            refine DS.ifb rfl rfl (Y.slt rfl rfl) (fun c162 => ?_) (fun c162 => ?_)
            ·refine DS.y rfl rfl (Y.pickF rfl) ?_
             exact DS.nil ⟨by (show Value.bool _ = Value.bool _; rw [hg3]; simp only [decide_eq_false c149, c162]; first | done | rfl), trivial⟩
            ·refine DS.y rfl rfl (Y.pickF rfl) ?_
             exact DS.nil ⟨by (show Value.bool _ = Value.bool _; rw [hg3]; simp only [decide_eq_false c149, c162]; first | done | rfl), trivial⟩
          ·intro j
           refine DS.nil ?_
           show DL _ _ _ _ _ _ _
           refine DL.call rfl rfl F.nm87 rfl (want_any b _ _ _ _ _ hb) ?_
           rintro _ w28 f29 hb
           replace FR := FR.put f29 (by intro i hi; simp only [List.mem_cons, List.mem_singleton, List.not_mem_nil, or_false] at hi; rcases hi with rfl; all_goals (first | (left; simp; done) | (right; omega)))
           replace G21 := G21.put f29 (by intro i hi; simp only [List.mem_cons, List.mem_singleton, List.not_mem_nil, or_false] at hi; rcases hi with rfl; all_goals (first | (left; simp; done) | (right; omega)))
           replace HG21 := HG21.put f29 (by intro i hi; simp only [List.mem_cons, List.mem_singleton, List.not_mem_nil, or_false] at hi; rcases hi with rfl; all_goals (first | (left; simp; done) | (right; omega)))
           replace hR := hR.fr f29 (by intro x hx; simp <;> omega)
           replace hT := hT.fr f29 (by intro x hx; simp <;> omega)
           replace hb4 := f29.blk hb4 (by simp only [List.mem_cons, List.not_mem_nil, or_false, not_or]; omega)
           replace hi4 := Nat.lt_of_lt_of_le hi4 f29.size
           replace hkc := f29.cell hkc (by simp <;> omega)
           refine DL.nil ?_
           show DC _ _ _ _ _ _
           refine DC.region ?_
           refine DL.y rfl rfl (Y.move) ?_
           refine DL.y rfl rfl (Y.field F.fd26_5 rfl) ?_
           refine DL.y rfl rfl (Y.loadB F.sc23 rfl hb4 rfl) ?_
           refine DL.y rfl rfl (Y.move) ?_
           have hkv : keys.length = vals.length := by obtain ⟨q1, _⟩ := hx8 rfl; exact (n1_spec (hg1.symm.trans q1.1.1.1)).2.2.2.2.2
           have hv2 : i2 < vals.length := by omega
           obtain ⟨bv', ov, cl2, rfl, hbv, hcl2, hcs2, hRv⟩ := hR.valAt hv2
           have hle2 : vals[i2].nodes ≤ m := by have := nodes_le hv2; simp only [V.nodes] at hm; omega
           have hx10' : (bad9 || !g3) = false → 0 ≤ p8 ∧ p8 ≤ 400 ∧ 0 ≤ n9 ∧ n9 ≤ 2000 := fun h => by simp only [Bool.or_eq_false_iff, Bool.not_eq_false'] at h; obtain ⟨h1, h2⟩ := h; obtain ⟨r1, r2, r3, r4⟩ := hx9 h1; obtain ⟨q1, q2, q3, q4, q5, q6, q7, q8⟩ := hx8 rfl; obtain ⟨q9, q10, q11, q12⟩ := hx q1.1.2; omega
           refine DL.y rfl rfl (Y.index F.sl23 rfl rfl (rfl) (hv2)) ?_
           refine DL.y rfl rfl (Y.loadAn hcs2 F.ag26 rfl hcl2) ?_
           refine DL.y rfl rfl (Y.move) ?_
           refine DL.y rfl rfl (Y.addI rfl rfl (rfl) (by omega) (by omega)) ?_
           refine DL.call rfl rfl F.nm45 rfl (ih _ _ b B _ _ _ _ _ hle2 hRv hB h2 hT hb hx10' (by omega) (by omega)) ?_
           rintro _ w30 f31 ⟨p11, n11, bad11, hb, hx11⟩
           replace FR := FR.put f31 (by intro i hi; simp only [List.mem_cons, List.mem_singleton, List.not_mem_nil, or_false] at hi; rcases hi with rfl; all_goals (first | (left; simp; done) | (right; omega)))
           replace G21 := G21.put f31 (by intro i hi; simp only [List.mem_cons, List.mem_singleton, List.not_mem_nil, or_false] at hi; rcases hi with rfl; all_goals (first | (left; simp; done) | (right; omega)))
           replace HG21 := HG21.put f31 (by intro i hi; simp only [List.mem_cons, List.mem_singleton, List.not_mem_nil, or_false] at hi; rcases hi with rfl; all_goals (first | (left; simp; done) | (right; omega)))
           replace hR := hR.fr f31 (by intro x hx; simp <;> omega)
           replace hT := hT.fr f31 (by intro x hx; simp <;> omega)
           replace hb4 := f31.blk hb4 (by simp only [List.mem_cons, List.not_mem_nil, or_false, not_or]; omega)
           replace hi4 := Nat.lt_of_lt_of_le hi4 f31.size
           replace hkc := f31.cell hkc (by simp <;> omega)
           refine DL.nil ?_
           show DC _ _ _ _ _ _
           refine DC.region ?_
           refine DL.y rfl rfl (Y.move) ?_
           refine DL.y rfl rfl (Y.addI (c := ((i2 + 1 : Nat) : Int)) rfl rfl (by omega) (by omega) (by omega)) ?_
           refine DL.y rfl rfl (Y.assign) ?_
           refine DL.nil ?_
           refine ⟨(i2 + 1, p11, n11, bad11), ⟨G21, hk2, hb, fun h => ?_⟩, by show keys.length - (i2 + 1) < keys.length - i2; omega, rfl⟩
           obtain ⟨e1, e2, e3, e4, e5, e6⟩ := hx11 h
           simp only [Bool.or_eq_false_iff, Bool.not_eq_false'] at e1
           obtain ⟨e1, e7⟩ := e1
           obtain ⟨r1, r2, r3, r4⟩ := hx9 e1
           obtain ⟨q1, q2, q3, q4, q5, q6, q7, q8⟩ := hx8 r1
           refine ⟨q1, fun i hi hik => ?_, fun i hi hik => ?_, fun i hi hik => ?_, ?_, ?_, e5, e6⟩
           ·by_cases h' : i = i2
            ·subst h'; exact r4
            ·exact q2 i hi (by omega)
           ·by_cases h' : i + 1 = i2
            ·subst h'
             rw [e7] at hg3
             have h3 := hg3.symm
             simp only [Bool.or_eq_true, decide_eq_true_eq] at h3
             rcases h3 with h3 | h3
             ·omega
             ·simpa using h3
            ·exact q3 i hi (by omega)
           ·by_cases h' : i = i2
            ·subst h'; exact e2
            ·exact q4 i hi (by omega)
           ·rw [nodesL_take hv2, e3, q5]; push_cast; omega
           ·rw [bytesL_take hv2, bytesK_take hk2, e4, r2, q6]; push_cast; omega
         ·refine DC.exit ?_
          refine FinQ.end0 (Ret.mk FR ⟨p8, n8, bad8, hb, fun h => ?_⟩)
          obtain ⟨q1, q2, q3, q4, q5, q6, q7, q8⟩ := hx8 h
          have e : i2 = keys.length := by subst h; simp at c137; omega
          subst e
          obtain ⟨s1, s2, s3, s4, s5, s6⟩ := n1_spec (hg1.symm.trans q1.1.1.1)
          obtain ⟨s7, s8⟩ := n2_spec (hg2.symm.trans q1.1.1.2.1)
          rw [s6, List.take_length] at q5
          rw [List.take_length, s6, List.take_length] at q6
          exact ⟨q1.1.2, .mk ⟨s1, s2, s3, s4, s5, s6, s7, s8, q1.1.1.2.2, fun i hi => q2 i hi hi, fun i hi => q3 i hi hi⟩ q1.2 (fun i hi => q4 i hi (by omega)), by simp only [V.nodes]; push_cast; omega, by simp only [V.bytes]; push_cast; omega, q7, q8⟩


theorem value_any : ∀ m, ValueC m
 | 0 => fun v cs b B p n d bad w hm => by have := nodes_pos v; omega
 | m + 1 => value_step m (value_any m)

end Go.Proofs.YtmbleojlnaofjaaGreatDoor

/- Which values fit. -/
namespace Go.Proofs.YtmbleojlnaofjaaGreatDoor
open Go Go.RowKit D
set_option linter.unusedVariables false
set_option linter.unusedSimpArgs false

theorem zzFits2_any (keys : List ByteArray) (a : Option Addr) (kc B : Nat) (w : World) (hR : RVK w B a keys) (hn : keys.length ≤ 140737488351232) :
  Calls Tryz.prog 24 #[.slice a keys.length kc] w (Ret w [] fun v _ => ∃ r, v = .bool r) := by
 refine calls_of Tryz.func24 rfl rfl rfl rfl ?_
 have FR := Fr.refl [] w
 refine DC.seq ?_
 refine DC.region ?_
 refine DL.y rfl rfl (Y.assign) ?_
 refine DL.nil ?_
 show DC _ _ _ _ _ _
 refine DC.seq ?_
 refine DC.seq ?_
 refine DC.region ?_
 refine DL.y rfl rfl (Y.move) ?_
 refine DL.y rfl rfl (Y.lenS Tryz.underlying24 rfl) ?_
 refine DL.if rfl rfl (Y.gt rfl rfl) (fun c7 => ?_) (fun c7 => ?_)
 ·refine DL.nil ?_
  show DC _ _ _ _ _ _
  refine DC.condT rfl ?_
  refine DC.seq ?_
  refine DC.region ?_
  refine DL.y rfl rfl (Y.assign) ?_
  refine DL.nil ?_
  show DC _ _ _ _ _ _
  refine DC.ret ?_
  exact FinQ.ret1 rfl (Ret.mk FR ⟨_, rfl⟩)
 ·refine DL.nil ?_
  show DC _ _ _ _ _ _
  refine DC.condF rfl ?_
  refine DC.skip ?_
  show DC _ _ _ _ _ _
  refine DC.seq ?_
  refine DC.seq ?_
  refine DC.region ?_
  refine DL.y rfl rfl (Y.move) ?_
  refine DL.y rfl rfl (Y.lenS Tryz.underlying24 rfl) ?_
  refine DL.y rfl rfl (Y.move) ?_
  refine DL.nil ?_
  show DC _ _ _ _ _ _
  refine DC.block ?_
  refine DC.loop (σ := Nat) [(2, 2), (4, 4), (10, 17)] (fun k => [(10, .int .i64 (k : Int))]) (fun sg wl => Fr [] w wl ∧ (fun k w' => k ≤ keys.length) sg wl) (fun k => keys.length - k) (0) rfl ?_ ?_ ?_
  ·exact rfl
  ·exact ⟨Fr.refl _ _, Nat.zero_le _⟩
  ·rintro k j w1 ⟨f2, hk0⟩
   replace FR := FR.tr0 f2
   replace hR := hR.fr f2 (by intro x hx; simp <;> omega)
   have G3 := f2
   have HG3 := Fr.refl [] w1
   refine DC.seq ?_
   refine DC.region ?_
   refine DL.if rfl rfl (Y.lt rfl rfl) (fun c11 => ?_) (fun c11 => ?_)
   ·have hk : k < keys.length := by omega
    obtain ⟨bs, os, rfl, hbs, hkc, hks⟩ := hR k hk
    refine DL.nil ?_
    show DC _ _ _ _ _ _
    refine DC.seq ?_
    refine DC.condT rfl ?_
    refine DC.skip ?_
    show DC _ _ _ _ _ _
    refine DC.seq ?_
    refine DC.block ?_
    refine DC.seq ?_
    refine DC.region ?_
    refine DL.y rfl rfl (Y.index F.sl24 rfl rfl (rfl) (hk)) ?_
    refine DL.y rfl rfl (Y.load F.sc9 rfl hkc) ?_
    refine DL.y rfl rfl (Y.assign) ?_
    refine DL.nil ?_
    show DC _ _ _ _ _ _
    refine DC.seq ?_
    refine DC.region ?_
    refine DL.y rfl rfl (Y.move) ?_
    refine DL.y rfl rfl (Y.lenStr Tryz.underlying9 rfl) ?_
    refine DL.if rfl rfl (Y.gt rfl rfl) (fun c16 => ?_) (fun c16 => ?_)
    ·refine DL.nil ?_
     show DC _ _ _ _ _ _
     refine DC.condT rfl ?_
     refine DC.seq ?_
     refine DC.region ?_
     refine DL.y rfl rfl (Y.assign) ?_
     refine DL.nil ?_
     show DC _ _ _ _ _ _
     refine DC.ret ?_
     exact FinQ.ret1 rfl (Ret.mk FR ⟨_, rfl⟩)
    ·refine DL.nil ?_
     show DC _ _ _ _ _ _
     refine DC.condF rfl ?_
     refine DC.skip ?_
     show DC _ _ _ _ _ _
     refine DC.region ?_
     refine DL.y rfl rfl (Y.addI (c := ((k + 1 : Nat) : Int)) rfl rfl (by omega) (by omega) (by omega)) ?_
     refine DL.y rfl rfl (Y.move) ?_
     refine DL.nil ?_
     exact ⟨k + 1, ⟨G3, hk⟩, by show keys.length - (k + 1) < keys.length - k; omega, rfl⟩
   ·refine DL.nil ?_
    show DC _ _ _ _ _ _
    refine DC.seq ?_
    refine DC.condF rfl ?_
    refine DC.exit ?_
    show DC _ _ _ _ _ _
    refine DC.seq ?_
    refine DC.region ?_
    refine DL.y rfl rfl (Y.assign) ?_
    refine DL.nil ?_
    show DC _ _ _ _ _ _
    refine DC.ret ?_
    exact FinQ.ret1 rfl (Ret.mk FR ⟨_, rfl⟩)

theorem zzFits1_any (v : V) (cs : Array Value) (B : Nat) (w : World) (hR : RV w B v cs) (hB : B ≤ w.heap.size) : Calls Tryz.prog 7 #[.agg cs] w (Ret w [] fun v _ => ∃ r, v = .bool r) := by
 obtain ⟨kind, half, text, list, keys, vals⟩ := v
 obtain ⟨la, lc, ka, kc, va, vc, rfl⟩ := hR.shape
 obtain ⟨bt, bl, bk, bv, bkind, bhalf⟩ := hR.bounds
 refine calls_of Tryz.func7 rfl rfl rfl rfl ?_
 have FR := Fr.refl [] w
 refine DC.seq ?_
 refine DC.region ?_
 refine DL.boxA rfl rfl rfl ?_
 intro b1 w1 f2 lo1 hi1 hb1
 replace lo1 := Nat.le_trans FR.size lo1
 replace FR := FR.tr0 f2
 replace hR := hR.fr f2 (by intro x hx; simp <;> omega)
 refine DL.y rfl rfl (Y.assign) ?_
 refine DL.nil ?_
 show DC _ _ _ _ _ _
 refine DC.seq ?_
 refine DC.seq ?_
 refine DC.region ?_
 refine DL.y rfl rfl (Y.field F.fd26_2 rfl) ?_
 refine DL.y rfl rfl (Y.loadB F.sc9 rfl hb1 rfl) ?_
 refine DL.y rfl rfl (Y.lenStr Tryz.underlying9 rfl) ?_
 refine DL.if rfl rfl (Y.gt rfl rfl) (fun c6 => ?_) (fun c6 => ?_)
 ·refine DL.nil ?_
  show DC _ _ _ _ _ _
  refine DC.condT rfl ?_
  refine DC.seq ?_
  refine DC.region ?_
  refine DL.y rfl rfl (Y.assign) ?_
  refine DL.nil ?_
  show DC _ _ _ _ _ _
  refine DC.ret ?_
  exact FinQ.ret1 rfl (Ret.mk FR ⟨_, rfl⟩)
 ·refine DL.nil ?_
  show DC _ _ _ _ _ _
  refine DC.condF rfl ?_
  refine DC.skip ?_
  show DC _ _ _ _ _ _
  refine DC.seq ?_
  refine DC.seq ?_
  refine DC.region ?_
  refine DL.y rfl rfl (Y.field F.fd26_3 rfl) ?_
  refine DL.y rfl rfl (Y.loadB F.sc23 rfl hb1 rfl) ?_
  refine DL.y rfl rfl (Y.lenS Tryz.underlying23 rfl) ?_
  refine DL.if rfl rfl (Y.gt rfl rfl) (fun c10 => ?_) (fun c10 => ?_)
  ·refine DL.nil ?_
   show DC _ _ _ _ _ _
   refine DC.condT rfl ?_
   refine DC.seq ?_
   refine DC.region ?_
   refine DL.y rfl rfl (Y.assign) ?_
   refine DL.nil ?_
   show DC _ _ _ _ _ _
   refine DC.ret ?_
   exact FinQ.ret1 rfl (Ret.mk FR ⟨_, rfl⟩)
  ·refine DL.nil ?_
   show DC _ _ _ _ _ _
   refine DC.condF rfl ?_
   refine DC.skip ?_
   show DC _ _ _ _ _ _
   refine DC.seq ?_
   refine DC.seq ?_
   refine DC.region ?_
   refine DL.y rfl rfl (Y.field F.fd26_4 rfl) ?_
   refine DL.y rfl rfl (Y.loadB F.sc24 rfl hb1 rfl) ?_
   refine DL.call rfl rfl F.nm24 rfl (zzFits2_any keys _ _ B _ hR.keys bk) ?_
   rintro _ w3 f4 ⟨r, rfl⟩
   replace FR := FR.tr0 f4
   replace hR := hR.fr f4 (by intro x hx; simp <;> omega)
   replace hb1 := f4.blk0 hb1
   replace hi1 := Nat.lt_of_lt_of_le hi1 f4.size
   refine DL.y rfl rfl (Y.not rfl) ?_
   refine DL.nil ?_
   show DC _ _ _ _ _ _
   refine DC.cond rfl (fun c14 => ?_) (fun c14 => ?_)
   ·refine DC.seq ?_
    refine DC.region ?_
    refine DL.y rfl rfl (Y.assign) ?_
    refine DL.nil ?_
    show DC _ _ _ _ _ _
    refine DC.ret ?_
    exact FinQ.ret1 rfl (Ret.mk FR ⟨_, rfl⟩)
   ·refine DC.skip ?_
    show DC _ _ _ _ _ _
    refine DC.seq ?_
    refine DC.seq ?_
    refine DC.region ?_
    refine DL.y rfl rfl (Y.field F.fd26_5 rfl) ?_
    refine DL.y rfl rfl (Y.loadB F.sc23 rfl hb1 rfl) ?_
    refine DL.y rfl rfl (Y.lenS Tryz.underlying23 rfl) ?_
    refine DL.if rfl rfl (Y.gt rfl rfl) (fun c18 => ?_) (fun c18 => ?_)
    ·refine DL.nil ?_
     show DC _ _ _ _ _ _
     refine DC.condT rfl ?_
     refine DC.seq ?_
     refine DC.region ?_
     refine DL.y rfl rfl (Y.assign) ?_
     refine DL.nil ?_
     show DC _ _ _ _ _ _
     refine DC.ret ?_
     exact FinQ.ret1 rfl (Ret.mk FR ⟨_, rfl⟩)
    ·refine DL.nil ?_
     show DC _ _ _ _ _ _
     refine DC.condF rfl ?_
     refine DC.skip ?_
     show DC _ _ _ _ _ _
     refine DC.seq ?_
     refine DC.region ?_
     refine DL.y rfl rfl (Y.assign) ?_
     refine DL.nil ?_
     show DC _ _ _ _ _ _
     refine DC.ret ?_
     exact FinQ.ret1 rfl (Ret.mk FR ⟨_, rfl⟩)

theorem Fit_any (v : V) (cs : Array Value) (B : Nat) (w : World) (hR : RV w B v cs) (hB : B ≤ w.heap.size) (h2 : 2 ≤ B) (hT : Tabs w) : Calls Tryz.prog 25 #[.agg cs] w (Ret w [] fun r _ => ∃ ok, r = .bool ok ∧ (ok = true → Good v ∧ v.nodes ≤ 400 ∧ v.bytes ≤ 2000)) := by
 obtain ⟨kind, half, text, list, keys, vals⟩ := v
 obtain ⟨la, lc, ka, kc, va, vc, rfl⟩ := hR.shape
 refine calls_of Tryz.func25 rfl rfl rfl rfl ?_
 have FR := Fr.refl [] w
 refine DC.seq ?_
 refine DC.region ?_
 refine DL.boxA rfl rfl rfl ?_
 intro b1 w1 f2 lo1 hi1 hb1
 replace lo1 := Nat.le_trans FR.size lo1
 replace FR := FR.tr0 f2
 replace hR := hR.fr f2 (by intro x hx; simp <;> omega)
 replace hT := hT.fr f2 (by intro x hx; simp <;> omega)
 refine DL.y rfl rfl (Y.assign) ?_
 refine DL.nil ?_
 show DC _ _ _ _ _ _
 refine DC.seq ?_
 refine DC.region ?_
 refine DL.y rfl rfl (Y.build (cs := lk 0 0 false) (by kernel_rfl)) ?_
 refine DL.boxA rfl rfl rfl ?_
 intro b5 w3 f4 lo5 hi5 hb5
 have lt_b1_b5 : b1 < b5 := Nat.lt_of_lt_of_le hi1 lo5
 replace lo5 := Nat.le_trans FR.size lo5
 replace FR := FR.tr0 f4
 replace hR := hR.fr f4 (by intro x hx; simp <;> omega)
 replace hT := hT.fr f4 (by intro x hx; simp <;> omega)
 replace hb1 := f4.blk0 hb1
 replace hi1 := Nat.lt_of_lt_of_le hi1 f4.size
 refine DL.y rfl rfl (Y.assign) ?_
 refine DL.nil ?_
 show DC _ _ _ _ _ _
 refine DC.seq ?_
 refine DC.region ?_
 refine DL.y rfl rfl (Y.move) ?_
 refine DL.y rfl rfl (Y.loadW rfl hb1 F.ag26) ?_
 refine DL.call rfl rfl F.nm45 rfl (value_any _ _ _ b5 B 0 0 0 false _ (Nat.le_refl _) hR (by omega) h2 hT hb5 (fun _ => by omega) (by omega) (by omega)) ?_
 rintro _ w5 f6 ⟨p1, n1, bad1, hb5, hx⟩
 replace FR := FR.put f6 (by intro i hi; simp only [List.mem_cons, List.mem_singleton, List.not_mem_nil, or_false] at hi; rcases hi with rfl; all_goals (first | (left; simp; done) | (right; omega)))
 replace hR := hR.fr f6 (by intro x hx; simp <;> omega)
 replace hT := hT.fr f6 (by intro x hx; simp <;> omega)
 replace hb1 := f6.blk hb1 (by simp only [List.mem_cons, List.not_mem_nil, or_false, not_or]; omega)
 replace hi1 := Nat.lt_of_lt_of_le hi1 f6.size
 replace hi5 := Nat.lt_of_lt_of_le hi5 f6.size
 refine DL.nil ?_
 show DC _ _ _ _ _ _
 refine DC.seq ?_
 refine DC.region ?_
 refine DL.y rfl rfl (Y.move) ?_
 refine DL.y rfl rfl (Y.nil rfl) ?_
 refine DL.y rfl rfl (Y.field F.fd67_2 rfl) ?_
 refine DL.y rfl rfl (Y.loadB F.sc4 rfl hb5 rfl) ?_
 refine DL.y rfl rfl (Y.not rfl) ?_
 refine DL.y rfl rfl (Y.assign) ?_
 refine DL.nil ?_
 show DC _ _ _ _ _ _
 refine DC.ret ?_
 refine FinQ.ret1 rfl (Ret.mk FR ⟨_, rfl, fun h => ?_⟩)
 obtain ⟨q1, q2, q3, q4, q5, q6⟩ := hx (by simpa using h)
 exact ⟨q2, by omega, by omega⟩


theorem Good.kind0 {kind half : Int} {text : ByteArray} {list : List V} {keys : List ByteArray} {vals : List V} (h : Good (.mk kind half text list keys vals)) : 0 ≤ kind := by cases h with | mk n _ _ => exact n.krange.1

end Go.Proofs.YtmbleojlnaofjaaGreatDoor

/- The walks of spec.digits and spec.figures. -/
namespace Go.Proofs.YtmbleojlnaofjaaGreatDoor
open Go Go.RowKit D
set_option linter.unusedVariables false
set_option linter.unusedSimpArgs false


theorem tmodN (m k : Nat) (hk : 0 < k) : (m : Int).tmod (k : Int) = ((m % k : Nat) : Int) := by
 rw [Int.tmod_eq_emod_of_nonneg (by omega)]; omega
theorem tdivN (m k : Nat) (hk : 0 < k) : (m : Int).tdiv (k : Int) = ((m / k : Nat) : Int) := by
 rw [Int.tdiv_eq_ediv_of_nonneg (by omega)]; omega
theorem digR : ∀ d, d < 10 → IntKind.i32.wrap ((48 + d : Nat) : Int) = ((48 + d : Nat) : Int) ∧ Utf8.encode ((48 + d : Nat) : Int) = ⟨#[UInt8.ofNat (48 + d)]⟩
 | 0, _ => by decide
 | 1, _ => by decide
 | 2, _ => by decide
 | 3, _ => by decide
 | 4, _ => by decide
 | 5, _ => by decide
 | 6, _ => by decide
 | 7, _ => by decide
 | 8, _ => by decide
 | 9, _ => by decide
 | d + 10, h => by omega

theorem digits_any (n0 : Nat) (hn : n0 ≤ 18014398509481984) (w : World) : Calls Tryz.prog 123 #[.int .i64 (n0 : Int)] w (Ret w [] fun v _ => ∃ b : ByteArray, v = .string b ∧ b.data.toList = decL n0) := by
 have hlen := decL_len 18 n0 (by omega)
 refine calls_of Tryz.func123 rfl rfl rfl rfl ?_
 have FR := Fr.refl [] w
 refine DC.seq ?_
 refine DC.region ?_
 refine DL.y rfl rfl (Y.assign) ?_
 refine DL.nil ?_
 show DC _ _ _ _ _ _
 refine DC.seq ?_
 refine DC.region ?_
 refine DL.y rfl rfl (Y.assign) ?_
 refine DL.nil ?_
 show DC _ _ _ _ _ _
 refine DC.seq ?_
 refine DC.block ?_
 refine DC.loop (σ := Nat × ByteArray) [(0, 0), (3, 14)] (fun (m, s) => [(0, .int .i64 (m : Int)), (3, .string s)]) (fun sg wl => Fr [] w wl ∧ (fun (m, s) wl => m ≤ n0 ∧ decL m ++ s.data.toList = decL n0) sg wl) (fun (m, _) => m) ((n0, ⟨#[]⟩)) rfl ?_ ?_ ?_
 ·exact ⟨rfl, rfl⟩
 ·exact ⟨Fr.refl _ _, Nat.le_refl _, by simp⟩
 ·rintro ⟨m, s⟩ j w1 ⟨f2, hm, heq⟩
  replace FR := FR.tr0 f2
  have G3 := f2
  have HG3 := Fr.refl [] w1
  refine DC.seq ?_
  refine DC.seq ?_
  refine DC.region ?_
  refine DL.y rfl rfl (Y.move) ?_
  refine DL.if rfl rfl (Y.ge rfl rfl) (fun c5 => ?_) (fun c5 => ?_)
  ·have h10 : 10 ≤ m := by omega
   have hsl := size_list s
   have hls := congrArg List.length heq
   rw [List.length_append] at hls
   refine DL.nil ?_
   show DC _ _ _ _ _ _
   refine DC.condT rfl ?_
   refine DC.skip ?_
   show DC _ _ _ _ _ _
   refine DC.block ?_
   refine DC.seq ?_
   refine DC.region ?_
   refine DL.y rfl rfl (Y.move) ?_
   refine DL.y rfl rfl (Y.remC (c := ((m % 10 : Nat) : Int)) rfl rfl (by decide) (tmodN m 10 (by decide))) ?_
   refine DL.y rfl rfl (Y.addI (c := ((48 + m % 10 : Nat) : Int)) rfl rfl (by omega) (by omega) (by omega)) ?_
   refine DL.y rfl rfl (Y.convC F.us3 Tryz.underlying21 rfl (digR (m % 10) (by omega)).1) ?_
   refine DL.y rfl rfl (Y.runeC F.us21 Tryz.underlying9 rfl (digR (m % 10) (by omega)).2) ?_
   refine DL.y rfl rfl (Y.move) ?_
   refine DL.catE rfl rfl rfl rfl (by rw [show (⟨#[UInt8.ofNat (48 + m % 10)]⟩ : ByteArray).size = 1 from rfl]; omega) (fun c12 h12 => ?_)
   refine DL.y rfl rfl (Y.assign) ?_
   refine DL.nil ?_
   show DC _ _ _ _ _ _
   refine DC.region ?_
   refine DL.y rfl rfl (Y.move) ?_
   refine DL.y rfl rfl (Y.quoI (c := ((m / 10 : Nat) : Int)) rfl rfl (by decide) (by rw [show (10 : Int) = ((10 : Nat) : Int) from rfl, tdivN m 10 (by decide)]; exact wrap_i64 (by omega) (by omega))) ?_
   refine DL.y rfl rfl (Y.assign) ?_
   refine DL.nil ?_
   refine ⟨(m / 10, c12), ⟨G3, by omega, ?_⟩, by show m / 10 < m; omega, rfl, rfl⟩
   rw [← heq, decL_ge h10, h12]; simp
  ·have h10 : m < 10 := by omega
   have hsl := size_list s
   have hls := congrArg List.length heq
   rw [List.length_append] at hls
   refine DL.nil ?_
   show DC _ _ _ _ _ _
   refine DC.condF rfl ?_
   refine DC.exit ?_
   show DC _ _ _ _ _ _
   refine DC.seq ?_
   refine DC.region ?_
   refine DL.y rfl rfl (Y.move) ?_
   refine DL.y rfl rfl (Y.addI (c := ((48 + m : Nat) : Int)) rfl rfl (by omega) (by omega) (by omega)) ?_
   refine DL.y rfl rfl (Y.convC F.us3 Tryz.underlying21 rfl (digR m h10).1) ?_
   refine DL.y rfl rfl (Y.runeC F.us21 Tryz.underlying9 rfl (digR m h10).2) ?_
   refine DL.y rfl rfl (Y.move) ?_
   refine DL.catE rfl rfl rfl rfl (by rw [show (⟨#[UInt8.ofNat (48 + m)]⟩ : ByteArray).size = 1 from rfl]; omega) (fun c20 h20 => ?_)
   refine DL.y rfl rfl (Y.assign) ?_
   refine DL.nil ?_
   show DC _ _ _ _ _ _
   refine DC.ret ?_
   exact FinQ.ret1 rfl (Ret.mk FR ⟨c20, rfl, by rw [← heq, decL_lt h10, h20]⟩)


theorem numL_len {h : Nat} (hh : h ≤ 18014398509481984) : (numL (h : Int)).length ≤ 30 := by
 have h1 := decL_len 18 (h / 2) (by omega)
 unfold numL
 rw [if_neg (by omega : ¬ ((h : Int) < 0)), show ((h : Int).natAbs / 2) = h / 2 by omega]
 simp only [List.nil_append, List.length_append]
 split <;> simp <;> omega
theorem Said.size {b : ByteArray} {how : Int} {l : List UInt8} (h : Said b how l) (h0 : how = 0) : b.size = l.length := by
 rcases h with ⟨_, h⟩ | h
 ·rw [size_list, h]
 ·omega

theorem figures_nat (h : Nat) (hh : h ≤ 18014398509481984) (w : World) : Calls Tryz.prog 74 #[.int .i64 (h : Int)] w (Ret w [] fun v _ => ∃ b how, v = .tuple #[.string b, .int .i64 how] ∧ Said b how (numL (h : Int)) ∧ b.size ≤ 30) := by
 have hnl := numL_len hh
 refine calls_of Tryz.func74 rfl rfl rfl rfl ?_
 have FR := Fr.refl [] w
 refine DC.seq ?_
 refine DC.region ?_
 refine DL.y rfl rfl (Y.assign) ?_
 refine DL.y rfl rfl (Y.assign) ?_
 refine DL.nil ?_
 show DC _ _ _ _ _ _
 refine DC.seq ?_
 refine DC.block ?_
 refine DC.seq ?_
 refine DC.region ?_
 refine DL.y rfl rfl (Y.move) ?_
 refine DL.if rfl rfl (Y.lt rfl rfl) (fun c8 => ?_) (fun c8 => ?_)
 ·exfalso; omega
 ·refine DL.y rfl rfl (Y.move) ?_
  refine DL.y rfl rfl (Y.move) ?_
  refine DL.if rfl rfl (Y.gt rfl rfl) (fun c11 => ?_) (fun c11 => ?_)
  ·exfalso; omega
  ·refine DL.y rfl rfl (Y.pickF rfl) ?_
   refine DL.y rfl rfl (Y.assign) ?_
   refine DL.nil ?_
   show DC _ _ _ _ _ _
   refine DC.condF rfl ?_
   refine DC.seq ?_
   refine DC.region ?_
   refine DL.y rfl rfl (Y.move) ?_
   refine DL.if rfl rfl (Y.lt rfl rfl) (fun c15 => ?_) (fun c15 => ?_)
   ·exfalso; omega
   ·refine DL.y rfl rfl (Y.assign) ?_
    refine DL.nil ?_
    show DC _ _ _ _ _ _
    refine DC.condF rfl ?_
    refine DC.seq ?_
    refine DC.region ?_
    refine DL.y rfl rfl (Y.move) ?_
    refine DL.y rfl rfl (Y.quoI (c := ((h / 2 : Nat) : Int)) rfl rfl (by decide) (by rw [show (2 : Int) = ((2 : Nat) : Int) from rfl, tdivN h 2 (by decide)]; exact wrap_i64 (by omega) (by omega))) ?_
    refine DL.if rfl rfl (Y.gt rfl rfl) (fun c28 => ?_) (fun c28 => ?_)
    ·refine DL.y rfl rfl (Y.assign) ?_
     refine DL.nil ?_
     show DC _ _ _ _ _ _
     refine DC.condT rfl ?_
     refine DC.seq ?_
     refine DC.region ?_
     refine DL.y rfl rfl (Y.assign) ?_
     refine DL.y rfl rfl (Y.assign) ?_
     refine DL.nil ?_
     show DC _ _ _ _ _ _
     refine DC.ret ?_
     exact FinQ.ret2 rfl rfl (Ret.mk FR ⟨_, _, rfl, Or.inr rfl, by decide⟩)
    ·refine DL.y rfl rfl (Y.assign) ?_
     refine DL.nil ?_
     show DC _ _ _ _ _ _
     refine DC.condF rfl ?_
     refine DC.seq ?_
     refine DC.region ?_
     refine DL.y rfl rfl (Y.move) ?_
     refine DL.y rfl rfl (Y.remC (c := ((h % 2 : Nat) : Int)) rfl rfl (by decide) (tmodN h 2 (by decide))) ?_
     refine DL.if rfl rfl (Y.ne rfl rfl) (fun c32 => ?_) (fun c32 => ?_)
     ·have hodd : h % 2 = 1 := by omega
      refine DL.y rfl rfl (Y.assign) ?_
      refine DL.nil ?_
      show DC _ _ _ _ _ _
      refine DC.condT rfl ?_
      refine DC.seq ?_
      refine DC.region ?_
      refine DL.y rfl rfl (Y.move) ?_
      refine DL.y rfl rfl (Y.quoI (c := ((h / 2 : Nat) : Int)) rfl rfl (by decide) (by rw [show (2 : Int) = ((2 : Nat) : Int) from rfl, tdivN h 2 (by decide)]; exact wrap_i64 (by omega) (by omega))) ?_
      refine DL.call rfl rfl F.nm123 rfl (digits_any (h / 2) (by omega) _) ?_
      rintro _ w1 f2 ⟨bd, rfl, hbd⟩
      replace FR := FR.tr0 f2
      refine DL.catE rfl rfl rfl rfl (by have := size_list bd; rw [hbd] at this; have := decL_len 18 (h / 2) (by omega); rw [show (⟨#[46, 53]⟩ : ByteArray).size = 2 from rfl]; omega) (fun c36 h36 => ?_)
      refine DL.y rfl rfl (Y.assign) ?_
      refine DL.y rfl rfl (Y.assign) ?_
      refine DL.nil ?_
      show DC _ _ _ _ _ _
      refine DC.ret ?_
      have hx : c36.data.toList = numL (h : Int) := by rw [h36, hbd]; simp [numL, show ¬ ((h : Int) < 0) by omega, hodd]
      exact FinQ.ret2 rfl rfl (Ret.mk FR ⟨c36, _, rfl, Or.inl ⟨rfl, hx⟩, by rw [size_list, hx]; exact hnl⟩)
     ·have heven : ¬ h % 2 = 1 := by omega
      refine DL.y rfl rfl (Y.assign) ?_
      refine DL.nil ?_
      show DC _ _ _ _ _ _
      refine DC.condF rfl ?_
      refine DC.skip ?_
      show DC _ _ _ _ _ _
      refine DC.seq ?_
      refine DC.region ?_
      refine DL.y rfl rfl (Y.move) ?_
      refine DL.y rfl rfl (Y.quoI (c := ((h / 2 : Nat) : Int)) rfl rfl (by decide) (by rw [show (2 : Int) = ((2 : Nat) : Int) from rfl, tdivN h 2 (by decide)]; exact wrap_i64 (by omega) (by omega))) ?_
      refine DL.call rfl rfl F.nm123 rfl (digits_any (h / 2) (by omega) _) ?_
      rintro _ w3 f4 ⟨bd, rfl, hbd⟩
      replace FR := FR.tr0 f4
      refine DL.y rfl rfl (Y.assign) ?_
      refine DL.y rfl rfl (Y.assign) ?_
      refine DL.nil ?_
      show DC _ _ _ _ _ _
      refine DC.ret ?_
      have hx : bd.data.toList = numL (h : Int) := by rw [hbd]; simp [numL, show ¬ ((h : Int) < 0) by omega, heven]
      exact FinQ.ret2 rfl rfl (Ret.mk FR ⟨bd, _, rfl, Or.inl ⟨rfl, hx⟩, by rw [size_list, hx]; exact hnl⟩)

theorem figures_neg (h : Nat) (h0 : 0 < h) (hh : h ≤ 18014398509481984) (w : World) : Calls Tryz.prog 74 #[.int .i64 (-(h : Int))] w (Ret w [] fun v _ => ∃ b how, v = .tuple #[.string b, .int .i64 how] ∧ Said b how (numL (-(h : Int)))) := by
 refine calls_of Tryz.func74 rfl rfl rfl rfl ?_
 have FR := Fr.refl [] w
 refine DC.seq ?_
 refine DC.region ?_
 refine DL.y rfl rfl (Y.assign) ?_
 refine DL.y rfl rfl (Y.assign) ?_
 refine DL.nil ?_
 show DC _ _ _ _ _ _
 refine DC.seq ?_
 refine DC.block ?_
 refine DC.seq ?_
 refine DC.region ?_
 refine DL.y rfl rfl (Y.move) ?_
 refine DL.if rfl rfl (Y.lt rfl rfl) (fun c8 => ?_) (fun c8 => ?_)
 ·exfalso; omega
 ·refine DL.y rfl rfl (Y.move) ?_
  refine DL.y rfl rfl (Y.move) ?_
  refine DL.if rfl rfl (Y.gt rfl rfl) (fun c11 => ?_) (fun c11 => ?_)
  ·exfalso; omega
  ·refine DL.y rfl rfl (Y.pickF rfl) ?_
   refine DL.y rfl rfl (Y.assign) ?_
   refine DL.nil ?_
   show DC _ _ _ _ _ _
   refine DC.condF rfl ?_
   refine DC.seq ?_
   refine DC.region ?_
   refine DL.y rfl rfl (Y.move) ?_
   refine DL.if rfl rfl (Y.lt rfl rfl) (fun c15 => ?_) (fun c15 => ?_)
   ·refine DL.y rfl rfl (Y.assign) ?_
    refine DL.nil ?_
    show DC _ _ _ _ _ _
    refine DC.condT rfl ?_
    refine DC.seq ?_
    refine DC.region ?_
    refine DL.y rfl rfl (Y.move) ?_
    refine DL.y rfl rfl (Y.negI (c := (h : Int)) rfl (by omega) (by omega) (by omega)) ?_
    refine DL.call rfl rfl F.nm74 rfl (figures_nat h hh _) ?_
    rintro _ w1 f2 ⟨bd, how, rfl, hsd, hbs⟩
    replace FR := FR.tr0 f2
    refine DL.y rfl rfl (Y.move) ?_
    refine DL.y rfl rfl (Y.extract rfl rfl) ?_
    refine DL.y rfl rfl (Y.extract rfl rfl) ?_
    refine DL.y rfl rfl (Y.assign) ?_
    refine DL.y rfl rfl (Y.assign) ?_
    refine DL.nil ?_
    show DC _ _ _ _ _ _
    refine DC.seq ?_
    refine DC.region ?_
    refine DL.y rfl rfl (Y.move) ?_
    refine DL.catE rfl rfl rfl rfl (by rw [show (⟨#[45]⟩ : ByteArray).size = 1 from rfl]; omega) (fun c23 h23 => ?_)
    refine DL.y rfl rfl (Y.move) ?_
    refine DL.y rfl rfl (Y.assign) ?_
    refine DL.y rfl rfl (Y.assign) ?_
    refine DL.nil ?_
    show DC _ _ _ _ _ _
    refine DC.ret ?_
    refine FinQ.ret2 rfl rfl (Ret.mk FR ⟨c23, how, rfl, hsd.imp (fun h1 => ⟨h1.1, ?_⟩) (fun h1 => h1)⟩)
    rw [h23, h1.2]
    simp [numL, show ((h : Int) < 0) = False by simp, show (-(h : Int) < 0) = True by simp; omega, h0]
   ·exfalso; omega


theorem figures_any (h : Int) (hh : -18014398509481984 ≤ h ∧ h ≤ 18014398509481984) (w : World) : Calls Tryz.prog 74 #[.int .i64 h] w (Ret w [] fun v _ => ∃ b how, v = .tuple #[.string b, .int .i64 how] ∧ Said b how (numL h)) := by
 rcases (show h < 0 ∨ 0 ≤ h by omega) with h0 | h0
 ·obtain ⟨n, rfl⟩ : ∃ n : Nat, h = -(n : Int) := ⟨h.natAbs, by omega⟩
  exact figures_neg n (by omega) (by omega) w
 ·obtain ⟨n, rfl⟩ : ∃ n : Nat, h = (n : Int) := ⟨h.toNat, by omega⟩
  exact (figures_nat n (by omega) w).mono fun e w' hx => Ret.imp (fun r w1 hf hp => by obtain ⟨b, how, h1, h2, h3⟩ := hp; exact ⟨b, how, h1, h2⟩) hx

end Go.Proofs.YtmbleojlnaofjaaGreatDoor

/- The walk of spec.quoted. -/
namespace Go.Proofs.YtmbleojlnaofjaaGreatDoor
open Go Go.RowKit D
set_option linter.unusedVariables false
set_option linter.unusedSimpArgs false


theorem hex_ext : ∀ d : Nat, d < 16 → ((⟨#[48, 49, 50, 51, 52, 53, 54, 55, 56, 57, 97, 98, 99, 100, 101, 102]⟩ : ByteArray).extract ((d : Int).toNat) ((((d + 1 : Nat) : Int)).toNat)) = ⟨#[hexd d]⟩ := by
 intro d hd
 have : ∀ d : Fin 16, ((⟨#[48, 49, 50, 51, 52, 53, 54, 55, 56, 57, 97, 98, 99, 100, 101, 102]⟩ : ByteArray).extract (((d.val : Nat) : Int).toNat) ((((d.val + 1 : Nat) : Int)).toNat)) = ⟨#[hexd d.val]⟩ := by decide +kernel
 exact this ⟨d, hd⟩
theorem wrap8 : ∀ d : Nat, d < 256 → IntKind.u8.wrap (d : Int) = (d : Int) := by
 intro d hd
 have : ∀ d : Fin 256, IntKind.u8.wrap ((d.val : Nat) : Int) = ((d.val : Nat) : Int) := by decide +kernel
 exact this ⟨d, hd⟩
theorem quo8 (c : UInt8) : IntKind.u8.wrap ((c.toNat : Int).tdiv 16) = ((c.toNat / 16 : Nat) : Int) := by
 have := c.toNat_lt
 rw [show (16 : Int) = ((16 : Nat) : Int) from rfl, tdivN _ 16 (by decide), wrap8 _ (by omega)]
theorem rem8 (c : UInt8) : (c.toNat : Int).tmod 16 = ((c.toNat % 16 : Nat) : Int) := tmodN _ 16 (by decide)
theorem ext1 {s : ByteArray} {i : Nat} (hi : i < s.size) : (s.extract ((i : Int).toNat) (((i : Int) + 1).toNat)).data.toList = [s[i]] := by
 have hl : i < s.data.toList.length := by simpa using hi
 have e1 : ((i : Int) + 1).toNat = i + 1 := by omega
 rw [Int.toNat_natCast, e1, ByteArray.data_extract, Array.toList_extract, List.extract_eq_take_drop, List.drop_eq_getElem_cons hl]
 simp
 rfl
theorem enc34 : Utf8.encode 34 = ⟨#[34]⟩ := by decide
theorem enc92 : Utf8.encode 92 = ⟨#[92]⟩ := by decide
theorem u8_eq {c : UInt8} {n : Nat} (hn : n < 256) (h : (c.toNat : Int) = (n : Int)) : c = UInt8.ofNat n := by
 apply UInt8.toNat_inj.1
 rw [UInt8.toNat_ofNat']; omega
theorem u8_ne {c : UInt8} {n : Nat} (hn : n < 256) (h : ¬ (c.toNat : Int) = (n : Int)) : ¬ c = UInt8.ofNat n := by
 intro hc; subst hc
 exact h (by rw [UInt8.toNat_ofNat']; omega)

set_option maxHeartbeats 1000000 in
theorem quoted_any (s : ByteArray) (hs : s.size ≤ 1000000) (w : World) : Calls Tryz.prog 75 #[.string s] w (Ret w [] fun v _ => ∃ b how, v = .tuple #[.string b, .int .i64 how] ∧ Said b how (qL s.data.toList)) := by
 have hsl := size_list s
 refine calls_of Tryz.func75 rfl rfl rfl rfl ?_
 have FR := Fr.refl [] w
 refine DC.seq ?_
 refine DC.region ?_
 refine DL.y rfl rfl (Y.assign) ?_
 refine DL.y rfl rfl (Y.assign) ?_
 refine DL.nil ?_
 show DC _ _ _ _ _ _
 refine DC.seq ?_
 refine DC.region ?_
 refine DL.y rfl rfl (Y.assign) ?_
 refine DL.nil ?_
 show DC _ _ _ _ _ _
 refine DC.seq ?_
 refine DC.seq ?_
 refine DC.region ?_
 refine DL.y rfl rfl (Y.assign) ?_
 refine DL.nil ?_
 show DC _ _ _ _ _ _
 refine DC.block ?_
 refine DC.loop (σ := Nat × ByteArray) [(2, 82)] (fun (i, out) => [(4, .string out), (5, .int .i64 (i : Int))]) (fun sg wl => Fr [] w wl ∧ (fun (i, out) wl => i ≤ s.size ∧ out.data.toList = 34 :: escT (s.data.toList.take i)) sg wl) (fun (i, _) => s.size - i) ((0, ⟨#[34]⟩)) rfl ?_ ?_ ?_
 ·exact ⟨rfl, rfl⟩
 ·exact ⟨Fr.refl _ _, Nat.zero_le _, by simp [escT]⟩
 ·rintro ⟨i, out⟩ j w1 ⟨f2, hi0, hout⟩
  replace FR := FR.tr0 f2
  have G3 := f2
  have HG3 := Fr.refl [] w1
  refine DC.seq ?_
  refine DC.seq ?_
  refine DC.region ?_
  refine DL.y rfl rfl (Y.move) ?_
  refine DL.y rfl rfl (Y.move) ?_
  refine DL.y rfl rfl (Y.lenStr Tryz.underlying9 rfl) ?_
  refine DL.if rfl rfl (Y.lt rfl rfl) (fun c10 => ?_) (fun c10 => ?_)
  ·have hi : i < s.size := by omega
   have hel := escT_len (s.data.toList.take i)
   have hel : (escT (s.data.toList.take i)).length ≤ 6 * 1000000 := by have h1 : (s.data.toList.take i).length ≤ i := by { rw [List.length_take]; omega }; omega
   have hu := s[i].toNat_lt
   refine DL.nil ?_
   show DC _ _ _ _ _ _
   refine DC.condT rfl ?_
   refine DC.skip ?_
   show DC _ _ _ _ _ _
   refine DC.seq ?_
   refine DC.block ?_
   refine DC.seq ?_
   refine DC.region ?_
   refine DL.y rfl rfl (Y.move) ?_
   refine DL.y rfl rfl (Y.move) ?_
   refine DL.y rfl rfl (Y.strIx (i := i) Tryz.underlying9 rfl rfl rfl hi) ?_
   refine DL.y rfl rfl (Y.assign) ?_
   refine DL.nil ?_
   show DC _ _ _ _ _ _
   refine DC.block ?_
   refine DC.seq ?_
   refine DC.region ?_
   refine DL.y rfl rfl (Y.move) ?_
   refine DL.if rfl rfl (Y.eq rfl rfl) (fun c25 => ?_) (fun c25 => ?_)
   ·refine DL.y rfl rfl (Y.move) ?_
    refine DL.skip rfl rfl ?_
    refine DL.skip rfl rfl ?_
    refine DL.y rfl rfl (Y.pickT rfl) ?_
    refine DL.y rfl rfl (Y.assign) ?_
    refine DL.nil ?_
    show DC _ _ _ _ _ _
    refine DC.condT rfl ?_
    refine DC.region ?_
    refine DL.y rfl rfl (Y.move) ?_
    refine DL.y rfl rfl (Y.move) ?_
    refine DL.y rfl rfl (Y.convC F.us5 Tryz.underlying21 rfl (show IntKind.i32.wrap _ = (s[i].toNat : Int) by rw [c25]; decide)) ?_
    have hqe : s[i] = 34 := u8_eq (n := 34) (by decide) c25
    have hq : (⟨#[34]⟩ : ByteArray).data.toList = [s[i]] := by rw [u8_eq (n := 34) (by decide) c25]; rfl
    refine DL.y rfl rfl (Y.runeC F.us21 Tryz.underlying9 rfl (show Utf8.encode _ = ⟨#[34]⟩ by rw [c25]; decide)) ?_
    refine DL.catE rfl rfl rfl rfl (by decide) (fun c34 h34 => ?_)
    refine DL.catE rfl rfl rfl rfl (by have := size_list out; rw [hout] at this; simp only [List.length_cons] at this; have h2 := size_list c34; rw [h34, hq] at h2; simp at h2; omega) (fun c35 h35 => ?_)
    refine DL.y rfl rfl (Y.assign) ?_
    refine DL.nil ?_
    show DC _ _ _ _ _ _
    refine DC.region ?_
    refine DL.y rfl rfl (Y.move) ?_
    refine DL.y rfl rfl (Y.addI (c := ((i + 1 : Nat) : Int)) rfl rfl (by omega) (by omega) (by omega)) ?_
    refine DL.y rfl rfl (Y.assign) ?_
    refine DL.nil ?_
    have hesc : escJ s[i] = [92, s[i]] := by
     have e25 : s[i] = 34 := u8_eq (n := 34) (by decide) c25
     rw [e25]; rfl
    exact ⟨(i + 1, c35), ⟨G3, hi, by rw [h35, h34, hout, escT_succ hi, hesc, hq]; simp [hqe]⟩, by show s.size - (i + 1) < s.size - i; omega, rfl, rfl⟩
   ·refine DL.y rfl rfl (Y.move) ?_
    refine DL.y rfl rfl (Y.move) ?_
    refine DL.if rfl rfl (Y.eq rfl rfl) (fun c28 => ?_) (fun c28 => ?_)
    ·refine DL.y rfl rfl (Y.pickF rfl) ?_
     refine DL.y rfl rfl (Y.assign) ?_
     refine DL.nil ?_
     show DC _ _ _ _ _ _
     refine DC.condT rfl ?_
     refine DC.region ?_
     refine DL.y rfl rfl (Y.move) ?_
     refine DL.y rfl rfl (Y.move) ?_
     refine DL.y rfl rfl (Y.convC F.us5 Tryz.underlying21 rfl (show IntKind.i32.wrap _ = (s[i].toNat : Int) by rw [c28]; decide)) ?_
     have hqe : s[i] = 92 := u8_eq (n := 92) (by decide) c28
     have hq : (⟨#[92]⟩ : ByteArray).data.toList = [s[i]] := by rw [u8_eq (n := 92) (by decide) c28]; rfl
     refine DL.y rfl rfl (Y.runeC F.us21 Tryz.underlying9 rfl (show Utf8.encode _ = ⟨#[92]⟩ by rw [c28]; decide)) ?_
     refine DL.catE rfl rfl rfl rfl (by decide) (fun c34 h34 => ?_)
     refine DL.catE rfl rfl rfl rfl (by have := size_list out; rw [hout] at this; simp only [List.length_cons] at this; have h2 := size_list c34; rw [h34, hq] at h2; simp at h2; omega) (fun c35 h35 => ?_)
     refine DL.y rfl rfl (Y.assign) ?_
     refine DL.nil ?_
     show DC _ _ _ _ _ _
     refine DC.region ?_
     refine DL.y rfl rfl (Y.move) ?_
     refine DL.y rfl rfl (Y.addI (c := ((i + 1 : Nat) : Int)) rfl rfl (by omega) (by omega) (by omega)) ?_
     refine DL.y rfl rfl (Y.assign) ?_
     refine DL.nil ?_
     have hesc : escJ s[i] = [92, s[i]] := by
      have e25 : ¬ s[i] = 34 := u8_ne (n := 34) (by decide) c25
      have e28 : s[i] = 92 := u8_eq (n := 92) (by decide) c28
      rw [e28]; rfl
     exact ⟨(i + 1, c35), ⟨G3, hi, by rw [h35, h34, hout, escT_succ hi, hesc, hq]; simp [hqe]⟩, by show s.size - (i + 1) < s.size - i; omega, rfl, rfl⟩
    ·refine DL.y rfl rfl (Y.pickF rfl) ?_
     refine DL.y rfl rfl (Y.assign) ?_
     refine DL.nil ?_
     show DC _ _ _ _ _ _
     refine DC.condF rfl ?_
     refine DC.seq ?_
     refine DC.region ?_
     refine DL.y rfl rfl (Y.move) ?_
     refine DL.if rfl rfl (Y.eq rfl rfl) (fun c38 => ?_) (fun c38 => ?_)
     ·refine DL.y rfl rfl (Y.assign) ?_
      refine DL.nil ?_
      show DC _ _ _ _ _ _
      refine DC.condT rfl ?_
      refine DC.region ?_
      refine DL.y rfl rfl (Y.move) ?_
      refine DL.catE rfl rfl rfl rfl (by have := size_list out; rw [hout] at this; simp only [List.length_cons] at this; rw [show (⟨#[92, 110]⟩ : ByteArray).size = 2 from rfl]; omega) (fun c40 h40 => ?_)
      refine DL.y rfl rfl (Y.assign) ?_
      refine DL.nil ?_
      show DC _ _ _ _ _ _
      refine DC.region ?_
      refine DL.y rfl rfl (Y.move) ?_
      refine DL.y rfl rfl (Y.addI (c := ((i + 1 : Nat) : Int)) rfl rfl (by omega) (by omega) (by omega)) ?_
      refine DL.y rfl rfl (Y.assign) ?_
      refine DL.nil ?_
      have hesc : escJ s[i] = [92, 110] := by
       have e25 : ¬ s[i] = 34 := u8_ne (n := 34) (by decide) c25
       have e28 : ¬ s[i] = 92 := u8_ne (n := 92) (by decide) c28
       have e38 : s[i] = 10 := u8_eq (n := 10) (by decide) c38
       rw [e38]; rfl
      exact ⟨(i + 1, c40), ⟨G3, hi, by rw [h40, hout, escT_succ hi, hesc]; simp⟩, by show s.size - (i + 1) < s.size - i; omega, rfl, rfl⟩
     ·refine DL.y rfl rfl (Y.assign) ?_
      refine DL.nil ?_
      show DC _ _ _ _ _ _
      refine DC.condF rfl ?_
      refine DC.seq ?_
      refine DC.region ?_
      refine DL.y rfl rfl (Y.move) ?_
      refine DL.if rfl rfl (Y.eq rfl rfl) (fun c43 => ?_) (fun c43 => ?_)
      ·refine DL.y rfl rfl (Y.assign) ?_
       refine DL.nil ?_
       show DC _ _ _ _ _ _
       refine DC.condT rfl ?_
       refine DC.region ?_
       refine DL.y rfl rfl (Y.move) ?_
       refine DL.catE rfl rfl rfl rfl (by have := size_list out; rw [hout] at this; simp only [List.length_cons] at this; rw [show (⟨#[92, 116]⟩ : ByteArray).size = 2 from rfl]; omega) (fun c45 h45 => ?_)
       refine DL.y rfl rfl (Y.assign) ?_
       refine DL.nil ?_
       show DC _ _ _ _ _ _
       refine DC.region ?_
       refine DL.y rfl rfl (Y.move) ?_
       refine DL.y rfl rfl (Y.addI (c := ((i + 1 : Nat) : Int)) rfl rfl (by omega) (by omega) (by omega)) ?_
       refine DL.y rfl rfl (Y.assign) ?_
       refine DL.nil ?_
       have hesc : escJ s[i] = [92, 116] := by
        have e25 : ¬ s[i] = 34 := u8_ne (n := 34) (by decide) c25
        have e28 : ¬ s[i] = 92 := u8_ne (n := 92) (by decide) c28
        have e38 : ¬ s[i] = 10 := u8_ne (n := 10) (by decide) c38
        have e43 : s[i] = 9 := u8_eq (n := 9) (by decide) c43
        rw [e43]; rfl
       exact ⟨(i + 1, c45), ⟨G3, hi, by rw [h45, hout, escT_succ hi, hesc]; simp⟩, by show s.size - (i + 1) < s.size - i; omega, rfl, rfl⟩
      ·refine DL.y rfl rfl (Y.assign) ?_
       refine DL.nil ?_
       show DC _ _ _ _ _ _
       refine DC.condF rfl ?_
       refine DC.seq ?_
       refine DC.region ?_
       refine DL.y rfl rfl (Y.move) ?_
       refine DL.if rfl rfl (Y.eq rfl rfl) (fun c48 => ?_) (fun c48 => ?_)
       ·refine DL.y rfl rfl (Y.assign) ?_
        refine DL.nil ?_
        show DC _ _ _ _ _ _
        refine DC.condT rfl ?_
        refine DC.region ?_
        refine DL.y rfl rfl (Y.move) ?_
        refine DL.catE rfl rfl rfl rfl (by have := size_list out; rw [hout] at this; simp only [List.length_cons] at this; rw [show (⟨#[92, 114]⟩ : ByteArray).size = 2 from rfl]; omega) (fun c50 h50 => ?_)
        refine DL.y rfl rfl (Y.assign) ?_
        refine DL.nil ?_
        show DC _ _ _ _ _ _
        refine DC.region ?_
        refine DL.y rfl rfl (Y.move) ?_
        refine DL.y rfl rfl (Y.addI (c := ((i + 1 : Nat) : Int)) rfl rfl (by omega) (by omega) (by omega)) ?_
        refine DL.y rfl rfl (Y.assign) ?_
        refine DL.nil ?_
        have hesc : escJ s[i] = [92, 114] := by
         have e25 : ¬ s[i] = 34 := u8_ne (n := 34) (by decide) c25
         have e28 : ¬ s[i] = 92 := u8_ne (n := 92) (by decide) c28
         have e38 : ¬ s[i] = 10 := u8_ne (n := 10) (by decide) c38
         have e43 : ¬ s[i] = 9 := u8_ne (n := 9) (by decide) c43
         have e48 : s[i] = 13 := u8_eq (n := 13) (by decide) c48
         rw [e48]; rfl
        exact ⟨(i + 1, c50), ⟨G3, hi, by rw [h50, hout, escT_succ hi, hesc]; simp⟩, by show s.size - (i + 1) < s.size - i; omega, rfl, rfl⟩
       ·refine DL.y rfl rfl (Y.assign) ?_
        refine DL.nil ?_
        show DC _ _ _ _ _ _
        refine DC.condF rfl ?_
        refine DC.seq ?_
        refine DC.region ?_
        refine DL.y rfl rfl (Y.move) ?_
        refine DL.if rfl rfl (Y.eq rfl rfl) (fun c53 => ?_) (fun c53 => ?_)
        ·refine DL.y rfl rfl (Y.assign) ?_
         refine DL.nil ?_
         show DC _ _ _ _ _ _
         refine DC.condT rfl ?_
         refine DC.region ?_
         refine DL.y rfl rfl (Y.move) ?_
         refine DL.catE rfl rfl rfl rfl (by have := size_list out; rw [hout] at this; simp only [List.length_cons] at this; rw [show (⟨#[92, 98]⟩ : ByteArray).size = 2 from rfl]; omega) (fun c55 h55 => ?_)
         refine DL.y rfl rfl (Y.assign) ?_
         refine DL.nil ?_
         show DC _ _ _ _ _ _
         refine DC.region ?_
         refine DL.y rfl rfl (Y.move) ?_
         refine DL.y rfl rfl (Y.addI (c := ((i + 1 : Nat) : Int)) rfl rfl (by omega) (by omega) (by omega)) ?_
         refine DL.y rfl rfl (Y.assign) ?_
         refine DL.nil ?_
         have hesc : escJ s[i] = [92, 98] := by
          have e25 : ¬ s[i] = 34 := u8_ne (n := 34) (by decide) c25
          have e28 : ¬ s[i] = 92 := u8_ne (n := 92) (by decide) c28
          have e38 : ¬ s[i] = 10 := u8_ne (n := 10) (by decide) c38
          have e43 : ¬ s[i] = 9 := u8_ne (n := 9) (by decide) c43
          have e48 : ¬ s[i] = 13 := u8_ne (n := 13) (by decide) c48
          have e53 : s[i] = 8 := u8_eq (n := 8) (by decide) c53
          rw [e53]; rfl
         exact ⟨(i + 1, c55), ⟨G3, hi, by rw [h55, hout, escT_succ hi, hesc]; simp⟩, by show s.size - (i + 1) < s.size - i; omega, rfl, rfl⟩
        ·refine DL.y rfl rfl (Y.assign) ?_
         refine DL.nil ?_
         show DC _ _ _ _ _ _
         refine DC.condF rfl ?_
         refine DC.seq ?_
         refine DC.region ?_
         refine DL.y rfl rfl (Y.move) ?_
         refine DL.if rfl rfl (Y.eq rfl rfl) (fun c58 => ?_) (fun c58 => ?_)
         ·refine DL.y rfl rfl (Y.assign) ?_
          refine DL.nil ?_
          show DC _ _ _ _ _ _
          refine DC.condT rfl ?_
          refine DC.region ?_
          refine DL.y rfl rfl (Y.move) ?_
          refine DL.catE rfl rfl rfl rfl (by have := size_list out; rw [hout] at this; simp only [List.length_cons] at this; rw [show (⟨#[92, 102]⟩ : ByteArray).size = 2 from rfl]; omega) (fun c60 h60 => ?_)
          refine DL.y rfl rfl (Y.assign) ?_
          refine DL.nil ?_
          show DC _ _ _ _ _ _
          refine DC.region ?_
          refine DL.y rfl rfl (Y.move) ?_
          refine DL.y rfl rfl (Y.addI (c := ((i + 1 : Nat) : Int)) rfl rfl (by omega) (by omega) (by omega)) ?_
          refine DL.y rfl rfl (Y.assign) ?_
          refine DL.nil ?_
          have hesc : escJ s[i] = [92, 102] := by
           have e25 : ¬ s[i] = 34 := u8_ne (n := 34) (by decide) c25
           have e28 : ¬ s[i] = 92 := u8_ne (n := 92) (by decide) c28
           have e38 : ¬ s[i] = 10 := u8_ne (n := 10) (by decide) c38
           have e43 : ¬ s[i] = 9 := u8_ne (n := 9) (by decide) c43
           have e48 : ¬ s[i] = 13 := u8_ne (n := 13) (by decide) c48
           have e53 : ¬ s[i] = 8 := u8_ne (n := 8) (by decide) c53
           have e58 : s[i] = 12 := u8_eq (n := 12) (by decide) c58
           rw [e58]; rfl
          exact ⟨(i + 1, c60), ⟨G3, hi, by rw [h60, hout, escT_succ hi, hesc]; simp⟩, by show s.size - (i + 1) < s.size - i; omega, rfl, rfl⟩
         ·refine DL.y rfl rfl (Y.assign) ?_
          refine DL.nil ?_
          show DC _ _ _ _ _ _
          refine DC.condF rfl ?_
          refine DC.seq ?_
          refine DC.region ?_
          refine DL.y rfl rfl (Y.move) ?_
          refine DL.if rfl rfl (Y.lt rfl rfl) (fun c63 => ?_) (fun c63 => ?_)
          ·refine DL.y rfl rfl (Y.assign) ?_
           refine DL.nil ?_
           show DC _ _ _ _ _ _
           refine DC.condT rfl ?_
           refine DC.still F.mixed (by kernel_rfl) ?_
           intro w4 f5 hsw4
           replace FR := FR.tr0 f5
           replace G3 := G3.tr0 f5
           replace HG3 := HG3.tr0 f5
           refine DS.y rfl rfl (Y.move) ?_
           refine DS.y rfl rfl (Y.move) ?_
           refine DS.y rfl rfl (Y.quoI rfl rfl (by decide) (quo8 s[i])) ?_
           refine DS.y rfl rfl (Y.move) ?_
           refine DS.y rfl rfl (Y.quoI rfl rfl (by decide) (quo8 s[i])) ?_
           refine DS.y rfl rfl (Y.addC (c := ((s[i].toNat / 16 + 1 : Nat) : Int)) rfl rfl (by rw [show ((s[i].toNat / 16 : Nat) : Int) + 1 = ((s[i].toNat / 16 + 1 : Nat) : Int) by omega]; exact wrap8 _ (by omega))) ?_
           refine DS.y rfl rfl (v := .string ⟨#[hexd (s[i].toNat / 16)]⟩) (hex_ext (s[i].toNat / 16) (by omega) ▸ Y.strLH Tryz.underlying9 rfl rfl rfl (by omega) (by omega) (by show ((s[i].toNat / 16 + 1 : Nat) : Int) ≤ 16; omega)) ?_
           refine DS.y rfl rfl (Y.cat rfl rfl (by rw [show (⟨#[92, 117, 48, 48]⟩ : ByteArray).size = 4 from rfl, show (⟨#[hexd (s[i].toNat / 16)]⟩ : ByteArray).size = 1 from rfl]; omega)) ?_
           refine DS.y rfl rfl (Y.move) ?_
           refine DS.y rfl rfl (Y.remC rfl rfl (by decide) (rem8 s[i])) ?_
           refine DS.y rfl rfl (Y.move) ?_
           refine DS.y rfl rfl (Y.remC rfl rfl (by decide) (rem8 s[i])) ?_
           refine DS.y rfl rfl (Y.addC (c := ((s[i].toNat % 16 + 1 : Nat) : Int)) rfl rfl (by rw [show ((s[i].toNat % 16 : Nat) : Int) + 1 = ((s[i].toNat % 16 + 1 : Nat) : Int) by omega]; exact wrap8 _ (by omega))) ?_
           refine DS.y rfl rfl (v := .string ⟨#[hexd (s[i].toNat % 16)]⟩) (hex_ext (s[i].toNat % 16) (by omega) ▸ Y.strLH Tryz.underlying9 rfl rfl rfl (by omega) (by omega) (by show ((s[i].toNat % 16 + 1 : Nat) : Int) ≤ 16; omega)) ?_
           refine DS.y rfl rfl (Y.cat rfl rfl (by rw [ByteArray.size_append, show (⟨#[92, 117, 48, 48]⟩ : ByteArray).size = 4 from rfl, show (⟨#[hexd (s[i].toNat / 16)]⟩ : ByteArray).size = 1 from rfl, show (⟨#[hexd (s[i].toNat % 16)]⟩ : ByteArray).size = 1 from rfl]; omega)) ?_
           refine DS.y rfl rfl (Y.cat rfl rfl (by have := size_list out; rw [hout] at this; simp only [List.length_cons] at this; rw [ByteArray.size_append, ByteArray.size_append, show (⟨#[92, 117, 48, 48]⟩ : ByteArray).size = 4 from rfl, show (⟨#[hexd (s[i].toNat / 16)]⟩ : ByteArray).size = 1 from rfl, show (⟨#[hexd (s[i].toNat % 16)]⟩ : ByteArray).size = 1 from rfl]; omega)) ?_
           refine DS.y rfl rfl (Y.assign) ?_
           refine DS.nil ?_
           show DC _ _ _ _ _ _
           refine DC.region ?_
           refine DL.y rfl rfl (Y.move) ?_
           refine DL.y rfl rfl (Y.addI (c := ((i + 1 : Nat) : Int)) rfl rfl (by omega) (by omega) (by omega)) ?_
           refine DL.y rfl rfl (Y.assign) ?_
           refine DL.nil ?_
           have hesc : escJ s[i] = [92, 117, 48, 48, hexd (s[i].toNat / 16), hexd (s[i].toNat % 16)] := by
            have e25 : ¬ s[i] = 34 := u8_ne (n := 34) (by decide) c25
            have e28 : ¬ s[i] = 92 := u8_ne (n := 92) (by decide) c28
            have e38 : ¬ s[i] = 10 := u8_ne (n := 10) (by decide) c38
            have e43 : ¬ s[i] = 9 := u8_ne (n := 9) (by decide) c43
            have e48 : ¬ s[i] = 13 := u8_ne (n := 13) (by decide) c48
            have e53 : ¬ s[i] = 8 := u8_ne (n := 8) (by decide) c53
            have e58 : ¬ s[i] = 12 := u8_ne (n := 12) (by decide) c58
            unfold escJ
            rw [if_neg e25, if_neg e28, if_neg e38, if_neg e43, if_neg e48, if_neg e53, if_neg e58, if_pos (Or.inl (by omega))]
           exact ⟨(i + 1, out ++ (⟨#[92, 117, 48, 48]⟩ ++ ⟨#[hexd (s[i].toNat / 16)]⟩ ++ ⟨#[hexd (s[i].toNat % 16)]⟩)), ⟨G3, hi, by simp only [ByteArray.data_append, Array.toList_append]; rw [hout, escT_succ hi, hesc]; simp⟩, by show s.size - (i + 1) < s.size - i; omega, rfl, rfl⟩
          ·refine DL.y rfl rfl (Y.assign) ?_
           refine DL.nil ?_
           show DC _ _ _ _ _ _
           refine DC.condF rfl ?_
           refine DC.seq ?_
           refine DC.region ?_
           refine DL.y rfl rfl (Y.move) ?_
           refine DL.if rfl rfl (Y.eq rfl rfl) (fun c82 => ?_) (fun c82 => ?_)
           ·refine DL.y rfl rfl (Y.assign) ?_
            refine DL.nil ?_
            show DC _ _ _ _ _ _
            refine DC.condT rfl ?_
            refine DC.seq ?_
            refine DC.region ?_
            refine DL.y rfl rfl (Y.assign) ?_
            refine DL.y rfl rfl (Y.assign) ?_
            refine DL.nil ?_
            show DC _ _ _ _ _ _
            refine DC.ret ?_
            exact FinQ.ret2 rfl rfl (Ret.mk FR ⟨_, _, rfl, Or.inr rfl⟩)
           ·refine DL.y rfl rfl (Y.assign) ?_
            refine DL.nil ?_
            show DC _ _ _ _ _ _
            refine DC.condF rfl ?_
            refine DC.region ?_
            refine DL.y rfl rfl (Y.move) ?_
            refine DL.y rfl rfl (Y.move) ?_
            refine DL.y rfl rfl (Y.move) ?_
            refine DL.y rfl rfl (Y.move) ?_
            refine DL.y rfl rfl (Y.addI rfl rfl (rfl) (by omega) (by omega)) ?_
            have hx21 : (s.extract ((i : Int).toNat) (((i : Int) + 1).toNat)).data.toList = [s[i]] := ext1 hi
            refine DL.y rfl rfl (Y.strLH Tryz.underlying9 rfl rfl rfl (by omega) (by omega) (by omega)) ?_
            refine DL.catE rfl rfl rfl rfl (by have := size_list out; rw [hout] at this; simp only [List.length_cons] at this; have h2 : (s.extract ((i : Int).toNat) (((i : Int) + 1).toNat)).size = 1 := by { rw [size_list, hx21]; rfl }; omega) (fun c22 h22 => ?_)
            refine DL.y rfl rfl (Y.assign) ?_
            refine DL.nil ?_
            show DC _ _ _ _ _ _
            refine DC.region ?_
            refine DL.y rfl rfl (Y.move) ?_
            refine DL.y rfl rfl (Y.addI (c := ((i + 1 : Nat) : Int)) rfl rfl (by omega) (by omega) (by omega)) ?_
            refine DL.y rfl rfl (Y.assign) ?_
            refine DL.nil ?_
            have hesc : escJ s[i] = [s[i]] := by
             have e25 : ¬ s[i] = 34 := u8_ne (n := 34) (by decide) c25
             have e28 : ¬ s[i] = 92 := u8_ne (n := 92) (by decide) c28
             have e38 : ¬ s[i] = 10 := u8_ne (n := 10) (by decide) c38
             have e43 : ¬ s[i] = 9 := u8_ne (n := 9) (by decide) c43
             have e48 : ¬ s[i] = 13 := u8_ne (n := 13) (by decide) c48
             have e53 : ¬ s[i] = 8 := u8_ne (n := 8) (by decide) c53
             have e58 : ¬ s[i] = 12 := u8_ne (n := 12) (by decide) c58
             have e82 : ¬ s[i] = 127 := u8_ne (n := 127) (by decide) c82
             unfold escJ
             rw [if_neg e25, if_neg e28, if_neg e38, if_neg e43, if_neg e48, if_neg e53, if_neg e58, if_neg (by intro h; rcases h with h | h; omega; exact e82 h)]
            exact ⟨(i + 1, c22), ⟨G3, hi, by rw [h22, hout, escT_succ hi, hesc, hx21]; simp⟩, by show s.size - (i + 1) < s.size - i; omega, rfl, rfl⟩
  ·have hel := escT_len (s.data.toList.take i)
   have hel : (escT (s.data.toList.take i)).length ≤ 6 * 1000000 := by have h1 : (s.data.toList.take i).length ≤ i := by { rw [List.length_take]; omega }; omega
   refine DL.nil ?_
   show DC _ _ _ _ _ _
   refine DC.condF rfl ?_
   refine DC.exit ?_
   show DC _ _ _ _ _ _
   refine DC.seq ?_
   refine DC.region ?_
   refine DL.y rfl rfl (Y.move) ?_
   refine DL.catE rfl rfl rfl rfl (by have := size_list out; rw [hout] at this; simp only [List.length_cons] at this; rw [show (⟨#[34]⟩ : ByteArray).size = 1 from rfl]; omega) (fun c84 h84 => ?_)
   refine DL.y rfl rfl (Y.assign) ?_
   refine DL.y rfl rfl (Y.assign) ?_
   refine DL.nil ?_
   show DC _ _ _ _ _ _
   refine DC.ret ?_
   refine FinQ.ret2 rfl rfl (Ret.mk FR ⟨_, _, rfl, Or.inl ⟨rfl, ?_⟩⟩)
   have hie : i = s.data.toList.length := by omega
   rw [h84, hout, hie, List.take_length]; rfl

end Go.Proofs.YtmbleojlnaofjaaGreatDoor

/- How long JSON texts are. -/
namespace Go.Proofs.YtmbleojlnaofjaaGreatDoor
open Go Go.RowKit D
set_option linter.unusedVariables false
set_option linter.unusedSimpArgs false
def tot : List (List UInt8) → Nat
 | [] => 0
 | e :: r => e.length + 1 + tot r
theorem tot_take : ∀ (es : List (List UInt8)) (i : Nat), tot (es.take i) ≤ tot es
 | [], i => by simp [tot]
 | e :: r, 0 => by simp [tot]
 | e :: r, i + 1 => by have := tot_take r i; simp only [List.take_succ_cons, tot]; omega
theorem flat_tot : ∀ r : List (List UInt8), (r.flatMap (fun x => 44 :: x)).length = tot r
 | [] => rfl
 | e :: r => by have := flat_tot r; simp only [List.flatMap_cons, List.length_append, List.length_cons, this, tot]
theorem joinT_tot (es : List (List UInt8)) : (joinT es).length ≤ tot es := by
 cases es with
 | nil => simp [joinT, tot]
 | cons e r => simp only [joinT, List.length_append, flat_tot, tot]; omega
theorem tot_get : ∀ {es : List (List UInt8)} {i : Nat} (h : i < es.length), es[i].length + 1 + tot (es.take i) ≤ tot es
 | e :: r, 0, h => by simp [tot]
 | e :: r, i + 1, h => by
  have := tot_get (es := r) (i := i) (by simpa using h)
  simp only [List.getElem_cons_succ, List.take_succ_cons, tot]; omega
theorem numL_len' {h : Int} (hh : -18014398509481984 ≤ h ∧ h ≤ 18014398509481984) : (numL h).length ≤ 40 := by
 have h1 := decL_len 18 (h.natAbs / 2) (by omega)
 unfold numL
 simp only [List.length_append]
 split <;> split <;> simp <;> omega
theorem jLs_tot : ∀ l : List V, (∀ i (h : i < l.length), (jL l[i]).length + 5 ≤ 60 * l[i].nodes + 6 * l[i].bytes) → tot (jLs l) ≤ 60 * V.nodesL l + 6 * V.bytesL l
 | [], _ => by simp [jLs, tot]
 | v :: r, h => by
  have h0 := h 0 (by simp)
  have h1 := jLs_tot r (fun i hi => by have := h (i + 1) (by simpa using hi); simpa using this)
  simp only [List.getElem_cons_zero] at h0
  simp only [jLs, tot, V.nodesL, V.bytesL]; omega
theorem jMs_tot : ∀ (ks : List ByteArray) (l : List V), ks.length = l.length → (∀ i (h : i < l.length), (jL l[i]).length + 5 ≤ 60 * l[i].nodes + 6 * l[i].bytes) → tot (jMs ks l) ≤ 60 * V.nodesL l + 6 * V.bytesL l + 6 * bytesK ks
 | [], [], _, _ => by simp [jMs, tot]
 | k :: ks, v :: r, hk, h => by
  have h0 := h 0 (by simp)
  have h1 := jMs_tot ks r (by simpa using hk) (fun i hi => by have := h (i + 1) (by simpa using hi); simpa using this)
  have h2 := escT_len k.data.toList
  have h3 := size_list k
  simp only [List.getElem_cons_zero] at h0
  simp only [bytesK] at h1
  simp only [jMs, tot, V.nodesL, V.bytesL, bytesK, List.map_cons, List.sum_cons, qL, List.length_append, List.length_cons, List.length_nil]; omega
 | [], _ :: _, hk, _ => by cases hk
 | _ :: _, [], hk, _ => by cases hk
theorem jL_len : ∀ (m : Nat) (v : V), v.nodes ≤ m → Good v → (jL v).length + 5 ≤ 60 * v.nodes + 6 * v.bytes
 | 0, v, hm, _ => by have := nodes_pos v; omega
 | m + 1, .mk kind half text list keys vals, hm, hG => by
  obtain ⟨n, hgl, hgv⟩ := hG
  simp only [V.nodes] at hm
  have hl : ∀ i (h : i < list.length), (jL list[i]).length + 5 ≤ 60 * list[i].nodes + 6 * list[i].bytes := fun i h => jL_len m list[i] (by have := nodes_le h; omega) (hgl i h)
  have hv : ∀ i (h : i < vals.length), (jL vals[i]).length + 5 ≤ 60 * vals[i].nodes + 6 * vals[i].bytes := fun i h => jL_len m vals[i] (by have := nodes_le h; omega) (hgv i h)
  have h1 := jLs_tot list hl
  have h2 := jMs_tot keys vals n.same hv
  have h3 := joinT_tot (jLs list)
  have h4 := joinT_tot (jMs keys vals)
  have h5 := escT_len text.data.toList
  have h6 := size_list text
  have h7 := numL_len' n.hbound
  simp only [jL, V.nodes, V.bytes]
  split
  ·simp; omega
  split
  ·simp; omega
  split
  ·simp; omega
  split
  ·omega
  split
  ·simp only [qL, List.length_append, List.length_cons, List.length_nil]; omega
  split
  ·simp only [List.length_append, List.length_cons, List.length_nil]; omega
  ·simp only [List.length_append, List.length_cons, List.length_nil]; omega
end Go.Proofs.YtmbleojlnaofjaaGreatDoor

