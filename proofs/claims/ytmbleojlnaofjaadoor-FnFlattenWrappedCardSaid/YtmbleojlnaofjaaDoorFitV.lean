/- The walk of (*looker).value: what Fit asks of a value. -/
import Derived.Test.YtmbleojlnaofjaaDoorFit
namespace Go.Proofs.YtmbleojlnaofjaaDoor
open Go Go.RowKit D
set_option linter.unusedVariables false
set_option linter.unusedSimpArgs false


/-- What the first test asks of a node; what the second asks of its number. -/
def n1 (kind half : Int) (text : ByteArray) (ll kl vl : Nat) : Bool := decide (0 ≤ kind) && decide (kind ≤ 6) && (decide (kind = 3) || decide (half = 0)) && (decide (kind = 4) || decide (text = ⟨#[]⟩)) && (decide (kind = 5) || decide ((ll : Int) = 0)) && (decide (kind = 6) || decide ((kl : Int) = 0)) && decide ((kl : Int) = (vl : Int))
def n2 (half : Int) : Bool := decide (-18014398509481984 ≤ half) && decide (half ≤ 18014398509481984) && (decide (half.tmod 2 = 0) || (decide (-9007199254740992 < half) && decide (half < 9007199254740992)))
theorem n1_spec {kind half : Int} {text : ByteArray} {ll kl vl : Nat} (h : n1 kind half text ll kl vl = true) :
    (0 ≤ kind ∧ kind ≤ 6) ∧ (kind = 3 ∨ half = 0) ∧ (kind = 4 ∨ text = ⟨#[]⟩) ∧ (kind = 5 ∨ ll = 0) ∧ (kind = 6 ∨ kl = 0) ∧ kl = vl := by
  simp only [n1, Bool.and_eq_true, Bool.or_eq_true, decide_eq_true_eq] at h
  obtain ⟨⟨⟨⟨⟨⟨h1, h2⟩, h3⟩, h4⟩, h5⟩, h6⟩, h7⟩ := h
  exact ⟨⟨h1, h2⟩, h3, h4, by omega, by omega, by omega⟩
theorem n2_spec {half : Int} (h : n2 half = true) : (-18014398509481984 ≤ half ∧ half ≤ 18014398509481984) ∧ (half.tmod 2 = 0 ∨ (-9007199254740992 < half ∧ half < 9007199254740992)) := by
  simp only [n2, Bool.and_eq_true, Bool.or_eq_true, decide_eq_true_eq] at h
  exact h
/-- The contract of (*looker).value at values of at most m nodes. -/
def ValueC (m : Nat) : Prop := ∀ (v : V) (cs : Array Value) (b B : Nat) (p n d : Int) (bad : Bool) (w : World), v.nodes ≤ m → RV w B v cs → B ≤ b → 2 ≤ B → Tabs w →
  w.heap[b]? = some (.cells (lk p n bad) 52 (0, 0)) → (bad = false → 0 ≤ p ∧ p ≤ 400 ∧ 0 ≤ n ∧ n ≤ 2000) → 0 ≤ d → d ≤ 1000 →
  Calls Tryd.prog 26 #[.pointer (some ⟨b, 0, none⟩), .agg cs, .int .i64 d] w (Ret w [b] fun _ w' => ∃ p' n' bad', w'.heap[b]? = some (.cells (lk p' n' bad') 52 (0, 0)) ∧
    (bad' = false → bad = false ∧ Good v ∧ p' = p + v.nodes ∧ n' = n + v.bytes ∧ p' ≤ 400 ∧ n' ≤ 2000))

set_option maxHeartbeats 1000000 in
theorem value_step (m : Nat) (ih : ValueC m) : ValueC (m + 1) := by
  intro v cs b B p n d bad w hm hR hB h2 hT hb hx hd0 hd1
  obtain ⟨kind, half, text, list, keys, vals⟩ := v
  obtain ⟨la, lc, ka, kc, va, vc, rfl⟩ := hR.shape
  obtain ⟨bt, bl, bk, bv, bkind, bhalf⟩ := hR.bounds
  have hbl := lt_of_blk hb
  refine calls_of Tryd.func26 rfl rfl rfl rfl ?_
  have FR := Fr.refl [b] w
  refine DC.seq ?_
  refine DC.region ?_
  refine DL.boxA rfl rfl rfl ?_
  intro b4 w1 f2 lo4 hi4 hb4
  replace lo4 := Nat.le_trans FR.size lo4
  replace FR := FR.tr0 f2
  replace hb := f2.blk0 hb
  replace hR := hR.fr f2 (by intro x hx; simp <;> omega)
  replace hT := hT.fr f2 (by intro x hx; simp <;> omega)
  refine DL.nil ?_
  show DC _ _ _ _ _ _
  refine DC.seq ?_
  refine DC.seq ?_
  refine DC.region ?_
  refine DL.y rfl rfl (Y.move) ?_
  refine DL.y rfl rfl (Y.move) ?_
  refine DL.call rfl rfl F.nm40 rfl (part_any b _ _ _ _ _ hb hx) ?_
  rintro _ w3 f4 ⟨r1, p1, rfl, hb, hr1⟩
  replace FR := FR.put f4 (by intro i hi; simp only [List.mem_cons, List.mem_singleton, List.not_mem_nil, or_false] at hi; rcases hi with rfl; all_goals (first | (left; simp; done) | (right; omega)))
  replace hR := hR.fr f4 (by intro x hx; simp <;> omega)
  replace hT := hT.fr f4 (by intro x hx; simp <;> omega)
  replace hb4 := f4.blk hb4 (by simp only [List.mem_cons, List.not_mem_nil, or_false, not_or]; omega)
  replace hi4 := Nat.lt_of_lt_of_le hi4 f4.size
  refine DL.y rfl rfl (Y.not rfl) ?_
  refine DL.nil ?_
  show DC _ _ _ _ _ _
  refine DC.cond rfl (fun c11 => ?_) (fun c11 => ?_)
  · have hr : r1 = false := by simpa using c11
    subst hr
    refine DC.ret ?_
    exact FinQ.ret0 (Ret.mk FR ⟨p1, n, true, hb, fun h => by cases h⟩)
  · have hr : r1 = true := by simpa using c11
    subst hr
    have hd60 : d ≤ 60 := (hr1 rfl).2.2.2.2
    obtain ⟨g1, hg1⟩ : ∃ g, g = n1 kind half text list.length keys.length vals.length := ⟨_, rfl⟩
    obtain ⟨g2, hg2⟩ : ∃ g, g = n2 half := ⟨_, rfl⟩
    refine DC.skip ?_
    show DC _ _ _ _ _ _
    refine DC.seq ?_
    refine DC.region ?_
    refine DL.y rfl rfl (Y.move) ?_
    refine DL.cut 59 [(13, 71)] 71 (.bool g1) (fun w' => w' = w3) rfl ?_ ?_
    · refine DL.y rfl rfl (Y.field F.fd26_0 rfl) ?_
      refine DL.y rfl rfl (Y.loadB F.sc22 rfl hb4 rfl) ?_
      refine DL.if rfl rfl (Y.ge rfl rfl) (fun c15 => ?_) (fun c15 => ?_)
      · refine DL.y rfl rfl (Y.move) ?_
        refine DL.y rfl rfl (Y.field F.fd26_0 rfl) ?_
        refine DL.y rfl rfl (Y.loadB F.sc22 rfl hb4 rfl) ?_
        refine DL.if rfl rfl (Y.le rfl rfl) (fun c19 => ?_) (fun c19 => ?_)
        · refine DL.y rfl rfl (Y.pickT rfl) ?_
          refine DL.y rfl rfl (Y.move) ?_
          refine DL.y rfl rfl (Y.field F.fd26_0 rfl) ?_
          refine DL.y rfl rfl (Y.loadB F.sc22 rfl hb4 rfl) ?_
          refine DL.if rfl rfl (Y.eq rfl rfl) (fun c24 => ?_) (fun c24 => ?_)
          · refine DL.y rfl rfl (Y.move) ?_
            refine DL.skip rfl rfl ?_
            refine DL.skip rfl rfl ?_
            refine DL.skip rfl rfl ?_
            refine DL.y rfl rfl (Y.pickT rfl) ?_
            refine DL.y rfl rfl (Y.pickT rfl) ?_
            refine DL.y rfl rfl (Y.move) ?_
            refine DL.y rfl rfl (Y.field F.fd26_0 rfl) ?_
            refine DL.y rfl rfl (Y.loadB F.sc22 rfl hb4 rfl) ?_
            refine DL.if rfl rfl (Y.eq rfl rfl) (fun c34 => ?_) (fun c34 => ?_)
            · refine DL.y rfl rfl (Y.move) ?_
              refine DL.skip rfl rfl ?_
              refine DL.skip rfl rfl ?_
              refine DL.skip rfl rfl ?_
              refine DL.y rfl rfl (Y.pickT rfl) ?_
              refine DL.y rfl rfl (Y.pickT rfl) ?_
              refine DL.y rfl rfl (Y.move) ?_
              refine DL.y rfl rfl (Y.field F.fd26_0 rfl) ?_
              refine DL.y rfl rfl (Y.loadB F.sc22 rfl hb4 rfl) ?_
              refine DL.if rfl rfl (Y.eq rfl rfl) (fun c44 => ?_) (fun c44 => ?_)
              · refine DL.y rfl rfl (Y.move) ?_
                refine DL.skip rfl rfl ?_
                refine DL.skip rfl rfl ?_
                refine DL.skip rfl rfl ?_
                refine DL.skip rfl rfl ?_
                refine DL.y rfl rfl (Y.pickT rfl) ?_
                refine DL.y rfl rfl (Y.pickT rfl) ?_
                refine DL.y rfl rfl (Y.move) ?_
                refine DL.y rfl rfl (Y.field F.fd26_0 rfl) ?_
                refine DL.y rfl rfl (Y.loadB F.sc22 rfl hb4 rfl) ?_
                refine DL.if rfl rfl (Y.eq rfl rfl) (fun c55 => ?_) (fun c55 => ?_)
                · refine DL.y rfl rfl (Y.move) ?_
                  refine DL.skip rfl rfl ?_
                  refine DL.skip rfl rfl ?_
                  refine DL.skip rfl rfl ?_
                  refine DL.skip rfl rfl ?_
                  refine DL.y rfl rfl (Y.pickT rfl) ?_
                  refine DL.y rfl rfl (Y.pickT rfl) ?_
                  refine DL.y rfl rfl (Y.move) ?_
                  refine DL.y rfl rfl (Y.field F.fd26_4 rfl) ?_
                  refine DL.y rfl rfl (Y.loadB F.sc24 rfl hb4 rfl) ?_
                  refine DL.y rfl rfl (Y.lenS Tryd.underlying24 rfl) ?_
                  refine DL.y rfl rfl (Y.field F.fd26_5 rfl) ?_
                  refine DL.y rfl rfl (Y.loadB F.sc23 rfl hb4 rfl) ?_
                  refine DL.y rfl rfl (Y.lenS Tryd.underlying23 rfl) ?_
                  refine DL.if rfl rfl (Y.eq rfl rfl) (fun c70 => ?_) (fun c70 => ?_)
                  · refine DL.y rfl rfl (Y.pickT rfl) ?_
                    exact DL.nil ⟨by (show Value.bool _ = Value.bool _; rw [hg1]; simp only [n1, decide_eq_true c15, decide_eq_true c19, decide_eq_true c24, decide_eq_true c34, decide_eq_true c44, decide_eq_true c55, decide_eq_true c70]; first | done | rfl), rfl⟩
                  · refine DL.y rfl rfl (Y.pickT rfl) ?_
                    exact DL.nil ⟨by (show Value.bool _ = Value.bool _; rw [hg1]; simp only [n1, decide_eq_true c15, decide_eq_true c19, decide_eq_true c24, decide_eq_true c34, decide_eq_true c44, decide_eq_true c55, decide_eq_false c70]; first | done | rfl), rfl⟩
                · refine DL.y rfl rfl (Y.move) ?_
                  refine DL.y rfl rfl (Y.field F.fd26_4 rfl) ?_
                  refine DL.y rfl rfl (Y.loadB F.sc24 rfl hb4 rfl) ?_
                  refine DL.y rfl rfl (Y.lenS Tryd.underlying24 rfl) ?_
                  refine DL.if rfl rfl (Y.eq rfl rfl) (fun c60 => ?_) (fun c60 => ?_)
                  · refine DL.y rfl rfl (Y.pickF rfl) ?_
                    refine DL.y rfl rfl (Y.pickT rfl) ?_
                    refine DL.y rfl rfl (Y.move) ?_
                    refine DL.y rfl rfl (Y.field F.fd26_4 rfl) ?_
                    refine DL.y rfl rfl (Y.loadB F.sc24 rfl hb4 rfl) ?_
                    refine DL.y rfl rfl (Y.lenS Tryd.underlying24 rfl) ?_
                    refine DL.y rfl rfl (Y.field F.fd26_5 rfl) ?_
                    refine DL.y rfl rfl (Y.loadB F.sc23 rfl hb4 rfl) ?_
                    refine DL.y rfl rfl (Y.lenS Tryd.underlying23 rfl) ?_
                    refine DL.if rfl rfl (Y.eq rfl rfl) (fun c70 => ?_) (fun c70 => ?_)
                    · refine DL.y rfl rfl (Y.pickT rfl) ?_
                      exact DL.nil ⟨by (show Value.bool _ = Value.bool _; rw [hg1]; simp only [n1, decide_eq_true c15, decide_eq_true c19, decide_eq_true c24, decide_eq_true c34, decide_eq_true c44, decide_eq_false c55, decide_eq_true c60, decide_eq_true c70]; first | done | rfl), rfl⟩
                    · refine DL.y rfl rfl (Y.pickT rfl) ?_
                      exact DL.nil ⟨by (show Value.bool _ = Value.bool _; rw [hg1]; simp only [n1, decide_eq_true c15, decide_eq_true c19, decide_eq_true c24, decide_eq_true c34, decide_eq_true c44, decide_eq_false c55, decide_eq_true c60, decide_eq_false c70]; first | done | rfl), rfl⟩
                  · refine DL.y rfl rfl (Y.pickF rfl) ?_
                    refine DL.y rfl rfl (Y.pickT rfl) ?_
                    refine DL.y rfl rfl (Y.move) ?_
                    refine DL.skip rfl rfl ?_
                    refine DL.skip rfl rfl ?_
                    refine DL.skip rfl rfl ?_
                    refine DL.skip rfl rfl ?_
                    refine DL.skip rfl rfl ?_
                    refine DL.skip rfl rfl ?_
                    refine DL.skip rfl rfl ?_
                    refine DL.y rfl rfl (Y.pickF rfl) ?_
                    exact DL.nil ⟨by (show Value.bool _ = Value.bool _; rw [hg1]; simp only [n1, decide_eq_true c15, decide_eq_true c19, decide_eq_true c24, decide_eq_true c34, decide_eq_true c44, decide_eq_false c55, decide_eq_false c60]; first | done | rfl), rfl⟩
              · refine DL.y rfl rfl (Y.move) ?_
                refine DL.y rfl rfl (Y.field F.fd26_3 rfl) ?_
                refine DL.y rfl rfl (Y.loadB F.sc23 rfl hb4 rfl) ?_
                refine DL.y rfl rfl (Y.lenS Tryd.underlying23 rfl) ?_
                refine DL.if rfl rfl (Y.eq rfl rfl) (fun c49 => ?_) (fun c49 => ?_)
                · refine DL.y rfl rfl (Y.pickF rfl) ?_
                  refine DL.y rfl rfl (Y.pickT rfl) ?_
                  refine DL.y rfl rfl (Y.move) ?_
                  refine DL.y rfl rfl (Y.field F.fd26_0 rfl) ?_
                  refine DL.y rfl rfl (Y.loadB F.sc22 rfl hb4 rfl) ?_
                  refine DL.if rfl rfl (Y.eq rfl rfl) (fun c55 => ?_) (fun c55 => ?_)
                  · refine DL.y rfl rfl (Y.move) ?_
                    refine DL.skip rfl rfl ?_
                    refine DL.skip rfl rfl ?_
                    refine DL.skip rfl rfl ?_
                    refine DL.skip rfl rfl ?_
                    refine DL.y rfl rfl (Y.pickT rfl) ?_
                    refine DL.y rfl rfl (Y.pickT rfl) ?_
                    refine DL.y rfl rfl (Y.move) ?_
                    refine DL.y rfl rfl (Y.field F.fd26_4 rfl) ?_
                    refine DL.y rfl rfl (Y.loadB F.sc24 rfl hb4 rfl) ?_
                    refine DL.y rfl rfl (Y.lenS Tryd.underlying24 rfl) ?_
                    refine DL.y rfl rfl (Y.field F.fd26_5 rfl) ?_
                    refine DL.y rfl rfl (Y.loadB F.sc23 rfl hb4 rfl) ?_
                    refine DL.y rfl rfl (Y.lenS Tryd.underlying23 rfl) ?_
                    refine DL.if rfl rfl (Y.eq rfl rfl) (fun c70 => ?_) (fun c70 => ?_)
                    · refine DL.y rfl rfl (Y.pickT rfl) ?_
                      exact DL.nil ⟨by (show Value.bool _ = Value.bool _; rw [hg1]; simp only [n1, decide_eq_true c15, decide_eq_true c19, decide_eq_true c24, decide_eq_true c34, decide_eq_false c44, decide_eq_true c49, decide_eq_true c55, decide_eq_true c70]; first | done | rfl), rfl⟩
                    · refine DL.y rfl rfl (Y.pickT rfl) ?_
                      exact DL.nil ⟨by (show Value.bool _ = Value.bool _; rw [hg1]; simp only [n1, decide_eq_true c15, decide_eq_true c19, decide_eq_true c24, decide_eq_true c34, decide_eq_false c44, decide_eq_true c49, decide_eq_true c55, decide_eq_false c70]; first | done | rfl), rfl⟩
                  · refine DL.y rfl rfl (Y.move) ?_
                    refine DL.y rfl rfl (Y.field F.fd26_4 rfl) ?_
                    refine DL.y rfl rfl (Y.loadB F.sc24 rfl hb4 rfl) ?_
                    refine DL.y rfl rfl (Y.lenS Tryd.underlying24 rfl) ?_
                    refine DL.if rfl rfl (Y.eq rfl rfl) (fun c60 => ?_) (fun c60 => ?_)
                    · refine DL.y rfl rfl (Y.pickF rfl) ?_
                      refine DL.y rfl rfl (Y.pickT rfl) ?_
                      refine DL.y rfl rfl (Y.move) ?_
                      refine DL.y rfl rfl (Y.field F.fd26_4 rfl) ?_
                      refine DL.y rfl rfl (Y.loadB F.sc24 rfl hb4 rfl) ?_
                      refine DL.y rfl rfl (Y.lenS Tryd.underlying24 rfl) ?_
                      refine DL.y rfl rfl (Y.field F.fd26_5 rfl) ?_
                      refine DL.y rfl rfl (Y.loadB F.sc23 rfl hb4 rfl) ?_
                      refine DL.y rfl rfl (Y.lenS Tryd.underlying23 rfl) ?_
                      refine DL.if rfl rfl (Y.eq rfl rfl) (fun c70 => ?_) (fun c70 => ?_)
                      · refine DL.y rfl rfl (Y.pickT rfl) ?_
                        exact DL.nil ⟨by (show Value.bool _ = Value.bool _; rw [hg1]; simp only [n1, decide_eq_true c15, decide_eq_true c19, decide_eq_true c24, decide_eq_true c34, decide_eq_false c44, decide_eq_true c49, decide_eq_false c55, decide_eq_true c60, decide_eq_true c70]; first | done | rfl), rfl⟩
                      · refine DL.y rfl rfl (Y.pickT rfl) ?_
                        exact DL.nil ⟨by (show Value.bool _ = Value.bool _; rw [hg1]; simp only [n1, decide_eq_true c15, decide_eq_true c19, decide_eq_true c24, decide_eq_true c34, decide_eq_false c44, decide_eq_true c49, decide_eq_false c55, decide_eq_true c60, decide_eq_false c70]; first | done | rfl), rfl⟩
                    · refine DL.y rfl rfl (Y.pickF rfl) ?_
                      refine DL.y rfl rfl (Y.pickT rfl) ?_
                      refine DL.y rfl rfl (Y.move) ?_
                      refine DL.skip rfl rfl ?_
                      refine DL.skip rfl rfl ?_
                      refine DL.skip rfl rfl ?_
                      refine DL.skip rfl rfl ?_
                      refine DL.skip rfl rfl ?_
                      refine DL.skip rfl rfl ?_
                      refine DL.skip rfl rfl ?_
                      refine DL.y rfl rfl (Y.pickF rfl) ?_
                      exact DL.nil ⟨by (show Value.bool _ = Value.bool _; rw [hg1]; simp only [n1, decide_eq_true c15, decide_eq_true c19, decide_eq_true c24, decide_eq_true c34, decide_eq_false c44, decide_eq_true c49, decide_eq_false c55, decide_eq_false c60]; first | done | rfl), rfl⟩
                · refine DL.y rfl rfl (Y.pickF rfl) ?_
                  refine DL.y rfl rfl (Y.pickT rfl) ?_
                  refine DL.y rfl rfl (Y.move) ?_
                  refine DL.skip rfl rfl ?_
                  refine DL.skip rfl rfl ?_
                  refine DL.skip rfl rfl ?_
                  refine DL.skip rfl rfl ?_
                  refine DL.skip rfl rfl ?_
                  refine DL.skip rfl rfl ?_
                  refine DL.skip rfl rfl ?_
                  refine DL.skip rfl rfl ?_
                  refine DL.skip rfl rfl ?_
                  refine DL.y rfl rfl (Y.pickF rfl) ?_
                  refine DL.y rfl rfl (Y.move) ?_
                  refine DL.skip rfl rfl ?_
                  refine DL.skip rfl rfl ?_
                  refine DL.skip rfl rfl ?_
                  refine DL.skip rfl rfl ?_
                  refine DL.skip rfl rfl ?_
                  refine DL.skip rfl rfl ?_
                  refine DL.skip rfl rfl ?_
                  refine DL.y rfl rfl (Y.pickF rfl) ?_
                  exact DL.nil ⟨by (show Value.bool _ = Value.bool _; rw [hg1]; simp only [n1, decide_eq_true c15, decide_eq_true c19, decide_eq_true c24, decide_eq_true c34, decide_eq_false c44, decide_eq_false c49]; first | done | rfl), rfl⟩
            · refine DL.y rfl rfl (Y.move) ?_
              refine DL.y rfl rfl (Y.field F.fd26_2 rfl) ?_
              refine DL.y rfl rfl (Y.loadB F.sc9 rfl hb4 rfl) ?_
              refine DL.if rfl rfl (Y.seq rfl rfl) (fun c38 => ?_) (fun c38 => ?_)
              · refine DL.y rfl rfl (Y.pickF rfl) ?_
                refine DL.y rfl rfl (Y.pickT rfl) ?_
                refine DL.y rfl rfl (Y.move) ?_
                refine DL.y rfl rfl (Y.field F.fd26_0 rfl) ?_
                refine DL.y rfl rfl (Y.loadB F.sc22 rfl hb4 rfl) ?_
                refine DL.if rfl rfl (Y.eq rfl rfl) (fun c44 => ?_) (fun c44 => ?_)
                · refine DL.y rfl rfl (Y.move) ?_
                  refine DL.skip rfl rfl ?_
                  refine DL.skip rfl rfl ?_
                  refine DL.skip rfl rfl ?_
                  refine DL.skip rfl rfl ?_
                  refine DL.y rfl rfl (Y.pickT rfl) ?_
                  refine DL.y rfl rfl (Y.pickT rfl) ?_
                  refine DL.y rfl rfl (Y.move) ?_
                  refine DL.y rfl rfl (Y.field F.fd26_0 rfl) ?_
                  refine DL.y rfl rfl (Y.loadB F.sc22 rfl hb4 rfl) ?_
                  refine DL.if rfl rfl (Y.eq rfl rfl) (fun c55 => ?_) (fun c55 => ?_)
                  · refine DL.y rfl rfl (Y.move) ?_
                    refine DL.skip rfl rfl ?_
                    refine DL.skip rfl rfl ?_
                    refine DL.skip rfl rfl ?_
                    refine DL.skip rfl rfl ?_
                    refine DL.y rfl rfl (Y.pickT rfl) ?_
                    refine DL.y rfl rfl (Y.pickT rfl) ?_
                    refine DL.y rfl rfl (Y.move) ?_
                    refine DL.y rfl rfl (Y.field F.fd26_4 rfl) ?_
                    refine DL.y rfl rfl (Y.loadB F.sc24 rfl hb4 rfl) ?_
                    refine DL.y rfl rfl (Y.lenS Tryd.underlying24 rfl) ?_
                    refine DL.y rfl rfl (Y.field F.fd26_5 rfl) ?_
                    refine DL.y rfl rfl (Y.loadB F.sc23 rfl hb4 rfl) ?_
                    refine DL.y rfl rfl (Y.lenS Tryd.underlying23 rfl) ?_
                    refine DL.if rfl rfl (Y.eq rfl rfl) (fun c70 => ?_) (fun c70 => ?_)
                    · refine DL.y rfl rfl (Y.pickT rfl) ?_
                      exact DL.nil ⟨by (show Value.bool _ = Value.bool _; rw [hg1]; simp only [n1, decide_eq_true c15, decide_eq_true c19, decide_eq_true c24, decide_eq_false c34, decide_eq_true c38, decide_eq_true c44, decide_eq_true c55, decide_eq_true c70]; first | done | rfl), rfl⟩
                    · refine DL.y rfl rfl (Y.pickT rfl) ?_
                      exact DL.nil ⟨by (show Value.bool _ = Value.bool _; rw [hg1]; simp only [n1, decide_eq_true c15, decide_eq_true c19, decide_eq_true c24, decide_eq_false c34, decide_eq_true c38, decide_eq_true c44, decide_eq_true c55, decide_eq_false c70]; first | done | rfl), rfl⟩
                  · refine DL.y rfl rfl (Y.move) ?_
                    refine DL.y rfl rfl (Y.field F.fd26_4 rfl) ?_
                    refine DL.y rfl rfl (Y.loadB F.sc24 rfl hb4 rfl) ?_
                    refine DL.y rfl rfl (Y.lenS Tryd.underlying24 rfl) ?_
                    refine DL.if rfl rfl (Y.eq rfl rfl) (fun c60 => ?_) (fun c60 => ?_)
                    · refine DL.y rfl rfl (Y.pickF rfl) ?_
                      refine DL.y rfl rfl (Y.pickT rfl) ?_
                      refine DL.y rfl rfl (Y.move) ?_
                      refine DL.y rfl rfl (Y.field F.fd26_4 rfl) ?_
                      refine DL.y rfl rfl (Y.loadB F.sc24 rfl hb4 rfl) ?_
                      refine DL.y rfl rfl (Y.lenS Tryd.underlying24 rfl) ?_
                      refine DL.y rfl rfl (Y.field F.fd26_5 rfl) ?_
                      refine DL.y rfl rfl (Y.loadB F.sc23 rfl hb4 rfl) ?_
                      refine DL.y rfl rfl (Y.lenS Tryd.underlying23 rfl) ?_
                      refine DL.if rfl rfl (Y.eq rfl rfl) (fun c70 => ?_) (fun c70 => ?_)
                      · refine DL.y rfl rfl (Y.pickT rfl) ?_
                        exact DL.nil ⟨by (show Value.bool _ = Value.bool _; rw [hg1]; simp only [n1, decide_eq_true c15, decide_eq_true c19, decide_eq_true c24, decide_eq_false c34, decide_eq_true c38, decide_eq_true c44, decide_eq_false c55, decide_eq_true c60, decide_eq_true c70]; first | done | rfl), rfl⟩
                      · refine DL.y rfl rfl (Y.pickT rfl) ?_
                        exact DL.nil ⟨by (show Value.bool _ = Value.bool _; rw [hg1]; simp only [n1, decide_eq_true c15, decide_eq_true c19, decide_eq_true c24, decide_eq_false c34, decide_eq_true c38, decide_eq_true c44, decide_eq_false c55, decide_eq_true c60, decide_eq_false c70]; first | done | rfl), rfl⟩
                    · refine DL.y rfl rfl (Y.pickF rfl) ?_
                      refine DL.y rfl rfl (Y.pickT rfl) ?_
                      refine DL.y rfl rfl (Y.move) ?_
                      refine DL.skip rfl rfl ?_
                      refine DL.skip rfl rfl ?_
                      refine DL.skip rfl rfl ?_
                      refine DL.skip rfl rfl ?_
                      refine DL.skip rfl rfl ?_
                      refine DL.skip rfl rfl ?_
                      refine DL.skip rfl rfl ?_
                      refine DL.y rfl rfl (Y.pickF rfl) ?_
                      exact DL.nil ⟨by (show Value.bool _ = Value.bool _; rw [hg1]; simp only [n1, decide_eq_true c15, decide_eq_true c19, decide_eq_true c24, decide_eq_false c34, decide_eq_true c38, decide_eq_true c44, decide_eq_false c55, decide_eq_false c60]; first | done | rfl), rfl⟩
                · refine DL.y rfl rfl (Y.move) ?_
                  refine DL.y rfl rfl (Y.field F.fd26_3 rfl) ?_
                  refine DL.y rfl rfl (Y.loadB F.sc23 rfl hb4 rfl) ?_
                  refine DL.y rfl rfl (Y.lenS Tryd.underlying23 rfl) ?_
                  refine DL.if rfl rfl (Y.eq rfl rfl) (fun c49 => ?_) (fun c49 => ?_)
                  · refine DL.y rfl rfl (Y.pickF rfl) ?_
                    refine DL.y rfl rfl (Y.pickT rfl) ?_
                    refine DL.y rfl rfl (Y.move) ?_
                    refine DL.y rfl rfl (Y.field F.fd26_0 rfl) ?_
                    refine DL.y rfl rfl (Y.loadB F.sc22 rfl hb4 rfl) ?_
                    refine DL.if rfl rfl (Y.eq rfl rfl) (fun c55 => ?_) (fun c55 => ?_)
                    · refine DL.y rfl rfl (Y.move) ?_
                      refine DL.skip rfl rfl ?_
                      refine DL.skip rfl rfl ?_
                      refine DL.skip rfl rfl ?_
                      refine DL.skip rfl rfl ?_
                      refine DL.y rfl rfl (Y.pickT rfl) ?_
                      refine DL.y rfl rfl (Y.pickT rfl) ?_
                      refine DL.y rfl rfl (Y.move) ?_
                      refine DL.y rfl rfl (Y.field F.fd26_4 rfl) ?_
                      refine DL.y rfl rfl (Y.loadB F.sc24 rfl hb4 rfl) ?_
                      refine DL.y rfl rfl (Y.lenS Tryd.underlying24 rfl) ?_
                      refine DL.y rfl rfl (Y.field F.fd26_5 rfl) ?_
                      refine DL.y rfl rfl (Y.loadB F.sc23 rfl hb4 rfl) ?_
                      refine DL.y rfl rfl (Y.lenS Tryd.underlying23 rfl) ?_
                      refine DL.if rfl rfl (Y.eq rfl rfl) (fun c70 => ?_) (fun c70 => ?_)
                      · refine DL.y rfl rfl (Y.pickT rfl) ?_
                        exact DL.nil ⟨by (show Value.bool _ = Value.bool _; rw [hg1]; simp only [n1, decide_eq_true c15, decide_eq_true c19, decide_eq_true c24, decide_eq_false c34, decide_eq_true c38, decide_eq_false c44, decide_eq_true c49, decide_eq_true c55, decide_eq_true c70]; first | done | rfl), rfl⟩
                      · refine DL.y rfl rfl (Y.pickT rfl) ?_
                        exact DL.nil ⟨by (show Value.bool _ = Value.bool _; rw [hg1]; simp only [n1, decide_eq_true c15, decide_eq_true c19, decide_eq_true c24, decide_eq_false c34, decide_eq_true c38, decide_eq_false c44, decide_eq_true c49, decide_eq_true c55, decide_eq_false c70]; first | done | rfl), rfl⟩
                    · refine DL.y rfl rfl (Y.move) ?_
                      refine DL.y rfl rfl (Y.field F.fd26_4 rfl) ?_
                      refine DL.y rfl rfl (Y.loadB F.sc24 rfl hb4 rfl) ?_
                      refine DL.y rfl rfl (Y.lenS Tryd.underlying24 rfl) ?_
                      refine DL.if rfl rfl (Y.eq rfl rfl) (fun c60 => ?_) (fun c60 => ?_)
                      · refine DL.y rfl rfl (Y.pickF rfl) ?_
                        refine DL.y rfl rfl (Y.pickT rfl) ?_
                        refine DL.y rfl rfl (Y.move) ?_
                        refine DL.y rfl rfl (Y.field F.fd26_4 rfl) ?_
                        refine DL.y rfl rfl (Y.loadB F.sc24 rfl hb4 rfl) ?_
                        refine DL.y rfl rfl (Y.lenS Tryd.underlying24 rfl) ?_
                        refine DL.y rfl rfl (Y.field F.fd26_5 rfl) ?_
                        refine DL.y rfl rfl (Y.loadB F.sc23 rfl hb4 rfl) ?_
                        refine DL.y rfl rfl (Y.lenS Tryd.underlying23 rfl) ?_
                        refine DL.if rfl rfl (Y.eq rfl rfl) (fun c70 => ?_) (fun c70 => ?_)
                        · refine DL.y rfl rfl (Y.pickT rfl) ?_
                          exact DL.nil ⟨by (show Value.bool _ = Value.bool _; rw [hg1]; simp only [n1, decide_eq_true c15, decide_eq_true c19, decide_eq_true c24, decide_eq_false c34, decide_eq_true c38, decide_eq_false c44, decide_eq_true c49, decide_eq_false c55, decide_eq_true c60, decide_eq_true c70]; first | done | rfl), rfl⟩
                        · refine DL.y rfl rfl (Y.pickT rfl) ?_
                          exact DL.nil ⟨by (show Value.bool _ = Value.bool _; rw [hg1]; simp only [n1, decide_eq_true c15, decide_eq_true c19, decide_eq_true c24, decide_eq_false c34, decide_eq_true c38, decide_eq_false c44, decide_eq_true c49, decide_eq_false c55, decide_eq_true c60, decide_eq_false c70]; first | done | rfl), rfl⟩
                      · refine DL.y rfl rfl (Y.pickF rfl) ?_
                        refine DL.y rfl rfl (Y.pickT rfl) ?_
                        refine DL.y rfl rfl (Y.move) ?_
                        refine DL.skip rfl rfl ?_
                        refine DL.skip rfl rfl ?_
                        refine DL.skip rfl rfl ?_
                        refine DL.skip rfl rfl ?_
                        refine DL.skip rfl rfl ?_
                        refine DL.skip rfl rfl ?_
                        refine DL.skip rfl rfl ?_
                        refine DL.y rfl rfl (Y.pickF rfl) ?_
                        exact DL.nil ⟨by (show Value.bool _ = Value.bool _; rw [hg1]; simp only [n1, decide_eq_true c15, decide_eq_true c19, decide_eq_true c24, decide_eq_false c34, decide_eq_true c38, decide_eq_false c44, decide_eq_true c49, decide_eq_false c55, decide_eq_false c60]; first | done | rfl), rfl⟩
                  · refine DL.y rfl rfl (Y.pickF rfl) ?_
                    refine DL.y rfl rfl (Y.pickT rfl) ?_
                    refine DL.y rfl rfl (Y.move) ?_
                    refine DL.skip rfl rfl ?_
                    refine DL.skip rfl rfl ?_
                    refine DL.skip rfl rfl ?_
                    refine DL.skip rfl rfl ?_
                    refine DL.skip rfl rfl ?_
                    refine DL.skip rfl rfl ?_
                    refine DL.skip rfl rfl ?_
                    refine DL.skip rfl rfl ?_
                    refine DL.skip rfl rfl ?_
                    refine DL.y rfl rfl (Y.pickF rfl) ?_
                    refine DL.y rfl rfl (Y.move) ?_
                    refine DL.skip rfl rfl ?_
                    refine DL.skip rfl rfl ?_
                    refine DL.skip rfl rfl ?_
                    refine DL.skip rfl rfl ?_
                    refine DL.skip rfl rfl ?_
                    refine DL.skip rfl rfl ?_
                    refine DL.skip rfl rfl ?_
                    refine DL.y rfl rfl (Y.pickF rfl) ?_
                    exact DL.nil ⟨by (show Value.bool _ = Value.bool _; rw [hg1]; simp only [n1, decide_eq_true c15, decide_eq_true c19, decide_eq_true c24, decide_eq_false c34, decide_eq_true c38, decide_eq_false c44, decide_eq_false c49]; first | done | rfl), rfl⟩
              · refine DL.y rfl rfl (Y.pickF rfl) ?_
                refine DL.y rfl rfl (Y.pickT rfl) ?_
                refine DL.y rfl rfl (Y.move) ?_
                refine DL.skip rfl rfl ?_
                refine DL.skip rfl rfl ?_
                refine DL.skip rfl rfl ?_
                refine DL.skip rfl rfl ?_
                refine DL.skip rfl rfl ?_
                refine DL.skip rfl rfl ?_
                refine DL.skip rfl rfl ?_
                refine DL.skip rfl rfl ?_
                refine DL.skip rfl rfl ?_
                refine DL.y rfl rfl (Y.pickF rfl) ?_
                refine DL.y rfl rfl (Y.move) ?_
                refine DL.skip rfl rfl ?_
                refine DL.skip rfl rfl ?_
                refine DL.skip rfl rfl ?_
                refine DL.skip rfl rfl ?_
                refine DL.skip rfl rfl ?_
                refine DL.skip rfl rfl ?_
                refine DL.skip rfl rfl ?_
                refine DL.skip rfl rfl ?_
                refine DL.skip rfl rfl ?_
                refine DL.y rfl rfl (Y.pickF rfl) ?_
                refine DL.y rfl rfl (Y.move) ?_
                refine DL.skip rfl rfl ?_
                refine DL.skip rfl rfl ?_
                refine DL.skip rfl rfl ?_
                refine DL.skip rfl rfl ?_
                refine DL.skip rfl rfl ?_
                refine DL.skip rfl rfl ?_
                refine DL.skip rfl rfl ?_
                refine DL.y rfl rfl (Y.pickF rfl) ?_
                exact DL.nil ⟨by (show Value.bool _ = Value.bool _; rw [hg1]; simp only [n1, decide_eq_true c15, decide_eq_true c19, decide_eq_true c24, decide_eq_false c34, decide_eq_false c38]; first | done | rfl), rfl⟩
          · refine DL.y rfl rfl (Y.move) ?_
            refine DL.y rfl rfl (Y.field F.fd26_1 rfl) ?_
            refine DL.y rfl rfl (Y.loadB F.sc3 rfl hb4 rfl) ?_
            refine DL.if rfl rfl (Y.eq rfl rfl) (fun c28 => ?_) (fun c28 => ?_)
            · refine DL.y rfl rfl (Y.pickF rfl) ?_
              refine DL.y rfl rfl (Y.pickT rfl) ?_
              refine DL.y rfl rfl (Y.move) ?_
              refine DL.y rfl rfl (Y.field F.fd26_0 rfl) ?_
              refine DL.y rfl rfl (Y.loadB F.sc22 rfl hb4 rfl) ?_
              refine DL.if rfl rfl (Y.eq rfl rfl) (fun c34 => ?_) (fun c34 => ?_)
              · refine DL.y rfl rfl (Y.move) ?_
                refine DL.skip rfl rfl ?_
                refine DL.skip rfl rfl ?_
                refine DL.skip rfl rfl ?_
                refine DL.y rfl rfl (Y.pickT rfl) ?_
                refine DL.y rfl rfl (Y.pickT rfl) ?_
                refine DL.y rfl rfl (Y.move) ?_
                refine DL.y rfl rfl (Y.field F.fd26_0 rfl) ?_
                refine DL.y rfl rfl (Y.loadB F.sc22 rfl hb4 rfl) ?_
                refine DL.if rfl rfl (Y.eq rfl rfl) (fun c44 => ?_) (fun c44 => ?_)
                · refine DL.y rfl rfl (Y.move) ?_
                  refine DL.skip rfl rfl ?_
                  refine DL.skip rfl rfl ?_
                  refine DL.skip rfl rfl ?_
                  refine DL.skip rfl rfl ?_
                  refine DL.y rfl rfl (Y.pickT rfl) ?_
                  refine DL.y rfl rfl (Y.pickT rfl) ?_
                  refine DL.y rfl rfl (Y.move) ?_
                  refine DL.y rfl rfl (Y.field F.fd26_0 rfl) ?_
                  refine DL.y rfl rfl (Y.loadB F.sc22 rfl hb4 rfl) ?_
                  refine DL.if rfl rfl (Y.eq rfl rfl) (fun c55 => ?_) (fun c55 => ?_)
                  · refine DL.y rfl rfl (Y.move) ?_
                    refine DL.skip rfl rfl ?_
                    refine DL.skip rfl rfl ?_
                    refine DL.skip rfl rfl ?_
                    refine DL.skip rfl rfl ?_
                    refine DL.y rfl rfl (Y.pickT rfl) ?_
                    refine DL.y rfl rfl (Y.pickT rfl) ?_
                    refine DL.y rfl rfl (Y.move) ?_
                    refine DL.y rfl rfl (Y.field F.fd26_4 rfl) ?_
                    refine DL.y rfl rfl (Y.loadB F.sc24 rfl hb4 rfl) ?_
                    refine DL.y rfl rfl (Y.lenS Tryd.underlying24 rfl) ?_
                    refine DL.y rfl rfl (Y.field F.fd26_5 rfl) ?_
                    refine DL.y rfl rfl (Y.loadB F.sc23 rfl hb4 rfl) ?_
                    refine DL.y rfl rfl (Y.lenS Tryd.underlying23 rfl) ?_
                    refine DL.if rfl rfl (Y.eq rfl rfl) (fun c70 => ?_) (fun c70 => ?_)
                    · refine DL.y rfl rfl (Y.pickT rfl) ?_
                      exact DL.nil ⟨by (show Value.bool _ = Value.bool _; rw [hg1]; simp only [n1, decide_eq_true c15, decide_eq_true c19, decide_eq_false c24, decide_eq_true c28, decide_eq_true c34, decide_eq_true c44, decide_eq_true c55, decide_eq_true c70]; first | done | rfl), rfl⟩
                    · refine DL.y rfl rfl (Y.pickT rfl) ?_
                      exact DL.nil ⟨by (show Value.bool _ = Value.bool _; rw [hg1]; simp only [n1, decide_eq_true c15, decide_eq_true c19, decide_eq_false c24, decide_eq_true c28, decide_eq_true c34, decide_eq_true c44, decide_eq_true c55, decide_eq_false c70]; first | done | rfl), rfl⟩
                  · refine DL.y rfl rfl (Y.move) ?_
                    refine DL.y rfl rfl (Y.field F.fd26_4 rfl) ?_
                    refine DL.y rfl rfl (Y.loadB F.sc24 rfl hb4 rfl) ?_
                    refine DL.y rfl rfl (Y.lenS Tryd.underlying24 rfl) ?_
                    refine DL.if rfl rfl (Y.eq rfl rfl) (fun c60 => ?_) (fun c60 => ?_)
                    · refine DL.y rfl rfl (Y.pickF rfl) ?_
                      refine DL.y rfl rfl (Y.pickT rfl) ?_
                      refine DL.y rfl rfl (Y.move) ?_
                      refine DL.y rfl rfl (Y.field F.fd26_4 rfl) ?_
                      refine DL.y rfl rfl (Y.loadB F.sc24 rfl hb4 rfl) ?_
                      refine DL.y rfl rfl (Y.lenS Tryd.underlying24 rfl) ?_
                      refine DL.y rfl rfl (Y.field F.fd26_5 rfl) ?_
                      refine DL.y rfl rfl (Y.loadB F.sc23 rfl hb4 rfl) ?_
                      refine DL.y rfl rfl (Y.lenS Tryd.underlying23 rfl) ?_
                      refine DL.if rfl rfl (Y.eq rfl rfl) (fun c70 => ?_) (fun c70 => ?_)
                      · refine DL.y rfl rfl (Y.pickT rfl) ?_
                        exact DL.nil ⟨by (show Value.bool _ = Value.bool _; rw [hg1]; simp only [n1, decide_eq_true c15, decide_eq_true c19, decide_eq_false c24, decide_eq_true c28, decide_eq_true c34, decide_eq_true c44, decide_eq_false c55, decide_eq_true c60, decide_eq_true c70]; first | done | rfl), rfl⟩
                      · refine DL.y rfl rfl (Y.pickT rfl) ?_
                        exact DL.nil ⟨by (show Value.bool _ = Value.bool _; rw [hg1]; simp only [n1, decide_eq_true c15, decide_eq_true c19, decide_eq_false c24, decide_eq_true c28, decide_eq_true c34, decide_eq_true c44, decide_eq_false c55, decide_eq_true c60, decide_eq_false c70]; first | done | rfl), rfl⟩
                    · refine DL.y rfl rfl (Y.pickF rfl) ?_
                      refine DL.y rfl rfl (Y.pickT rfl) ?_
                      refine DL.y rfl rfl (Y.move) ?_
                      refine DL.skip rfl rfl ?_
                      refine DL.skip rfl rfl ?_
                      refine DL.skip rfl rfl ?_
                      refine DL.skip rfl rfl ?_
                      refine DL.skip rfl rfl ?_
                      refine DL.skip rfl rfl ?_
                      refine DL.skip rfl rfl ?_
                      refine DL.y rfl rfl (Y.pickF rfl) ?_
                      exact DL.nil ⟨by (show Value.bool _ = Value.bool _; rw [hg1]; simp only [n1, decide_eq_true c15, decide_eq_true c19, decide_eq_false c24, decide_eq_true c28, decide_eq_true c34, decide_eq_true c44, decide_eq_false c55, decide_eq_false c60]; first | done | rfl), rfl⟩
                · refine DL.y rfl rfl (Y.move) ?_
                  refine DL.y rfl rfl (Y.field F.fd26_3 rfl) ?_
                  refine DL.y rfl rfl (Y.loadB F.sc23 rfl hb4 rfl) ?_
                  refine DL.y rfl rfl (Y.lenS Tryd.underlying23 rfl) ?_
                  refine DL.if rfl rfl (Y.eq rfl rfl) (fun c49 => ?_) (fun c49 => ?_)
                  · refine DL.y rfl rfl (Y.pickF rfl) ?_
                    refine DL.y rfl rfl (Y.pickT rfl) ?_
                    refine DL.y rfl rfl (Y.move) ?_
                    refine DL.y rfl rfl (Y.field F.fd26_0 rfl) ?_
                    refine DL.y rfl rfl (Y.loadB F.sc22 rfl hb4 rfl) ?_
                    refine DL.if rfl rfl (Y.eq rfl rfl) (fun c55 => ?_) (fun c55 => ?_)
                    · refine DL.y rfl rfl (Y.move) ?_
                      refine DL.skip rfl rfl ?_
                      refine DL.skip rfl rfl ?_
                      refine DL.skip rfl rfl ?_
                      refine DL.skip rfl rfl ?_
                      refine DL.y rfl rfl (Y.pickT rfl) ?_
                      refine DL.y rfl rfl (Y.pickT rfl) ?_
                      refine DL.y rfl rfl (Y.move) ?_
                      refine DL.y rfl rfl (Y.field F.fd26_4 rfl) ?_
                      refine DL.y rfl rfl (Y.loadB F.sc24 rfl hb4 rfl) ?_
                      refine DL.y rfl rfl (Y.lenS Tryd.underlying24 rfl) ?_
                      refine DL.y rfl rfl (Y.field F.fd26_5 rfl) ?_
                      refine DL.y rfl rfl (Y.loadB F.sc23 rfl hb4 rfl) ?_
                      refine DL.y rfl rfl (Y.lenS Tryd.underlying23 rfl) ?_
                      refine DL.if rfl rfl (Y.eq rfl rfl) (fun c70 => ?_) (fun c70 => ?_)
                      · refine DL.y rfl rfl (Y.pickT rfl) ?_
                        exact DL.nil ⟨by (show Value.bool _ = Value.bool _; rw [hg1]; simp only [n1, decide_eq_true c15, decide_eq_true c19, decide_eq_false c24, decide_eq_true c28, decide_eq_true c34, decide_eq_false c44, decide_eq_true c49, decide_eq_true c55, decide_eq_true c70]; first | done | rfl), rfl⟩
                      · refine DL.y rfl rfl (Y.pickT rfl) ?_
                        exact DL.nil ⟨by (show Value.bool _ = Value.bool _; rw [hg1]; simp only [n1, decide_eq_true c15, decide_eq_true c19, decide_eq_false c24, decide_eq_true c28, decide_eq_true c34, decide_eq_false c44, decide_eq_true c49, decide_eq_true c55, decide_eq_false c70]; first | done | rfl), rfl⟩
                    · refine DL.y rfl rfl (Y.move) ?_
                      refine DL.y rfl rfl (Y.field F.fd26_4 rfl) ?_
                      refine DL.y rfl rfl (Y.loadB F.sc24 rfl hb4 rfl) ?_
                      refine DL.y rfl rfl (Y.lenS Tryd.underlying24 rfl) ?_
                      refine DL.if rfl rfl (Y.eq rfl rfl) (fun c60 => ?_) (fun c60 => ?_)
                      · refine DL.y rfl rfl (Y.pickF rfl) ?_
                        refine DL.y rfl rfl (Y.pickT rfl) ?_
                        refine DL.y rfl rfl (Y.move) ?_
                        refine DL.y rfl rfl (Y.field F.fd26_4 rfl) ?_
                        refine DL.y rfl rfl (Y.loadB F.sc24 rfl hb4 rfl) ?_
                        refine DL.y rfl rfl (Y.lenS Tryd.underlying24 rfl) ?_
                        refine DL.y rfl rfl (Y.field F.fd26_5 rfl) ?_
                        refine DL.y rfl rfl (Y.loadB F.sc23 rfl hb4 rfl) ?_
                        refine DL.y rfl rfl (Y.lenS Tryd.underlying23 rfl) ?_
                        refine DL.if rfl rfl (Y.eq rfl rfl) (fun c70 => ?_) (fun c70 => ?_)
                        · refine DL.y rfl rfl (Y.pickT rfl) ?_
                          exact DL.nil ⟨by (show Value.bool _ = Value.bool _; rw [hg1]; simp only [n1, decide_eq_true c15, decide_eq_true c19, decide_eq_false c24, decide_eq_true c28, decide_eq_true c34, decide_eq_false c44, decide_eq_true c49, decide_eq_false c55, decide_eq_true c60, decide_eq_true c70]; first | done | rfl), rfl⟩
                        · refine DL.y rfl rfl (Y.pickT rfl) ?_
                          exact DL.nil ⟨by (show Value.bool _ = Value.bool _; rw [hg1]; simp only [n1, decide_eq_true c15, decide_eq_true c19, decide_eq_false c24, decide_eq_true c28, decide_eq_true c34, decide_eq_false c44, decide_eq_true c49, decide_eq_false c55, decide_eq_true c60, decide_eq_false c70]; first | done | rfl), rfl⟩
                      · refine DL.y rfl rfl (Y.pickF rfl) ?_
                        refine DL.y rfl rfl (Y.pickT rfl) ?_
                        refine DL.y rfl rfl (Y.move) ?_
                        refine DL.skip rfl rfl ?_
                        refine DL.skip rfl rfl ?_
                        refine DL.skip rfl rfl ?_
                        refine DL.skip rfl rfl ?_
                        refine DL.skip rfl rfl ?_
                        refine DL.skip rfl rfl ?_
                        refine DL.skip rfl rfl ?_
                        refine DL.y rfl rfl (Y.pickF rfl) ?_
                        exact DL.nil ⟨by (show Value.bool _ = Value.bool _; rw [hg1]; simp only [n1, decide_eq_true c15, decide_eq_true c19, decide_eq_false c24, decide_eq_true c28, decide_eq_true c34, decide_eq_false c44, decide_eq_true c49, decide_eq_false c55, decide_eq_false c60]; first | done | rfl), rfl⟩
                  · refine DL.y rfl rfl (Y.pickF rfl) ?_
                    refine DL.y rfl rfl (Y.pickT rfl) ?_
                    refine DL.y rfl rfl (Y.move) ?_
                    refine DL.skip rfl rfl ?_
                    refine DL.skip rfl rfl ?_
                    refine DL.skip rfl rfl ?_
                    refine DL.skip rfl rfl ?_
                    refine DL.skip rfl rfl ?_
                    refine DL.skip rfl rfl ?_
                    refine DL.skip rfl rfl ?_
                    refine DL.skip rfl rfl ?_
                    refine DL.skip rfl rfl ?_
                    refine DL.y rfl rfl (Y.pickF rfl) ?_
                    refine DL.y rfl rfl (Y.move) ?_
                    refine DL.skip rfl rfl ?_
                    refine DL.skip rfl rfl ?_
                    refine DL.skip rfl rfl ?_
                    refine DL.skip rfl rfl ?_
                    refine DL.skip rfl rfl ?_
                    refine DL.skip rfl rfl ?_
                    refine DL.skip rfl rfl ?_
                    refine DL.y rfl rfl (Y.pickF rfl) ?_
                    exact DL.nil ⟨by (show Value.bool _ = Value.bool _; rw [hg1]; simp only [n1, decide_eq_true c15, decide_eq_true c19, decide_eq_false c24, decide_eq_true c28, decide_eq_true c34, decide_eq_false c44, decide_eq_false c49]; first | done | rfl), rfl⟩
              · refine DL.y rfl rfl (Y.move) ?_
                refine DL.y rfl rfl (Y.field F.fd26_2 rfl) ?_
                refine DL.y rfl rfl (Y.loadB F.sc9 rfl hb4 rfl) ?_
                refine DL.if rfl rfl (Y.seq rfl rfl) (fun c38 => ?_) (fun c38 => ?_)
                · refine DL.y rfl rfl (Y.pickF rfl) ?_
                  refine DL.y rfl rfl (Y.pickT rfl) ?_
                  refine DL.y rfl rfl (Y.move) ?_
                  refine DL.y rfl rfl (Y.field F.fd26_0 rfl) ?_
                  refine DL.y rfl rfl (Y.loadB F.sc22 rfl hb4 rfl) ?_
                  refine DL.if rfl rfl (Y.eq rfl rfl) (fun c44 => ?_) (fun c44 => ?_)
                  · refine DL.y rfl rfl (Y.move) ?_
                    refine DL.skip rfl rfl ?_
                    refine DL.skip rfl rfl ?_
                    refine DL.skip rfl rfl ?_
                    refine DL.skip rfl rfl ?_
                    refine DL.y rfl rfl (Y.pickT rfl) ?_
                    refine DL.y rfl rfl (Y.pickT rfl) ?_
                    refine DL.y rfl rfl (Y.move) ?_
                    refine DL.y rfl rfl (Y.field F.fd26_0 rfl) ?_
                    refine DL.y rfl rfl (Y.loadB F.sc22 rfl hb4 rfl) ?_
                    refine DL.if rfl rfl (Y.eq rfl rfl) (fun c55 => ?_) (fun c55 => ?_)
                    · refine DL.y rfl rfl (Y.move) ?_
                      refine DL.skip rfl rfl ?_
                      refine DL.skip rfl rfl ?_
                      refine DL.skip rfl rfl ?_
                      refine DL.skip rfl rfl ?_
                      refine DL.y rfl rfl (Y.pickT rfl) ?_
                      refine DL.y rfl rfl (Y.pickT rfl) ?_
                      refine DL.y rfl rfl (Y.move) ?_
                      refine DL.y rfl rfl (Y.field F.fd26_4 rfl) ?_
                      refine DL.y rfl rfl (Y.loadB F.sc24 rfl hb4 rfl) ?_
                      refine DL.y rfl rfl (Y.lenS Tryd.underlying24 rfl) ?_
                      refine DL.y rfl rfl (Y.field F.fd26_5 rfl) ?_
                      refine DL.y rfl rfl (Y.loadB F.sc23 rfl hb4 rfl) ?_
                      refine DL.y rfl rfl (Y.lenS Tryd.underlying23 rfl) ?_
                      refine DL.if rfl rfl (Y.eq rfl rfl) (fun c70 => ?_) (fun c70 => ?_)
                      · refine DL.y rfl rfl (Y.pickT rfl) ?_
                        exact DL.nil ⟨by (show Value.bool _ = Value.bool _; rw [hg1]; simp only [n1, decide_eq_true c15, decide_eq_true c19, decide_eq_false c24, decide_eq_true c28, decide_eq_false c34, decide_eq_true c38, decide_eq_true c44, decide_eq_true c55, decide_eq_true c70]; first | done | rfl), rfl⟩
                      · refine DL.y rfl rfl (Y.pickT rfl) ?_
                        exact DL.nil ⟨by (show Value.bool _ = Value.bool _; rw [hg1]; simp only [n1, decide_eq_true c15, decide_eq_true c19, decide_eq_false c24, decide_eq_true c28, decide_eq_false c34, decide_eq_true c38, decide_eq_true c44, decide_eq_true c55, decide_eq_false c70]; first | done | rfl), rfl⟩
                    · refine DL.y rfl rfl (Y.move) ?_
                      refine DL.y rfl rfl (Y.field F.fd26_4 rfl) ?_
                      refine DL.y rfl rfl (Y.loadB F.sc24 rfl hb4 rfl) ?_
                      refine DL.y rfl rfl (Y.lenS Tryd.underlying24 rfl) ?_
                      refine DL.if rfl rfl (Y.eq rfl rfl) (fun c60 => ?_) (fun c60 => ?_)
                      · refine DL.y rfl rfl (Y.pickF rfl) ?_
                        refine DL.y rfl rfl (Y.pickT rfl) ?_
                        refine DL.y rfl rfl (Y.move) ?_
                        refine DL.y rfl rfl (Y.field F.fd26_4 rfl) ?_
                        refine DL.y rfl rfl (Y.loadB F.sc24 rfl hb4 rfl) ?_
                        refine DL.y rfl rfl (Y.lenS Tryd.underlying24 rfl) ?_
                        refine DL.y rfl rfl (Y.field F.fd26_5 rfl) ?_
                        refine DL.y rfl rfl (Y.loadB F.sc23 rfl hb4 rfl) ?_
                        refine DL.y rfl rfl (Y.lenS Tryd.underlying23 rfl) ?_
                        refine DL.if rfl rfl (Y.eq rfl rfl) (fun c70 => ?_) (fun c70 => ?_)
                        · refine DL.y rfl rfl (Y.pickT rfl) ?_
                          exact DL.nil ⟨by (show Value.bool _ = Value.bool _; rw [hg1]; simp only [n1, decide_eq_true c15, decide_eq_true c19, decide_eq_false c24, decide_eq_true c28, decide_eq_false c34, decide_eq_true c38, decide_eq_true c44, decide_eq_false c55, decide_eq_true c60, decide_eq_true c70]; first | done | rfl), rfl⟩
                        · refine DL.y rfl rfl (Y.pickT rfl) ?_
                          exact DL.nil ⟨by (show Value.bool _ = Value.bool _; rw [hg1]; simp only [n1, decide_eq_true c15, decide_eq_true c19, decide_eq_false c24, decide_eq_true c28, decide_eq_false c34, decide_eq_true c38, decide_eq_true c44, decide_eq_false c55, decide_eq_true c60, decide_eq_false c70]; first | done | rfl), rfl⟩
                      · refine DL.y rfl rfl (Y.pickF rfl) ?_
                        refine DL.y rfl rfl (Y.pickT rfl) ?_
                        refine DL.y rfl rfl (Y.move) ?_
                        refine DL.skip rfl rfl ?_
                        refine DL.skip rfl rfl ?_
                        refine DL.skip rfl rfl ?_
                        refine DL.skip rfl rfl ?_
                        refine DL.skip rfl rfl ?_
                        refine DL.skip rfl rfl ?_
                        refine DL.skip rfl rfl ?_
                        refine DL.y rfl rfl (Y.pickF rfl) ?_
                        exact DL.nil ⟨by (show Value.bool _ = Value.bool _; rw [hg1]; simp only [n1, decide_eq_true c15, decide_eq_true c19, decide_eq_false c24, decide_eq_true c28, decide_eq_false c34, decide_eq_true c38, decide_eq_true c44, decide_eq_false c55, decide_eq_false c60]; first | done | rfl), rfl⟩
                  · refine DL.y rfl rfl (Y.move) ?_
                    refine DL.y rfl rfl (Y.field F.fd26_3 rfl) ?_
                    refine DL.y rfl rfl (Y.loadB F.sc23 rfl hb4 rfl) ?_
                    refine DL.y rfl rfl (Y.lenS Tryd.underlying23 rfl) ?_
                    refine DL.if rfl rfl (Y.eq rfl rfl) (fun c49 => ?_) (fun c49 => ?_)
                    · refine DL.y rfl rfl (Y.pickF rfl) ?_
                      refine DL.y rfl rfl (Y.pickT rfl) ?_
                      refine DL.y rfl rfl (Y.move) ?_
                      refine DL.y rfl rfl (Y.field F.fd26_0 rfl) ?_
                      refine DL.y rfl rfl (Y.loadB F.sc22 rfl hb4 rfl) ?_
                      refine DL.if rfl rfl (Y.eq rfl rfl) (fun c55 => ?_) (fun c55 => ?_)
                      · refine DL.y rfl rfl (Y.move) ?_
                        refine DL.skip rfl rfl ?_
                        refine DL.skip rfl rfl ?_
                        refine DL.skip rfl rfl ?_
                        refine DL.skip rfl rfl ?_
                        refine DL.y rfl rfl (Y.pickT rfl) ?_
                        refine DL.y rfl rfl (Y.pickT rfl) ?_
                        refine DL.y rfl rfl (Y.move) ?_
                        refine DL.y rfl rfl (Y.field F.fd26_4 rfl) ?_
                        refine DL.y rfl rfl (Y.loadB F.sc24 rfl hb4 rfl) ?_
                        refine DL.y rfl rfl (Y.lenS Tryd.underlying24 rfl) ?_
                        refine DL.y rfl rfl (Y.field F.fd26_5 rfl) ?_
                        refine DL.y rfl rfl (Y.loadB F.sc23 rfl hb4 rfl) ?_
                        refine DL.y rfl rfl (Y.lenS Tryd.underlying23 rfl) ?_
                        refine DL.if rfl rfl (Y.eq rfl rfl) (fun c70 => ?_) (fun c70 => ?_)
                        · refine DL.y rfl rfl (Y.pickT rfl) ?_
                          exact DL.nil ⟨by (show Value.bool _ = Value.bool _; rw [hg1]; simp only [n1, decide_eq_true c15, decide_eq_true c19, decide_eq_false c24, decide_eq_true c28, decide_eq_false c34, decide_eq_true c38, decide_eq_false c44, decide_eq_true c49, decide_eq_true c55, decide_eq_true c70]; first | done | rfl), rfl⟩
                        · refine DL.y rfl rfl (Y.pickT rfl) ?_
                          exact DL.nil ⟨by (show Value.bool _ = Value.bool _; rw [hg1]; simp only [n1, decide_eq_true c15, decide_eq_true c19, decide_eq_false c24, decide_eq_true c28, decide_eq_false c34, decide_eq_true c38, decide_eq_false c44, decide_eq_true c49, decide_eq_true c55, decide_eq_false c70]; first | done | rfl), rfl⟩
                      · refine DL.y rfl rfl (Y.move) ?_
                        refine DL.y rfl rfl (Y.field F.fd26_4 rfl) ?_
                        refine DL.y rfl rfl (Y.loadB F.sc24 rfl hb4 rfl) ?_
                        refine DL.y rfl rfl (Y.lenS Tryd.underlying24 rfl) ?_
                        refine DL.if rfl rfl (Y.eq rfl rfl) (fun c60 => ?_) (fun c60 => ?_)
                        · refine DL.y rfl rfl (Y.pickF rfl) ?_
                          refine DL.y rfl rfl (Y.pickT rfl) ?_
                          refine DL.y rfl rfl (Y.move) ?_
                          refine DL.y rfl rfl (Y.field F.fd26_4 rfl) ?_
                          refine DL.y rfl rfl (Y.loadB F.sc24 rfl hb4 rfl) ?_
                          refine DL.y rfl rfl (Y.lenS Tryd.underlying24 rfl) ?_
                          refine DL.y rfl rfl (Y.field F.fd26_5 rfl) ?_
                          refine DL.y rfl rfl (Y.loadB F.sc23 rfl hb4 rfl) ?_
                          refine DL.y rfl rfl (Y.lenS Tryd.underlying23 rfl) ?_
                          refine DL.if rfl rfl (Y.eq rfl rfl) (fun c70 => ?_) (fun c70 => ?_)
                          · refine DL.y rfl rfl (Y.pickT rfl) ?_
                            exact DL.nil ⟨by (show Value.bool _ = Value.bool _; rw [hg1]; simp only [n1, decide_eq_true c15, decide_eq_true c19, decide_eq_false c24, decide_eq_true c28, decide_eq_false c34, decide_eq_true c38, decide_eq_false c44, decide_eq_true c49, decide_eq_false c55, decide_eq_true c60, decide_eq_true c70]; first | done | rfl), rfl⟩
                          · refine DL.y rfl rfl (Y.pickT rfl) ?_
                            exact DL.nil ⟨by (show Value.bool _ = Value.bool _; rw [hg1]; simp only [n1, decide_eq_true c15, decide_eq_true c19, decide_eq_false c24, decide_eq_true c28, decide_eq_false c34, decide_eq_true c38, decide_eq_false c44, decide_eq_true c49, decide_eq_false c55, decide_eq_true c60, decide_eq_false c70]; first | done | rfl), rfl⟩
                        · refine DL.y rfl rfl (Y.pickF rfl) ?_
                          refine DL.y rfl rfl (Y.pickT rfl) ?_
                          refine DL.y rfl rfl (Y.move) ?_
                          refine DL.skip rfl rfl ?_
                          refine DL.skip rfl rfl ?_
                          refine DL.skip rfl rfl ?_
                          refine DL.skip rfl rfl ?_
                          refine DL.skip rfl rfl ?_
                          refine DL.skip rfl rfl ?_
                          refine DL.skip rfl rfl ?_
                          refine DL.y rfl rfl (Y.pickF rfl) ?_
                          exact DL.nil ⟨by (show Value.bool _ = Value.bool _; rw [hg1]; simp only [n1, decide_eq_true c15, decide_eq_true c19, decide_eq_false c24, decide_eq_true c28, decide_eq_false c34, decide_eq_true c38, decide_eq_false c44, decide_eq_true c49, decide_eq_false c55, decide_eq_false c60]; first | done | rfl), rfl⟩
                    · refine DL.y rfl rfl (Y.pickF rfl) ?_
                      refine DL.y rfl rfl (Y.pickT rfl) ?_
                      refine DL.y rfl rfl (Y.move) ?_
                      refine DL.skip rfl rfl ?_
                      refine DL.skip rfl rfl ?_
                      refine DL.skip rfl rfl ?_
                      refine DL.skip rfl rfl ?_
                      refine DL.skip rfl rfl ?_
                      refine DL.skip rfl rfl ?_
                      refine DL.skip rfl rfl ?_
                      refine DL.skip rfl rfl ?_
                      refine DL.skip rfl rfl ?_
                      refine DL.y rfl rfl (Y.pickF rfl) ?_
                      refine DL.y rfl rfl (Y.move) ?_
                      refine DL.skip rfl rfl ?_
                      refine DL.skip rfl rfl ?_
                      refine DL.skip rfl rfl ?_
                      refine DL.skip rfl rfl ?_
                      refine DL.skip rfl rfl ?_
                      refine DL.skip rfl rfl ?_
                      refine DL.skip rfl rfl ?_
                      refine DL.y rfl rfl (Y.pickF rfl) ?_
                      exact DL.nil ⟨by (show Value.bool _ = Value.bool _; rw [hg1]; simp only [n1, decide_eq_true c15, decide_eq_true c19, decide_eq_false c24, decide_eq_true c28, decide_eq_false c34, decide_eq_true c38, decide_eq_false c44, decide_eq_false c49]; first | done | rfl), rfl⟩
                · refine DL.y rfl rfl (Y.pickF rfl) ?_
                  refine DL.y rfl rfl (Y.pickT rfl) ?_
                  refine DL.y rfl rfl (Y.move) ?_
                  refine DL.skip rfl rfl ?_
                  refine DL.skip rfl rfl ?_
                  refine DL.skip rfl rfl ?_
                  refine DL.skip rfl rfl ?_
                  refine DL.skip rfl rfl ?_
                  refine DL.skip rfl rfl ?_
                  refine DL.skip rfl rfl ?_
                  refine DL.skip rfl rfl ?_
                  refine DL.skip rfl rfl ?_
                  refine DL.y rfl rfl (Y.pickF rfl) ?_
                  refine DL.y rfl rfl (Y.move) ?_
                  refine DL.skip rfl rfl ?_
                  refine DL.skip rfl rfl ?_
                  refine DL.skip rfl rfl ?_
                  refine DL.skip rfl rfl ?_
                  refine DL.skip rfl rfl ?_
                  refine DL.skip rfl rfl ?_
                  refine DL.skip rfl rfl ?_
                  refine DL.skip rfl rfl ?_
                  refine DL.skip rfl rfl ?_
                  refine DL.y rfl rfl (Y.pickF rfl) ?_
                  refine DL.y rfl rfl (Y.move) ?_
                  refine DL.skip rfl rfl ?_
                  refine DL.skip rfl rfl ?_
                  refine DL.skip rfl rfl ?_
                  refine DL.skip rfl rfl ?_
                  refine DL.skip rfl rfl ?_
                  refine DL.skip rfl rfl ?_
                  refine DL.skip rfl rfl ?_
                  refine DL.y rfl rfl (Y.pickF rfl) ?_
                  exact DL.nil ⟨by (show Value.bool _ = Value.bool _; rw [hg1]; simp only [n1, decide_eq_true c15, decide_eq_true c19, decide_eq_false c24, decide_eq_true c28, decide_eq_false c34, decide_eq_false c38]; first | done | rfl), rfl⟩
            · refine DL.y rfl rfl (Y.pickF rfl) ?_
              refine DL.y rfl rfl (Y.pickT rfl) ?_
              refine DL.y rfl rfl (Y.move) ?_
              refine DL.skip rfl rfl ?_
              refine DL.skip rfl rfl ?_
              refine DL.skip rfl rfl ?_
              refine DL.skip rfl rfl ?_
              refine DL.skip rfl rfl ?_
              refine DL.skip rfl rfl ?_
              refine DL.skip rfl rfl ?_
              refine DL.skip rfl rfl ?_
              refine DL.y rfl rfl (Y.pickF rfl) ?_
              refine DL.y rfl rfl (Y.move) ?_
              refine DL.skip rfl rfl ?_
              refine DL.skip rfl rfl ?_
              refine DL.skip rfl rfl ?_
              refine DL.skip rfl rfl ?_
              refine DL.skip rfl rfl ?_
              refine DL.skip rfl rfl ?_
              refine DL.skip rfl rfl ?_
              refine DL.skip rfl rfl ?_
              refine DL.skip rfl rfl ?_
              refine DL.y rfl rfl (Y.pickF rfl) ?_
              refine DL.y rfl rfl (Y.move) ?_
              refine DL.skip rfl rfl ?_
              refine DL.skip rfl rfl ?_
              refine DL.skip rfl rfl ?_
              refine DL.skip rfl rfl ?_
              refine DL.skip rfl rfl ?_
              refine DL.skip rfl rfl ?_
              refine DL.skip rfl rfl ?_
              refine DL.skip rfl rfl ?_
              refine DL.skip rfl rfl ?_
              refine DL.y rfl rfl (Y.pickF rfl) ?_
              refine DL.y rfl rfl (Y.move) ?_
              refine DL.skip rfl rfl ?_
              refine DL.skip rfl rfl ?_
              refine DL.skip rfl rfl ?_
              refine DL.skip rfl rfl ?_
              refine DL.skip rfl rfl ?_
              refine DL.skip rfl rfl ?_
              refine DL.skip rfl rfl ?_
              refine DL.y rfl rfl (Y.pickF rfl) ?_
              exact DL.nil ⟨by (show Value.bool _ = Value.bool _; rw [hg1]; simp only [n1, decide_eq_true c15, decide_eq_true c19, decide_eq_false c24, decide_eq_false c28]; first | done | rfl), rfl⟩
        · refine DL.y rfl rfl (Y.pickT rfl) ?_
          refine DL.y rfl rfl (Y.move) ?_
          refine DL.skip rfl rfl ?_
          refine DL.skip rfl rfl ?_
          refine DL.skip rfl rfl ?_
          refine DL.skip rfl rfl ?_
          refine DL.skip rfl rfl ?_
          refine DL.skip rfl rfl ?_
          refine DL.skip rfl rfl ?_
          refine DL.skip rfl rfl ?_
          refine DL.y rfl rfl (Y.pickF rfl) ?_
          refine DL.y rfl rfl (Y.move) ?_
          refine DL.skip rfl rfl ?_
          refine DL.skip rfl rfl ?_
          refine DL.skip rfl rfl ?_
          refine DL.skip rfl rfl ?_
          refine DL.skip rfl rfl ?_
          refine DL.skip rfl rfl ?_
          refine DL.skip rfl rfl ?_
          refine DL.skip rfl rfl ?_
          refine DL.y rfl rfl (Y.pickF rfl) ?_
          refine DL.y rfl rfl (Y.move) ?_
          refine DL.skip rfl rfl ?_
          refine DL.skip rfl rfl ?_
          refine DL.skip rfl rfl ?_
          refine DL.skip rfl rfl ?_
          refine DL.skip rfl rfl ?_
          refine DL.skip rfl rfl ?_
          refine DL.skip rfl rfl ?_
          refine DL.skip rfl rfl ?_
          refine DL.skip rfl rfl ?_
          refine DL.y rfl rfl (Y.pickF rfl) ?_
          refine DL.y rfl rfl (Y.move) ?_
          refine DL.skip rfl rfl ?_
          refine DL.skip rfl rfl ?_
          refine DL.skip rfl rfl ?_
          refine DL.skip rfl rfl ?_
          refine DL.skip rfl rfl ?_
          refine DL.skip rfl rfl ?_
          refine DL.skip rfl rfl ?_
          refine DL.skip rfl rfl ?_
          refine DL.skip rfl rfl ?_
          refine DL.y rfl rfl (Y.pickF rfl) ?_
          refine DL.y rfl rfl (Y.move) ?_
          refine DL.skip rfl rfl ?_
          refine DL.skip rfl rfl ?_
          refine DL.skip rfl rfl ?_
          refine DL.skip rfl rfl ?_
          refine DL.skip rfl rfl ?_
          refine DL.skip rfl rfl ?_
          refine DL.skip rfl rfl ?_
          refine DL.y rfl rfl (Y.pickF rfl) ?_
          exact DL.nil ⟨by (show Value.bool _ = Value.bool _; rw [hg1]; simp only [n1, decide_eq_true c15, decide_eq_false c19]; first | done | rfl), rfl⟩
      · refine DL.y rfl rfl (Y.move) ?_
        refine DL.skip rfl rfl ?_
        refine DL.skip rfl rfl ?_
        refine DL.skip rfl rfl ?_
        refine DL.y rfl rfl (Y.pickF rfl) ?_
        refine DL.y rfl rfl (Y.move) ?_
        refine DL.skip rfl rfl ?_
        refine DL.skip rfl rfl ?_
        refine DL.skip rfl rfl ?_
        refine DL.skip rfl rfl ?_
        refine DL.skip rfl rfl ?_
        refine DL.skip rfl rfl ?_
        refine DL.skip rfl rfl ?_
        refine DL.skip rfl rfl ?_
        refine DL.y rfl rfl (Y.pickF rfl) ?_
        refine DL.y rfl rfl (Y.move) ?_
        refine DL.skip rfl rfl ?_
        refine DL.skip rfl rfl ?_
        refine DL.skip rfl rfl ?_
        refine DL.skip rfl rfl ?_
        refine DL.skip rfl rfl ?_
        refine DL.skip rfl rfl ?_
        refine DL.skip rfl rfl ?_
        refine DL.skip rfl rfl ?_
        refine DL.y rfl rfl (Y.pickF rfl) ?_
        refine DL.y rfl rfl (Y.move) ?_
        refine DL.skip rfl rfl ?_
        refine DL.skip rfl rfl ?_
        refine DL.skip rfl rfl ?_
        refine DL.skip rfl rfl ?_
        refine DL.skip rfl rfl ?_
        refine DL.skip rfl rfl ?_
        refine DL.skip rfl rfl ?_
        refine DL.skip rfl rfl ?_
        refine DL.skip rfl rfl ?_
        refine DL.y rfl rfl (Y.pickF rfl) ?_
        refine DL.y rfl rfl (Y.move) ?_
        refine DL.skip rfl rfl ?_
        refine DL.skip rfl rfl ?_
        refine DL.skip rfl rfl ?_
        refine DL.skip rfl rfl ?_
        refine DL.skip rfl rfl ?_
        refine DL.skip rfl rfl ?_
        refine DL.skip rfl rfl ?_
        refine DL.skip rfl rfl ?_
        refine DL.skip rfl rfl ?_
        refine DL.y rfl rfl (Y.pickF rfl) ?_
        refine DL.y rfl rfl (Y.move) ?_
        refine DL.skip rfl rfl ?_
        refine DL.skip rfl rfl ?_
        refine DL.skip rfl rfl ?_
        refine DL.skip rfl rfl ?_
        refine DL.skip rfl rfl ?_
        refine DL.skip rfl rfl ?_
        refine DL.skip rfl rfl ?_
        refine DL.y rfl rfl (Y.pickF rfl) ?_
        exact DL.nil ⟨by (show Value.bool _ = Value.bool _; rw [hg1]; simp only [n1, decide_eq_false c15]; first | done | rfl), rfl⟩
    · rintro j _ hcut; obtain rfl := hcut.symm
      refine DL.call rfl rfl F.nm41 rfl (want_any b _ _ _ _ _ hb) ?_
      rintro _ w6 f7 hb
      replace FR := FR.put f7 (by intro i hi; simp only [List.mem_cons, List.mem_singleton, List.not_mem_nil, or_false] at hi; rcases hi with rfl; all_goals (first | (left; simp; done) | (right; omega)))
      replace hR := hR.fr f7 (by intro x hx; simp <;> omega)
      replace hT := hT.fr f7 (by intro x hx; simp <;> omega)
      replace hb4 := f7.blk hb4 (by simp only [List.mem_cons, List.not_mem_nil, or_false, not_or]; omega)
      replace hi4 := Nat.lt_of_lt_of_le hi4 f7.size
      refine DL.nil ?_
      show DC _ _ _ _ _ _
      refine DC.seq ?_
      refine DC.region ?_
      refine DL.y rfl rfl (Y.move) ?_
      refine DL.cut 24 [(74, 97)] 97 (.bool g2) (fun w' => w' = w6) rfl ?_ ?_
      · refine DL.y rfl rfl (Y.field F.fd26_1 rfl) ?_
        refine DL.y rfl rfl (Y.loadB F.sc3 rfl hb4 rfl) ?_
        refine DL.if rfl rfl (Y.ge rfl rfl) (fun c76 => ?_) (fun c76 => ?_)
        · refine DL.y rfl rfl (Y.move) ?_
          refine DL.y rfl rfl (Y.field F.fd26_1 rfl) ?_
          refine DL.y rfl rfl (Y.loadB F.sc3 rfl hb4 rfl) ?_
          refine DL.if rfl rfl (Y.le rfl rfl) (fun c80 => ?_) (fun c80 => ?_)
          · refine DL.y rfl rfl (Y.pickT rfl) ?_
            refine DL.y rfl rfl (Y.move) ?_
            refine DL.y rfl rfl (Y.field F.fd26_1 rfl) ?_
            refine DL.y rfl rfl (Y.loadB F.sc3 rfl hb4 rfl) ?_
            refine DL.y rfl rfl (Y.rem rfl rfl (by decide)) ?_
            refine DL.if rfl rfl (Y.eq rfl rfl) (fun c86 => ?_) (fun c86 => ?_)
            · refine DL.y rfl rfl (Y.move) ?_
              refine DL.skip rfl rfl ?_
              refine DL.skip rfl rfl ?_
              refine DL.skip rfl rfl ?_
              refine DL.skip rfl rfl ?_
              refine DL.skip rfl rfl ?_
              refine DL.skip rfl rfl ?_
              refine DL.skip rfl rfl ?_
              refine DL.skip rfl rfl ?_
              refine DL.y rfl rfl (Y.pickT rfl) ?_
              refine DL.y rfl rfl (Y.pickT rfl) ?_
              exact DL.nil ⟨by (show Value.bool _ = Value.bool _; rw [hg2]; simp only [n2, decide_eq_true c76, decide_eq_true c80, decide_eq_true c86]; first | done | rfl), rfl⟩
            · refine DL.y rfl rfl (Y.move) ?_
              refine DL.y rfl rfl (Y.field F.fd26_1 rfl) ?_
              refine DL.y rfl rfl (Y.loadB F.sc3 rfl hb4 rfl) ?_
              refine DL.if rfl rfl (Y.gt rfl rfl) (fun c90 => ?_) (fun c90 => ?_)
              · refine DL.y rfl rfl (Y.move) ?_
                refine DL.y rfl rfl (Y.field F.fd26_1 rfl) ?_
                refine DL.y rfl rfl (Y.loadB F.sc3 rfl hb4 rfl) ?_
                refine DL.if rfl rfl (Y.lt rfl rfl) (fun c94 => ?_) (fun c94 => ?_)
                · refine DL.y rfl rfl (Y.pickT rfl) ?_
                  refine DL.y rfl rfl (Y.pickF rfl) ?_
                  refine DL.y rfl rfl (Y.pickT rfl) ?_
                  exact DL.nil ⟨by (show Value.bool _ = Value.bool _; rw [hg2]; simp only [n2, decide_eq_true c76, decide_eq_true c80, decide_eq_false c86, decide_eq_true c90, decide_eq_true c94]; first | done | rfl), rfl⟩
                · refine DL.y rfl rfl (Y.pickT rfl) ?_
                  refine DL.y rfl rfl (Y.pickF rfl) ?_
                  refine DL.y rfl rfl (Y.pickT rfl) ?_
                  exact DL.nil ⟨by (show Value.bool _ = Value.bool _; rw [hg2]; simp only [n2, decide_eq_true c76, decide_eq_true c80, decide_eq_false c86, decide_eq_true c90, decide_eq_false c94]; first | done | rfl), rfl⟩
              · refine DL.y rfl rfl (Y.move) ?_
                refine DL.skip rfl rfl ?_
                refine DL.skip rfl rfl ?_
                refine DL.skip rfl rfl ?_
                refine DL.y rfl rfl (Y.pickF rfl) ?_
                refine DL.y rfl rfl (Y.pickF rfl) ?_
                refine DL.y rfl rfl (Y.pickT rfl) ?_
                exact DL.nil ⟨by (show Value.bool _ = Value.bool _; rw [hg2]; simp only [n2, decide_eq_true c76, decide_eq_true c80, decide_eq_false c86, decide_eq_false c90]; first | done | rfl), rfl⟩
          · refine DL.y rfl rfl (Y.pickT rfl) ?_
            refine DL.y rfl rfl (Y.move) ?_
            refine DL.skip rfl rfl ?_
            refine DL.skip rfl rfl ?_
            refine DL.skip rfl rfl ?_
            refine DL.skip rfl rfl ?_
            refine DL.skip rfl rfl ?_
            refine DL.skip rfl rfl ?_
            refine DL.skip rfl rfl ?_
            refine DL.skip rfl rfl ?_
            refine DL.skip rfl rfl ?_
            refine DL.skip rfl rfl ?_
            refine DL.skip rfl rfl ?_
            refine DL.skip rfl rfl ?_
            refine DL.skip rfl rfl ?_
            refine DL.skip rfl rfl ?_
            refine DL.y rfl rfl (Y.pickF rfl) ?_
            exact DL.nil ⟨by (show Value.bool _ = Value.bool _; rw [hg2]; simp only [n2, decide_eq_true c76, decide_eq_false c80]; first | done | rfl), rfl⟩
        · refine DL.y rfl rfl (Y.move) ?_
          refine DL.skip rfl rfl ?_
          refine DL.skip rfl rfl ?_
          refine DL.skip rfl rfl ?_
          refine DL.y rfl rfl (Y.pickF rfl) ?_
          refine DL.y rfl rfl (Y.move) ?_
          refine DL.skip rfl rfl ?_
          refine DL.skip rfl rfl ?_
          refine DL.skip rfl rfl ?_
          refine DL.skip rfl rfl ?_
          refine DL.skip rfl rfl ?_
          refine DL.skip rfl rfl ?_
          refine DL.skip rfl rfl ?_
          refine DL.skip rfl rfl ?_
          refine DL.skip rfl rfl ?_
          refine DL.skip rfl rfl ?_
          refine DL.skip rfl rfl ?_
          refine DL.skip rfl rfl ?_
          refine DL.skip rfl rfl ?_
          refine DL.skip rfl rfl ?_
          refine DL.y rfl rfl (Y.pickF rfl) ?_
          exact DL.nil ⟨by (show Value.bool _ = Value.bool _; rw [hg2]; simp only [n2, decide_eq_false c76]; first | done | rfl), rfl⟩
      · rintro j _ hcut; obtain rfl := hcut.symm
        refine DL.call rfl rfl F.nm41 rfl (want_any b _ _ _ _ _ hb) ?_
        rintro _ w9 f10 hb
        replace FR := FR.put f10 (by intro i hi; simp only [List.mem_cons, List.mem_singleton, List.not_mem_nil, or_false] at hi; rcases hi with rfl; all_goals (first | (left; simp; done) | (right; omega)))
        replace hR := hR.fr f10 (by intro x hx; simp <;> omega)
        replace hT := hT.fr f10 (by intro x hx; simp <;> omega)
        replace hb4 := f10.blk hb4 (by simp only [List.mem_cons, List.not_mem_nil, or_false, not_or]; omega)
        replace hi4 := Nat.lt_of_lt_of_le hi4 f10.size
        refine DL.nil ?_
        show DC _ _ _ _ _ _
        refine DC.seq ?_
        refine DC.region ?_
        refine DL.y rfl rfl (Y.move) ?_
        refine DL.y rfl rfl (Y.field F.fd26_2 rfl) ?_
        refine DL.y rfl rfl (Y.loadB F.sc9 rfl hb4 rfl) ?_
        have hxs : ((!g1) || (!g2)) = false → 0 ≤ n ∧ n ≤ 2000 := by
          obtain ⟨q1, q2, q3, q4, q5⟩ := hr1 rfl
          obtain ⟨q6, q7, q8, q9⟩ := hx q1
          intro _; exact ⟨q8, q9⟩
        refine DL.call rfl rfl F.nm42 rfl (str_any b _ _ _ _ _ hb (by omega) bt hT hxs) ?_
        rintro _ w11 f12 ⟨n4, bad4, hb, hx4⟩
        replace FR := FR.put f12 (by intro i hi; simp only [List.mem_cons, List.mem_singleton, List.not_mem_nil, or_false] at hi; rcases hi with rfl; all_goals (first | (left; simp; done) | (right; omega)))
        replace hR := hR.fr f12 (by intro x hx; simp <;> omega)
        replace hT := hT.fr f12 (by intro x hx; simp <;> omega)
        replace hb4 := f12.blk hb4 (by simp only [List.mem_cons, List.not_mem_nil, or_false, not_or]; omega)
        replace hi4 := Nat.lt_of_lt_of_le hi4 f12.size
        refine DL.nil ?_
        show DC _ _ _ _ _ _
        refine DC.seq ?_
        refine DC.seq ?_
        refine DC.region ?_
        refine DL.y rfl rfl (Y.assign) ?_
        refine DL.nil ?_
        show DC _ _ _ _ _ _
        refine DC.block ?_
        refine DC.loop (σ := Nat × Int × Int × Bool) [(6, 6), (103, 125)] (fun (k, _, _, _) => [(6, .int .i64 (k : Int))]) (fun sg wl => Fr [b] w11 wl ∧ (fun (k, p', n', bad') w' => k ≤ list.length ∧ w'.heap[b]? = some (.cells (lk p' n' bad') 52 (0, 0)) ∧ (bad' = false → ((g1 = true ∧ g2 = true ∧ Lib.validD text.data.toList = true) ∧ bad = false) ∧ (∀ i (h : i < list.length), i < k → Good list[i]) ∧ p' = p + 1 + V.nodesL (list.take k) ∧ n' = n + text.size + V.bytesL (list.take k) ∧ p' ≤ 400 ∧ n' ≤ 2000)) sg wl) (fun (k, _, _, _) => list.length - k) ((0, p1, n4, bad4)) rfl ?_ ?_ ?_
        · exact rfl
        · exact ⟨Fr.refl _ _, Nat.zero_le _, hb, fun h => by obtain ⟨e1, e2, e3, e4⟩ := hx4 h; have e56 : g1 = true ∧ g2 = true := (by simpa using e1); obtain ⟨q1, q2, q3, q4, q5⟩ := hr1 rfl; exact ⟨⟨⟨e56.1, e56.2, e4⟩, q1⟩, fun i h hi => by omega, by simp [V.nodesL]; omega, by simp [V.bytesL]; omega, by omega, e3⟩⟩
        · rintro ⟨k, p5, n5, bad5⟩ j w13 ⟨f14, hk5, hb, hx5⟩
          replace FR := FR.put f14 (by intro i hi; simp only [List.mem_cons, List.mem_singleton, List.not_mem_nil, or_false] at hi; rcases hi with rfl; all_goals (first | (left; simp; done) | (right; omega)))
          replace hR := hR.fr f14 (by intro x hx; simp <;> omega)
          replace hT := hT.fr f14 (by intro x hx; simp <;> omega)
          replace hb4 := f14.blk hb4 (by simp only [List.mem_cons, List.not_mem_nil, or_false, not_or]; omega)
          replace hi4 := Nat.lt_of_lt_of_le hi4 f14.size
          have G15 := f14
          have HG15 := Fr.refl [b] w13
          refine DC.seq ?_
          refine DC.seq ?_
          refine DC.region ?_
          refine DL.cut 12 [(103, 114)] 114 (.bool (decide ((k : Int) < (list.length : Int)) && !bad5)) (fun w' => w' = w13) rfl ?_ ?_
          · refine DL.y rfl rfl (Y.move) ?_
            refine DL.y rfl rfl (Y.field F.fd26_3 rfl) ?_
            refine DL.y rfl rfl (Y.loadB F.sc23 rfl hb4 rfl) ?_
            refine DL.y rfl rfl (Y.lenS Tryd.underlying23 rfl) ?_
            refine DL.if rfl rfl (Y.lt rfl rfl) (fun c107 => ?_) (fun c107 => ?_)
            · refine DL.y rfl rfl (Y.move) ?_
              refine DL.y rfl rfl (Y.move) ?_
              refine DL.y rfl rfl (Y.nil rfl) ?_
              refine DL.y rfl rfl (Y.field F.fd52_2 rfl) ?_
              refine DL.ifb rfl rfl (Y.loadB F.sc4 rfl hb rfl) (fun c112 => ?_) (fun c112 => ?_)
              · refine DL.y rfl rfl (Y.not rfl) ?_
                refine DL.y rfl rfl (Y.pickT rfl) ?_
                exact DL.nil ⟨by (show Value.bool _ = Value.bool _; simp only [decide_eq_true c107, c112]; first | done | rfl), rfl⟩
              · refine DL.y rfl rfl (Y.not rfl) ?_
                refine DL.y rfl rfl (Y.pickT rfl) ?_
                exact DL.nil ⟨by (show Value.bool _ = Value.bool _; simp only [decide_eq_true c107, c112]; first | done | rfl), rfl⟩
            · refine DL.y rfl rfl (Y.move) ?_
              refine DL.skip rfl rfl ?_
              refine DL.skip rfl rfl ?_
              refine DL.skip rfl rfl ?_
              refine DL.skip rfl rfl ?_
              refine DL.skip rfl rfl ?_
              refine DL.y rfl rfl (Y.pickF rfl) ?_
              exact DL.nil ⟨by (show Value.bool _ = Value.bool _; simp only [decide_eq_false c107]; first | done | rfl), rfl⟩
          · rintro j _ hcut; obtain rfl := hcut.symm
            refine DL.nil ?_
            show DC _ _ _ _ _ _
            refine DC.cond rfl (fun c114 => ?_) (fun c114 => ?_)
            · obtain ⟨hk, hbad5⟩ : k < list.length ∧ bad5 = false := by simpa using c114
              subst hbad5
              refine DC.skip ?_
              show DC _ _ _ _ _ _
              refine DC.seq ?_
              refine DC.block ?_
              refine DC.region ?_
              refine DL.y rfl rfl (Y.move) ?_
              refine DL.y rfl rfl (Y.field F.fd26_3 rfl) ?_
              refine DL.y rfl rfl (Y.loadB F.sc23 rfl hb4 rfl) ?_
              refine DL.y rfl rfl (Y.move) ?_
              obtain ⟨ba, oa, cl, rfl, hba, hcl, hcs, hRi⟩ := hR.elem hk
              have hle : list[k].nodes ≤ m := by have := nodes_le hk; simp only [V.nodes] at hm; omega
              have hx5' : false = false → 0 ≤ p5 ∧ p5 ≤ 400 ∧ 0 ≤ n5 ∧ n5 ≤ 2000 := fun _ => by obtain ⟨q1, q3, q4, q5, q6, q7⟩ := hx5 rfl; obtain ⟨q8, q9, q10, q11⟩ := hx q1.2; omega
              refine DL.y rfl rfl (Y.index F.sl23 rfl rfl (rfl) (hk)) ?_
              refine DL.y rfl rfl (Y.loadAn hcs F.ag26 rfl hcl) ?_
              refine DL.y rfl rfl (Y.move) ?_
              refine DL.y rfl rfl (Y.addI rfl rfl (rfl) (by omega) (by omega)) ?_
              refine DL.call rfl rfl F.nm26 rfl (ih _ _ b B _ _ _ _ _ hle hRi hB h2 hT hb hx5' (by omega) (by omega)) ?_
              rintro _ w17 f18 ⟨p7, n7, bad7, hb, hx7⟩
              replace FR := FR.put f18 (by intro i hi; simp only [List.mem_cons, List.mem_singleton, List.not_mem_nil, or_false] at hi; rcases hi with rfl; all_goals (first | (left; simp; done) | (right; omega)))
              replace G15 := G15.put f18 (by intro i hi; simp only [List.mem_cons, List.mem_singleton, List.not_mem_nil, or_false] at hi; rcases hi with rfl; all_goals (first | (left; simp; done) | (right; omega)))
              replace HG15 := HG15.put f18 (by intro i hi; simp only [List.mem_cons, List.mem_singleton, List.not_mem_nil, or_false] at hi; rcases hi with rfl; all_goals (first | (left; simp; done) | (right; omega)))
              replace hR := hR.fr f18 (by intro x hx; simp <;> omega)
              replace hT := hT.fr f18 (by intro x hx; simp <;> omega)
              replace hb4 := f18.blk hb4 (by simp only [List.mem_cons, List.not_mem_nil, or_false, not_or]; omega)
              replace hi4 := Nat.lt_of_lt_of_le hi4 f18.size
              refine DL.nil ?_
              show DC _ _ _ _ _ _
              refine DC.region ?_
              refine DL.y rfl rfl (Y.move) ?_
              refine DL.y rfl rfl (Y.addI (c := ((k + 1 : Nat) : Int)) rfl rfl (by omega) (by omega) (by omega)) ?_
              refine DL.y rfl rfl (Y.assign) ?_
              refine DL.nil ?_
              refine ⟨(k + 1, p7, n7, bad7), ⟨G15, hk, hb, fun h => ?_⟩, by show list.length - (k + 1) < list.length - k; omega, rfl⟩
              obtain ⟨e1, e2, e3, e4, e5, e6⟩ := hx7 h
              obtain ⟨q1, q3, q4, q5, q6, q7⟩ := hx5 e1
              refine ⟨q1, fun i hi hik => ?_, ?_, ?_, e5, e6⟩
              · by_cases h' : i = k
                · subst h'; exact e2
                · exact q3 i hi (by omega)
              · rw [nodesL_take hk, e3, q4]; push_cast; omega
              · rw [bytesL_take hk, e4, q5]; push_cast; omega
            · refine DC.exit ?_
              show DC _ _ _ _ _ _
              refine DC.seq ?_
              refine DC.region ?_
              refine DL.y rfl rfl (Y.assign) ?_
              refine DL.nil ?_
              show DC _ _ _ _ _ _
              refine DC.block ?_
              have hx6 : bad5 = false → k = list.length := by
                intro h; subst h; simp at c114; omega
              refine DC.loop (σ := Nat × Int × Int × Bool) [(7, 7), (126, 173)] (fun (k, _, _, _) => [(7, .int .i64 (k : Int))]) (fun sg wl => Fr [b] w13 wl ∧ (fun (k, p', n', bad') w' => k ≤ keys.length ∧ w'.heap[b]? = some (.cells (lk p' n' bad') 52 (0, 0)) ∧ (bad' = false → (((g1 = true ∧ g2 = true ∧ Lib.validD text.data.toList = true) ∧ bad = false) ∧ (∀ i (h : i < list.length), Good list[i])) ∧ (∀ i (h : i < keys.length), i < k → Lib.validD keys[i].data.toList = true) ∧ (∀ i (h : i + 1 < keys.length), i + 1 < k → Op.bytesLess keys[i].toList keys[i + 1].toList = true) ∧ (∀ i (h : i < vals.length), i < k → Good vals[i]) ∧ p' = p + 1 + V.nodesL list + V.nodesL (vals.take k) ∧ n' = n + text.size + V.bytesL list + bytesK (keys.take k) + V.bytesL (vals.take k) ∧ p' ≤ 400 ∧ n' ≤ 2000)) sg wl) (fun (k, _, _, _) => keys.length - k) ((0, p5, n5, bad5)) rfl ?_ ?_ ?_
              · exact rfl
              · exact ⟨Fr.refl _ _, Nat.zero_le _, hb, fun h => by obtain ⟨q1, q3, q4, q5, q6, q7⟩ := hx5 h; have e := hx6 h; subst e; simp only [List.take_length] at q4 q5; exact ⟨⟨q1, fun i hi => q3 i hi hi⟩, fun i h hi => by omega, fun i h hi => by omega, fun i h hi => by omega, by simp [V.nodesL]; omega, by simp [V.bytesL, bytesK]; omega, q6, q7⟩⟩
              · rintro ⟨i2, p8, n8, bad8⟩ j w19 ⟨f20, hk8, hb, hx8⟩
                replace FR := FR.put f20 (by intro i hi; simp only [List.mem_cons, List.mem_singleton, List.not_mem_nil, or_false] at hi; rcases hi with rfl; all_goals (first | (left; simp; done) | (right; omega)))
                replace G15 := G15.put f20 (by intro i hi; simp only [List.mem_cons, List.mem_singleton, List.not_mem_nil, or_false] at hi; rcases hi with rfl; all_goals (first | (left; simp; done) | (right; omega)))
                replace HG15 := HG15.put f20 (by intro i hi; simp only [List.mem_cons, List.mem_singleton, List.not_mem_nil, or_false] at hi; rcases hi with rfl; all_goals (first | (left; simp; done) | (right; omega)))
                replace hR := hR.fr f20 (by intro x hx; simp <;> omega)
                replace hT := hT.fr f20 (by intro x hx; simp <;> omega)
                replace hb4 := f20.blk hb4 (by simp only [List.mem_cons, List.not_mem_nil, or_false, not_or]; omega)
                replace hi4 := Nat.lt_of_lt_of_le hi4 f20.size
                have G21 := f20
                have HG21 := Fr.refl [b] w19
                refine DC.seq ?_
                refine DC.seq ?_
                refine DC.region ?_
                refine DL.cut 12 [(126, 137)] 137 (.bool (decide ((i2 : Int) < (keys.length : Int)) && !bad8)) (fun w' => w' = w19) rfl ?_ ?_
                · refine DL.y rfl rfl (Y.move) ?_
                  refine DL.y rfl rfl (Y.field F.fd26_4 rfl) ?_
                  refine DL.y rfl rfl (Y.loadB F.sc24 rfl hb4 rfl) ?_
                  refine DL.y rfl rfl (Y.lenS Tryd.underlying24 rfl) ?_
                  refine DL.if rfl rfl (Y.lt rfl rfl) (fun c130 => ?_) (fun c130 => ?_)
                  · refine DL.y rfl rfl (Y.move) ?_
                    refine DL.y rfl rfl (Y.move) ?_
                    refine DL.y rfl rfl (Y.nil rfl) ?_
                    refine DL.y rfl rfl (Y.field F.fd52_2 rfl) ?_
                    refine DL.ifb rfl rfl (Y.loadB F.sc4 rfl hb rfl) (fun c135 => ?_) (fun c135 => ?_)
                    · refine DL.y rfl rfl (Y.not rfl) ?_
                      refine DL.y rfl rfl (Y.pickT rfl) ?_
                      exact DL.nil ⟨by (show Value.bool _ = Value.bool _; simp only [decide_eq_true c130, c135]; first | done | rfl), rfl⟩
                    · refine DL.y rfl rfl (Y.not rfl) ?_
                      refine DL.y rfl rfl (Y.pickT rfl) ?_
                      exact DL.nil ⟨by (show Value.bool _ = Value.bool _; simp only [decide_eq_true c130, c135]; first | done | rfl), rfl⟩
                  · refine DL.y rfl rfl (Y.move) ?_
                    refine DL.skip rfl rfl ?_
                    refine DL.skip rfl rfl ?_
                    refine DL.skip rfl rfl ?_
                    refine DL.skip rfl rfl ?_
                    refine DL.skip rfl rfl ?_
                    refine DL.y rfl rfl (Y.pickF rfl) ?_
                    exact DL.nil ⟨by (show Value.bool _ = Value.bool _; simp only [decide_eq_false c130]; first | done | rfl), rfl⟩
                · rintro j _ hcut; obtain rfl := hcut.symm
                  refine DL.nil ?_
                  show DC _ _ _ _ _ _
                  refine DC.cond rfl (fun c137 => ?_) (fun c137 => ?_)
                  · obtain ⟨hk2, hbad8⟩ : i2 < keys.length ∧ bad8 = false := by simpa using c137
                    subst hbad8
                    refine DC.skip ?_
                    show DC _ _ _ _ _ _
                    refine DC.seq ?_
                    refine DC.block ?_
                    refine DC.seq ?_
                    refine DC.region ?_
                    refine DL.y rfl rfl (Y.move) ?_
                    refine DL.y rfl rfl (Y.field F.fd26_4 rfl) ?_
                    refine DL.y rfl rfl (Y.loadB F.sc24 rfl hb4 rfl) ?_
                    refine DL.y rfl rfl (Y.move) ?_
                    obtain ⟨bs, os, rfl, hbs, hkc, hks⟩ := hR.keyAt hk2
                    have hx8' : false = false → 0 ≤ n8 ∧ n8 ≤ 2000 := fun _ => by obtain ⟨q1, q2, q3, q4, q5, q6, q7, q8⟩ := hx8 rfl; obtain ⟨q9, q10, q11, q12⟩ := hx q1.1.2; omega
                    refine DL.y rfl rfl (Y.index F.sl24 rfl rfl (rfl) (hk2)) ?_
                    refine DL.y rfl rfl (Y.load F.sc9 rfl hkc) ?_
                    refine DL.call rfl rfl F.nm42 rfl (str_any b _ _ _ _ _ hb (by omega) hks hT hx8') ?_
                    rintro _ w23 f24 ⟨n9, bad9, hb, hx9⟩
                    replace FR := FR.put f24 (by intro i hi; simp only [List.mem_cons, List.mem_singleton, List.not_mem_nil, or_false] at hi; rcases hi with rfl; all_goals (first | (left; simp; done) | (right; omega)))
                    replace G15 := G15.put f24 (by intro i hi; simp only [List.mem_cons, List.mem_singleton, List.not_mem_nil, or_false] at hi; rcases hi with rfl; all_goals (first | (left; simp; done) | (right; omega)))
                    replace HG15 := HG15.put f24 (by intro i hi; simp only [List.mem_cons, List.mem_singleton, List.not_mem_nil, or_false] at hi; rcases hi with rfl; all_goals (first | (left; simp; done) | (right; omega)))
                    replace G21 := G21.put f24 (by intro i hi; simp only [List.mem_cons, List.mem_singleton, List.not_mem_nil, or_false] at hi; rcases hi with rfl; all_goals (first | (left; simp; done) | (right; omega)))
                    replace HG21 := HG21.put f24 (by intro i hi; simp only [List.mem_cons, List.mem_singleton, List.not_mem_nil, or_false] at hi; rcases hi with rfl; all_goals (first | (left; simp; done) | (right; omega)))
                    replace hR := hR.fr f24 (by intro x hx; simp <;> omega)
                    replace hT := hT.fr f24 (by intro x hx; simp <;> omega)
                    replace hb4 := f24.blk hb4 (by simp only [List.mem_cons, List.not_mem_nil, or_false, not_or]; omega)
                    replace hi4 := Nat.lt_of_lt_of_le hi4 f24.size
                    replace hkc := f24.cell hkc (by simp <;> omega)
                    refine DL.nil ?_
                    show DC _ _ _ _ _ _
                    refine DC.seq ?_
                    refine DC.tail 17 F.mixed (by kernel_rfl) ?_
                    intro w25 f26 hsw25
                    replace FR := FR.tr0 f26
                    replace G15 := G15.tr0 f26
                    replace HG15 := HG15.tr0 f26
                    replace G21 := G21.tr0 f26
                    replace HG21 := HG21.tr0 f26
                    replace hR := hR.fr f26 (by intro x hx; simp <;> omega)
                    replace hT := hT.fr f26 (by intro x hx; simp <;> omega)
                    replace hb4 := f26.blk0 hb4
                    replace hi4 := Nat.lt_of_lt_of_le hi4 f26.size
                    replace hkc := f26.cell hkc (by simp <;> omega)
                    replace hb := f26.blk0 hb
                    refine DS.y rfl rfl (Y.move) ?_
                    have hk3 : i2 - 1 < keys.length := by omega
                    obtain ⟨g3, hg3⟩ : ∃ g, g = (decide ((i2 : Int) = 0) || Op.bytesLess (keys[i2 - 1]'hk3).toList (keys[i2]'hk2).toList) := ⟨_, rfl⟩
                    refine DS.cut 16 [(148, 163)] 163 (.bool g3) (fun w' => w' = w25) rfl ?_ ?_
                    · refine DS.y rfl rfl (Y.move) ?_
                      refine DS.if rfl rfl (Y.eq rfl rfl) (fun c149 => ?_) (fun c149 => ?_)
                      · refine DS.y rfl rfl (Y.move) ?_
                        refine DS.skip rfl rfl ?_
                        refine DS.skip rfl rfl ?_
                        refine DS.skip rfl rfl ?_
                        refine DS.skip rfl rfl ?_
                        refine DS.skip rfl rfl ?_
                        refine DS.skip rfl rfl ?_
                        refine DS.skip rfl rfl ?_
                        refine DS.skip rfl rfl ?_
                        refine DS.skip rfl rfl ?_
                        refine DS.skip rfl rfl ?_
                        refine DS.skip rfl rfl ?_
                        refine DS.skip rfl rfl ?_
                        refine DS.y rfl rfl (Y.pickT rfl) ?_
                        exact DS.nil ⟨by (show Value.bool _ = Value.bool _; rw [hg3]; simp only [decide_eq_true c149]; first | done | rfl), trivial⟩
                      · refine DS.y rfl rfl (Y.move) ?_
                        refine DS.y rfl rfl (Y.field F.fd26_4 rfl) ?_
                        refine DS.y rfl rfl (Y.loadB F.sc24 rfl hb4 rfl) ?_
                        refine DS.y rfl rfl (Y.move) ?_
                        refine DS.y rfl rfl (Y.subI (c := (i2 : Int) - 1) rfl rfl (by omega) (by omega) (by omega)) ?_
                        have hi3 : (i2 : Int) - 1 = ((i2 - 1 : Nat) : Int) := by omega
                        obtain ⟨bs', os', hsome, _, hkc1, _⟩ := hR.keyAt hk3
                        simp only [Option.some.injEq, Addr.mk.injEq, and_true] at hsome
                        obtain ⟨rfl, rfl⟩ := hsome
                        refine DS.y rfl rfl (Y.index F.sl24 rfl rfl (hi3) (hk3)) ?_
                        refine DS.y rfl rfl (Y.load F.sc9 rfl hkc1) ?_
                        refine DS.y rfl rfl (Y.field F.fd26_4 rfl) ?_
                        refine DS.y rfl rfl (Y.loadB F.sc24 rfl hb4 rfl) ?_
                        refine DS.y rfl rfl (Y.move) ?_
                        refine DS.y rfl rfl (Y.index F.sl24 rfl rfl (rfl) (hk2)) ?_
                        refine DS.y rfl rfl (Y.load F.sc9 rfl hkc) ?_
                        refine DS.ifb rfl rfl (Y.slt rfl rfl) (fun c162 => ?_) (fun c162 => ?_)
                        · refine DS.y rfl rfl (Y.pickF rfl) ?_
                          exact DS.nil ⟨by (show Value.bool _ = Value.bool _; rw [hg3]; simp only [decide_eq_false c149, c162]; first | done | rfl), trivial⟩
                        · refine DS.y rfl rfl (Y.pickF rfl) ?_
                          exact DS.nil ⟨by (show Value.bool _ = Value.bool _; rw [hg3]; simp only [decide_eq_false c149, c162]; first | done | rfl), trivial⟩
                    · intro j
                      refine DS.nil ?_
                      show DL _ _ _ _ _ _ _
                      refine DL.call rfl rfl F.nm41 rfl (want_any b _ _ _ _ _ hb) ?_
                      rintro _ w28 f29 hb
                      replace FR := FR.put f29 (by intro i hi; simp only [List.mem_cons, List.mem_singleton, List.not_mem_nil, or_false] at hi; rcases hi with rfl; all_goals (first | (left; simp; done) | (right; omega)))
                      replace G15 := G15.put f29 (by intro i hi; simp only [List.mem_cons, List.mem_singleton, List.not_mem_nil, or_false] at hi; rcases hi with rfl; all_goals (first | (left; simp; done) | (right; omega)))
                      replace HG15 := HG15.put f29 (by intro i hi; simp only [List.mem_cons, List.mem_singleton, List.not_mem_nil, or_false] at hi; rcases hi with rfl; all_goals (first | (left; simp; done) | (right; omega)))
                      replace G21 := G21.put f29 (by intro i hi; simp only [List.mem_cons, List.mem_singleton, List.not_mem_nil, or_false] at hi; rcases hi with rfl; all_goals (first | (left; simp; done) | (right; omega)))
                      replace HG21 := HG21.put f29 (by intro i hi; simp only [List.mem_cons, List.mem_singleton, List.not_mem_nil, or_false] at hi; rcases hi with rfl; all_goals (first | (left; simp; done) | (right; omega)))
                      replace hR := hR.fr f29 (by intro x hx; simp <;> omega)
                      replace hT := hT.fr f29 (by intro x hx; simp <;> omega)
                      replace hb4 := f29.blk hb4 (by simp only [List.mem_cons, List.not_mem_nil, or_false, not_or]; omega)
                      replace hi4 := Nat.lt_of_lt_of_le hi4 f29.size
                      replace hkc := f29.cell hkc (by simp <;> omega)
                      refine DL.nil ?_
                      show DC _ _ _ _ _ _
                      refine DC.region ?_
                      refine DL.y rfl rfl (Y.move) ?_
                      refine DL.y rfl rfl (Y.field F.fd26_5 rfl) ?_
                      refine DL.y rfl rfl (Y.loadB F.sc23 rfl hb4 rfl) ?_
                      refine DL.y rfl rfl (Y.move) ?_
                      have hkv : keys.length = vals.length := by obtain ⟨q1, _⟩ := hx8 rfl; exact (n1_spec (hg1.symm.trans q1.1.1.1)).2.2.2.2.2
                      have hv2 : i2 < vals.length := by omega
                      obtain ⟨bv', ov, cl2, rfl, hbv, hcl2, hcs2, hRv⟩ := hR.valAt hv2
                      have hle2 : vals[i2].nodes ≤ m := by have := nodes_le hv2; simp only [V.nodes] at hm; omega
                      have hx10' : (bad9 || !g3) = false → 0 ≤ p8 ∧ p8 ≤ 400 ∧ 0 ≤ n9 ∧ n9 ≤ 2000 := fun h => by simp only [Bool.or_eq_false_iff, Bool.not_eq_false'] at h; obtain ⟨h1, h2⟩ := h; obtain ⟨r1, r2, r3, r4⟩ := hx9 h1; obtain ⟨q1, q2, q3, q4, q5, q6, q7, q8⟩ := hx8 rfl; obtain ⟨q9, q10, q11, q12⟩ := hx q1.1.2; omega
                      refine DL.y rfl rfl (Y.index F.sl23 rfl rfl (rfl) (hv2)) ?_
                      refine DL.y rfl rfl (Y.loadAn hcs2 F.ag26 rfl hcl2) ?_
                      refine DL.y rfl rfl (Y.move) ?_
                      refine DL.y rfl rfl (Y.addI rfl rfl (rfl) (by omega) (by omega)) ?_
                      refine DL.call rfl rfl F.nm26 rfl (ih _ _ b B _ _ _ _ _ hle2 hRv hB h2 hT hb hx10' (by omega) (by omega)) ?_
                      rintro _ w30 f31 ⟨p11, n11, bad11, hb, hx11⟩
                      replace FR := FR.put f31 (by intro i hi; simp only [List.mem_cons, List.mem_singleton, List.not_mem_nil, or_false] at hi; rcases hi with rfl; all_goals (first | (left; simp; done) | (right; omega)))
                      replace G15 := G15.put f31 (by intro i hi; simp only [List.mem_cons, List.mem_singleton, List.not_mem_nil, or_false] at hi; rcases hi with rfl; all_goals (first | (left; simp; done) | (right; omega)))
                      replace HG15 := HG15.put f31 (by intro i hi; simp only [List.mem_cons, List.mem_singleton, List.not_mem_nil, or_false] at hi; rcases hi with rfl; all_goals (first | (left; simp; done) | (right; omega)))
                      replace G21 := G21.put f31 (by intro i hi; simp only [List.mem_cons, List.mem_singleton, List.not_mem_nil, or_false] at hi; rcases hi with rfl; all_goals (first | (left; simp; done) | (right; omega)))
                      replace HG21 := HG21.put f31 (by intro i hi; simp only [List.mem_cons, List.mem_singleton, List.not_mem_nil, or_false] at hi; rcases hi with rfl; all_goals (first | (left; simp; done) | (right; omega)))
                      replace hR := hR.fr f31 (by intro x hx; simp <;> omega)
                      replace hT := hT.fr f31 (by intro x hx; simp <;> omega)
                      replace hb4 := f31.blk hb4 (by simp only [List.mem_cons, List.not_mem_nil, or_false, not_or]; omega)
                      replace hi4 := Nat.lt_of_lt_of_le hi4 f31.size
                      replace hkc := f31.cell hkc (by simp <;> omega)
                      refine DL.nil ?_
                      show DC _ _ _ _ _ _
                      refine DC.region ?_
                      refine DL.y rfl rfl (Y.move) ?_
                      refine DL.y rfl rfl (Y.addI (c := ((i2 + 1 : Nat) : Int)) rfl rfl (by omega) (by omega) (by omega)) ?_
                      refine DL.y rfl rfl (Y.assign) ?_
                      refine DL.nil ?_
                      refine ⟨(i2 + 1, p11, n11, bad11), ⟨G21, hk2, hb, fun h => ?_⟩, by show keys.length - (i2 + 1) < keys.length - i2; omega, rfl⟩
                      obtain ⟨e1, e2, e3, e4, e5, e6⟩ := hx11 h
                      simp only [Bool.or_eq_false_iff, Bool.not_eq_false'] at e1
                      obtain ⟨e1, e7⟩ := e1
                      obtain ⟨r1, r2, r3, r4⟩ := hx9 e1
                      obtain ⟨q1, q2, q3, q4, q5, q6, q7, q8⟩ := hx8 r1
                      refine ⟨q1, fun i hi hik => ?_, fun i hi hik => ?_, fun i hi hik => ?_, ?_, ?_, e5, e6⟩
                      · by_cases h' : i = i2
                        · subst h'; exact r4
                        · exact q2 i hi (by omega)
                      · by_cases h' : i + 1 = i2
                        · subst h'
                          rw [e7] at hg3
                          have h3 := hg3.symm
                          simp only [Bool.or_eq_true, decide_eq_true_eq] at h3
                          rcases h3 with h3 | h3
                          · omega
                          · simpa using h3
                        · exact q3 i hi (by omega)
                      · by_cases h' : i = i2
                        · subst h'; exact e2
                        · exact q4 i hi (by omega)
                      · rw [nodesL_take hv2, e3, q5]; push_cast; omega
                      · rw [bytesL_take hv2, bytesK_take hk2, e4, r2, q6]; push_cast; omega
                  · refine DC.exit ?_
                    refine FinQ.end0 (Ret.mk FR ⟨p8, n8, bad8, hb, fun h => ?_⟩)
                    obtain ⟨q1, q2, q3, q4, q5, q6, q7, q8⟩ := hx8 h
                    have e : i2 = keys.length := by subst h; simp at c137; omega
                    subst e
                    obtain ⟨s1, s2, s3, s4, s5, s6⟩ := n1_spec (hg1.symm.trans q1.1.1.1)
                    obtain ⟨s7, s8⟩ := n2_spec (hg2.symm.trans q1.1.1.2.1)
                    rw [s6, List.take_length] at q5
                    rw [List.take_length, s6, List.take_length] at q6
                    exact ⟨q1.1.2, .mk ⟨s1, s2, s3, s4, s5, s6, s7, s8, q1.1.1.2.2, fun i hi => q2 i hi hi, fun i hi => q3 i hi hi⟩ q1.2 (fun i hi => q4 i hi (by omega)), by simp only [V.nodes]; push_cast; omega, by simp only [V.bytes]; push_cast; omega, q7, q8⟩


theorem value_any : ∀ m, ValueC m
  | 0 => fun v cs b B p n d bad w hm => by have := nodes_pos v; omega
  | m + 1 => value_step m (value_any m)

end Go.Proofs.YtmbleojlnaofjaaDoor
