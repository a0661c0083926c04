/- Own texts, merged: FitV, Go. -/
import Derived.Test.YtmbleojlnaofjaaGreatDoorMt02
import Derived.Test.YtmbleojlnaofjaaGreatDoorMt01
/- The walk of (*looker).value: what Fit asks of a value. -/
namespace Go.Proofs.YtmbleojlnaofjaaGreatDoor
open Go Go.RowKit D
set_option linter.unusedVariables false
set_option linter.unusedSimpArgs false


/-- What the first test asks of a node; what the second asks of its number. -/
def n1 (kind half : Int) (text : ByteArray) (ll kl vl : Nat) : Bool := decide (0 ≤ kind) && decide (kind ≤ 6) && (decide (kind = 3) || decide (half = 0)) && (decide (kind = 4) || decide (text = ⟨#[]⟩)) && (decide (kind = 5) || decide ((ll : Int) = 0)) && (decide (kind = 6) || decide ((kl : Int) = 0)) && decide ((kl : Int) = (vl : Int))
def n2 (half : Int) : Bool := decide (-18014398509481984 ≤ half) && decide (half ≤ 18014398509481984) && (decide (half.tmod 2 = 0) || (decide (-9007199254740992 < half) && decide (half < 9007199254740992)))
theorem n1_spec {kind half : Int} {text : ByteArray} {ll kl vl : Nat} (h : n1 kind half text ll kl vl = true) :
    (0 ≤ kind ∧ kind ≤ 6) ∧ (kind = 3 ∨ half = 0) ∧ (kind = 4 ∨ text = ⟨#[]⟩) ∧ (kind = 5 ∨ ll = 0) ∧ (kind = 6 ∨ kl = 0) ∧ kl = vl := by
  simp only [n1, Bool.and_eq_true, Bool.or_eq_true, decide_eq_true_eq] at h
  obtain ⟨⟨⟨⟨⟨⟨h1, h2⟩, h3⟩, h4⟩, h5⟩, h6⟩, h7⟩ := h
  exact ⟨⟨h1, h2⟩, h3, h4, by omega, by omega, by omega⟩
theorem n2_spec {half : Int} (h : n2 half = true) : (-18014398509481984 ≤ half ∧ half ≤ 18014398509481984) ∧ (half.tmod 2 = 0 ∨ (-9007199254740992 < half ∧ half < 9007199254740992)) := by
  simp only [n2, Bool.and_eq_true, Bool.or_eq_true, decide_eq_true_eq] at h
  exact h
/-- The contract of (*looker).value at values of at most m nodes. -/
def ValueC (m : Nat) : Prop := ∀ (v : V) (cs : Array Value) (b B : Nat) (p n d : Int) (bad : Bool) (w : World), v.nodes ≤ m → RV w B v cs → B ≤ b → 2 ≤ B → Tabs w →
  w.heap[b]? = some (.cells (lk p n bad) 67 (0, 0)) → (bad = false → 0 ≤ p ∧ p ≤ 400 ∧ 0 ≤ n ∧ n ≤ 2000) → 0 ≤ d → d ≤ 1000 →
  Calls Tryz.prog 45 #[.pointer (some ⟨b, 0, none⟩), .agg cs, .int .i64 d] w (Ret w [b] fun _ w' => ∃ p' n' bad', w'.heap[b]? = some (.cells (lk p' n' bad') 67 (0, 0)) ∧
    (bad' = false → bad = false ∧ Good v ∧ p' = p + v.nodes ∧ n' = n + v.bytes ∧ p' ≤ 400 ∧ n' ≤ 2000))

set_option maxHeartbeats 1000000 in
theorem value_step (m : Nat) (ih : ValueC m) : ValueC (m + 1) := by
  intro v cs b B p n d bad w hm hR hB h2 hT hb hx hd0 hd1
  obtain ⟨kind, half, text, list, keys, vals⟩ := v
  obtain ⟨la, lc, ka, kc, va, vc, rfl⟩ := hR.shape
  obtain ⟨bt, bl, bk, bv, bkind, bhalf⟩ := hR.bounds
  have hbl := lt_of_blk hb
  refine calls_of Tryz.func45 rfl rfl rfl rfl ?_
  have FR := Fr.refl [b] w
  refine DC.seq ?_
  refine DC.region ?_
  refine DL.boxA rfl rfl rfl ?_
  intro b4 w1 f2 lo4 hi4 hb4
  replace lo4 := Nat.le_trans FR.size lo4
  replace FR := FR.tr0 f2
  replace hb := f2.blk0 hb
  replace hR := hR.fr f2 (by intro x hx; simp <;> omega)
  replace hT := hT.fr f2 (by intro x hx; simp <;> omega)
  refine DL.nil ?_
  show DC _ _ _ _ _ _
  refine DC.seq ?_
  refine DC.seq ?_
  refine DC.region ?_
  refine DL.y rfl rfl (Y.move) ?_
  refine DL.y rfl rfl (Y.move) ?_
  refine DL.call rfl rfl F.nm86 rfl (part_any b _ _ _ _ _ hb hx) ?_
  rintro _ w3 f4 ⟨r1, p1, rfl, hb, hr1⟩
  replace FR := FR.put f4 (by intro i hi; simp only [List.mem_cons, List.mem_singleton, List.not_mem_nil, or_false] at hi; rcases hi with rfl; all_goals (first | (left; simp; done) | (right; omega)))
  replace hR := hR.fr f4 (by intro x hx; simp <;> omega)
  replace hT := hT.fr f4 (by intro x hx; simp <;> omega)
  replace hb4 := f4.blk hb4 (by simp only [List.mem_cons, List.not_mem_nil, or_false, not_or]; omega)
  replace hi4 := Nat.lt_of_lt_of_le hi4 f4.size
  refine DL.y rfl rfl (Y.not rfl) ?_
  refine DL.nil ?_
  show DC _ _ _ _ _ _
  refine DC.cond rfl (fun c11 => ?_) (fun c11 => ?_)
  · have hr : r1 = false := by simpa using c11
    subst hr
    refine DC.ret ?_
    exact FinQ.ret0 (Ret.mk FR ⟨p1, n, true, hb, fun h => by cases h⟩)
  · have hr : r1 = true := by simpa using c11
    subst hr
    have hd60 : d ≤ 60 := (hr1 rfl).2.2.2.2
    obtain ⟨g1, hg1⟩ : ∃ g, g = n1 kind half text list.length keys.length vals.length := ⟨_, rfl⟩
    obtain ⟨g2, hg2⟩ : ∃ g, g = n2 half := ⟨_, rfl⟩
    refine DC.skip ?_
    show DC _ _ _ _ _ _
    refine DC.seq ?_
    refine DC.region ?_
    refine DL.y rfl rfl (Y.move) ?_
    refine DL.cut 59 [(13, 71)] 71 (.bool g1) (fun w' => w' = w3) rfl ?_ ?_
    · refine DL.y rfl rfl (Y.field F.fd26_0 rfl) ?_
      refine DL.y rfl rfl (Y.loadB F.sc22 rfl hb4 rfl) ?_
      refine DL.if rfl rfl (Y.ge rfl rfl) (fun c15 => ?_) (fun c15 => ?_)
      · refine DL.y rfl rfl (Y.move) ?_
        refine DL.y rfl rfl (Y.field F.fd26_0 rfl) ?_
        refine DL.y rfl rfl (Y.loadB F.sc22 rfl hb4 rfl) ?_
        refine DL.if rfl rfl (Y.le rfl rfl) (fun c19 => ?_) (fun c19 => ?_)
        · refine DL.y rfl rfl (Y.pickT rfl) ?_
          refine DL.y rfl rfl (Y.move) ?_
          refine DL.y rfl rfl (Y.field F.fd26_0 rfl) ?_
          refine DL.y rfl rfl (Y.loadB F.sc22 rfl hb4 rfl) ?_
          refine DL.if rfl rfl (Y.eq rfl rfl) (fun c24 => ?_) (fun c24 => ?_)
          · refine DL.y rfl rfl (Y.move) ?_
            refine DL.skip rfl rfl ?_
            refine DL.skip rfl rfl ?_
            refine DL.skip rfl rfl ?_
            refine DL.y rfl rfl (Y.pickT rfl) ?_
            refine DL.y rfl rfl (Y.pickT rfl) ?_
            refine DL.y rfl rfl (Y.move) ?_
            refine DL.y rfl rfl (Y.field F.fd26_0 rfl) ?_
            refine DL.y rfl rfl (Y.loadB F.sc22 rfl hb4 rfl) ?_
            refine DL.if rfl rfl (Y.eq rfl rfl) (fun c34 => ?_) (fun c34 => ?_)
            · refine DL.y rfl rfl (Y.move) ?_
              refine DL.skip rfl rfl ?_
              refine DL.skip rfl rfl ?_
              refine DL.skip rfl rfl ?_
              refine DL.y rfl rfl (Y.pickT rfl) ?_
              refine DL.y rfl rfl (Y.pickT rfl) ?_
              refine DL.y rfl rfl (Y.move) ?_
              refine DL.y rfl rfl (Y.field F.fd26_0 rfl) ?_
              refine DL.y rfl rfl (Y.loadB F.sc22 rfl hb4 rfl) ?_
              refine DL.if rfl rfl (Y.eq rfl rfl) (fun c44 => ?_) (fun c44 => ?_)
              · refine DL.y rfl rfl (Y.move) ?_
                refine DL.skip rfl rfl ?_
                refine DL.skip rfl rfl ?_
                refine DL.skip rfl rfl ?_
                refine DL.skip rfl rfl ?_
                refine DL.y rfl rfl (Y.pickT rfl) ?_
                refine DL.y rfl rfl (Y.pickT rfl) ?_
                refine DL.y rfl rfl (Y.move) ?_
                refine DL.y rfl rfl (Y.field F.fd26_0 rfl) ?_
                refine DL.y rfl rfl (Y.loadB F.sc22 rfl hb4 rfl) ?_
                refine DL.if rfl rfl (Y.eq rfl rfl) (fun c55 => ?_) (fun c55 => ?_)
                · refine DL.y rfl rfl (Y.move) ?_
                  refine DL.skip rfl rfl ?_
                  refine DL.skip rfl rfl ?_
                  refine DL.skip rfl rfl ?_
                  refine DL.skip rfl rfl ?_
                  refine DL.y rfl rfl (Y.pickT rfl) ?_
                  refine DL.y rfl rfl (Y.pickT rfl) ?_
                  refine DL.y rfl rfl (Y.move) ?_
                  refine DL.y rfl rfl (Y.field F.fd26_4 rfl) ?_
                  refine DL.y rfl rfl (Y.loadB F.sc24 rfl hb4 rfl) ?_
                  refine DL.y rfl rfl (Y.lenS Tryz.underlying24 rfl) ?_
                  refine DL.y rfl rfl (Y.field F.fd26_5 rfl) ?_
                  refine DL.y rfl rfl (Y.loadB F.sc23 rfl hb4 rfl) ?_
                  refine DL.y rfl rfl (Y.lenS Tryz.underlying23 rfl) ?_
                  refine DL.if rfl rfl (Y.eq rfl rfl) (fun c70 => ?_) (fun c70 => ?_)
                  · refine DL.y rfl rfl (Y.pickT rfl) ?_
                    exact DL.nil ⟨by (show Value.bool _ = Value.bool _; rw [hg1]; simp only [n1, decide_eq_true c15, decide_eq_true c19, decide_eq_true c24, decide_eq_true c34, decide_eq_true c44, decide_eq_true c55, decide_eq_true c70]; first | done | rfl), rfl⟩
                  · refine DL.y rfl rfl (Y.pickT rfl) ?_
                    exact DL.nil ⟨by (show Value.bool _ = Value.bool _; rw [hg1]; simp only [n1, decide_eq_true c15, decide_eq_true c19, decide_eq_true c24, decide_eq_true c34, decide_eq_true c44, decide_eq_true c55, decide_eq_false c70]; first | done | rfl), rfl⟩
                · refine DL.y rfl rfl (Y.move) ?_
                  refine DL.y rfl rfl (Y.field F.fd26_4 rfl) ?_
                  refine DL.y rfl rfl (Y.loadB F.sc24 rfl hb4 rfl) ?_
                  refine DL.y rfl rfl (Y.lenS Tryz.underlying24 rfl) ?_
                  refine DL.if rfl rfl (Y.eq rfl rfl) (fun c60 => ?_) (fun c60 => ?_)
                  · refine DL.y rfl rfl (Y.pickF rfl) ?_
                    refine DL.y rfl rfl (Y.pickT rfl) ?_
                    refine DL.y rfl rfl (Y.move) ?_
                    refine DL.y rfl rfl (Y.field F.fd26_4 rfl) ?_
                    refine DL.y rfl rfl (Y.loadB F.sc24 rfl hb4 rfl) ?_
                    refine DL.y rfl rfl (Y.lenS Tryz.underlying24 rfl) ?_
                    refine DL.y rfl rfl (Y.field F.fd26_5 rfl) ?_
                    refine DL.y rfl rfl (Y.loadB F.sc23 rfl hb4 rfl) ?_
                    refine DL.y rfl rfl (Y.lenS Tryz.underlying23 rfl) ?_
                    refine DL.if rfl rfl (Y.eq rfl rfl) (fun c70 => ?_) (fun c70 => ?_)
                    · refine DL.y rfl rfl (Y.pickT rfl) ?_
                      exact DL.nil ⟨by (show Value.bool _ = Value.bool _; rw [hg1]; simp only [n1, decide_eq_true c15, decide_eq_true c19, decide_eq_true c24, decide_eq_true c34, decide_eq_true c44, decide_eq_false c55, decide_eq_true c60, decide_eq_true c70]; first | done | rfl), rfl⟩
                    · refine DL.y rfl rfl (Y.pickT rfl) ?_
                      exact DL.nil ⟨by (show Value.bool _ = Value.bool _; rw [hg1]; simp only [n1, decide_eq_true c15, decide_eq_true c19, decide_eq_true c24, decide_eq_true c34, decide_eq_true c44, decide_eq_false c55, decide_eq_true c60, decide_eq_false c70]; first | done | rfl), rfl⟩
                  · refine DL.y rfl rfl (Y.pickF rfl) ?_
                    refine DL.y rfl rfl (Y.pickT rfl) ?_
                    refine DL.y rfl rfl (Y.move) ?_
                    refine DL.skip rfl rfl ?_
                    refine DL.skip rfl rfl ?_
                    refine DL.skip rfl rfl ?_
                    refine DL.skip rfl rfl ?_
                    refine DL.skip rfl rfl ?_
                    refine DL.skip rfl rfl ?_
                    refine DL.skip rfl rfl ?_
                    refine DL.y rfl rfl (Y.pickF rfl) ?_
                    exact DL.nil ⟨by (show Value.bool _ = Value.bool _; rw [hg1]; simp only [n1, decide_eq_true c15, decide_eq_true c19, decide_eq_true c24, decide_eq_true c34, decide_eq_true c44, decide_eq_false c55, decide_eq_false c60]; first | done | rfl), rfl⟩
              · refine DL.y rfl rfl (Y.move) ?_
                refine DL.y rfl rfl (Y.field F.fd26_3 rfl) ?_
                refine DL.y rfl rfl (Y.loadB F.sc23 rfl hb4 rfl) ?_
                refine DL.y rfl rfl (Y.lenS Tryz.underlying23 rfl) ?_
                refine DL.if rfl rfl (Y.eq rfl rfl) (fun c49 => ?_) (fun c49 => ?_)
                · refine DL.y rfl rfl (Y.pickF rfl) ?_
                  refine DL.y rfl rfl (Y.pickT rfl) ?_
                  refine DL.y rfl rfl (Y.move) ?_
                  refine DL.y rfl rfl (Y.field F.fd26_0 rfl) ?_
                  refine DL.y rfl rfl (Y.loadB F.sc22 rfl hb4 rfl) ?_
                  refine DL.if rfl rfl (Y.eq rfl rfl) (fun c55 => ?_) (fun c55 => ?_)
                  · refine DL.y rfl rfl (Y.move) ?_
                    refine DL.skip rfl rfl ?_
                    refine DL.skip rfl rfl ?_
                    refine DL.skip rfl rfl ?_
                    refine DL.skip rfl rfl ?_
                    refine DL.y rfl rfl (Y.pickT rfl) ?_
                    refine DL.y rfl rfl (Y.pickT rfl) ?_
                    refine DL.y rfl rfl (Y.move) ?_
                    refine DL.y rfl rfl (Y.field F.fd26_4 rfl) ?_
                    refine DL.y rfl rfl (Y.loadB F.sc24 rfl hb4 rfl) ?_
                    refine DL.y rfl rfl (Y.lenS Tryz.underlying24 rfl) ?_
                    refine DL.y rfl rfl (Y.field F.fd26_5 rfl) ?_
                    refine DL.y rfl rfl (Y.loadB F.sc23 rfl hb4 rfl) ?_
                    refine DL.y rfl rfl (Y.lenS Tryz.underlying23 rfl) ?_
                    refine DL.if rfl rfl (Y.eq rfl rfl) (fun c70 => ?_) (fun c70 => ?_)
                    · refine DL.y rfl rfl (Y.pickT rfl) ?_
                      exact DL.nil ⟨by (show Value.bool _ = Value.bool _; rw [hg1]; simp only [n1, decide_eq_true c15, decide_eq_true c19, decide_eq_true c24, decide_eq_true c34, decide_eq_false c44, decide_eq_true c49, decide_eq_true c55, decide_eq_true c70]; first | done | rfl), rfl⟩
                    · refine DL.y rfl rfl (Y.pickT rfl) ?_
                      exact DL.nil ⟨by (show Value.bool _ = Value.bool _; rw [hg1]; simp only [n1, decide_eq_true c15, decide_eq_true c19, decide_eq_true c24, decide_eq_true c34, decide_eq_false c44, decide_eq_true c49, decide_eq_true c55, decide_eq_false c70]; first | done | rfl), rfl⟩
                  · refine DL.y rfl rfl (Y.move) ?_
                    refine DL.y rfl rfl (Y.field F.fd26_4 rfl) ?_
                    refine DL.y rfl rfl (Y.loadB F.sc24 rfl hb4 rfl) ?_
                    refine DL.y rfl rfl (Y.lenS Tryz.underlying24 rfl) ?_
                    refine DL.if rfl rfl (Y.eq rfl rfl) (fun c60 => ?_) (fun c60 => ?_)
                    · refine DL.y rfl rfl (Y.pickF rfl) ?_
                      refine DL.y rfl rfl (Y.pickT rfl) ?_
                      refine DL.y rfl rfl (Y.move) ?_
                      refine DL.y rfl rfl (Y.field F.fd26_4 rfl) ?_
                      refine DL.y rfl rfl (Y.loadB F.sc24 rfl hb4 rfl) ?_
                      refine DL.y rfl rfl (Y.lenS Tryz.underlying24 rfl) ?_
                      refine DL.y rfl rfl (Y.field F.fd26_5 rfl) ?_
                      refine DL.y rfl rfl (Y.loadB F.sc23 rfl hb4 rfl) ?_
                      refine DL.y rfl rfl (Y.lenS Tryz.underlying23 rfl) ?_
                      refine DL.if rfl rfl (Y.eq rfl rfl) (fun c70 => ?_) (fun c70 => ?_)
                      · refine DL.y rfl rfl (Y.pickT rfl) ?_
                        exact DL.nil ⟨by (show Value.bool _ = Value.bool _; rw [hg1]; simp only [n1, decide_eq_true c15, decide_eq_true c19, decide_eq_true c24, decide_eq_true c34, decide_eq_false c44, decide_eq_true c49, decide_eq_false c55, decide_eq_true c60, decide_eq_true c70]; first | done | rfl), rfl⟩
                      · refine DL.y rfl rfl (Y.pickT rfl) ?_
                        exact DL.nil ⟨by (show Value.bool _ = Value.bool _; rw [hg1]; simp only [n1, decide_eq_true c15, decide_eq_true c19, decide_eq_true c24, decide_eq_true c34, decide_eq_false c44, decide_eq_true c49, decide_eq_false c55, decide_eq_true c60, decide_eq_false c70]; first | done | rfl), rfl⟩
                    · refine DL.y rfl rfl (Y.pickF rfl) ?_
                      refine DL.y rfl rfl (Y.pickT rfl) ?_
                      refine DL.y rfl rfl (Y.move) ?_
                      refine DL.skip rfl rfl ?_
                      refine DL.skip rfl rfl ?_
                      refine DL.skip rfl rfl ?_
                      refine DL.skip rfl rfl ?_
                      refine DL.skip rfl rfl ?_
                      refine DL.skip rfl rfl ?_
                      refine DL.skip rfl rfl ?_
                      refine DL.y rfl rfl (Y.pickF rfl) ?_
                      exact DL.nil ⟨by (show Value.bool _ = Value.bool _; rw [hg1]; simp only [n1, decide_eq_true c15, decide_eq_true c19, decide_eq_true c24, decide_eq_true c34, decide_eq_false c44, decide_eq_true c49, decide_eq_false c55, decide_eq_false c60]; first | done | rfl), rfl⟩
                · refine DL.y rfl rfl (Y.pickF rfl) ?_
                  refine DL.y rfl rfl (Y.pickT rfl) ?_
                  refine DL.y rfl rfl (Y.move) ?_
                  refine DL.skip rfl rfl ?_
                  refine DL.skip rfl rfl ?_
                  refine DL.skip rfl rfl ?_
                  refine DL.skip rfl rfl ?_
                  refine DL.skip rfl rfl ?_
                  refine DL.skip rfl rfl ?_
                  refine DL.skip rfl rfl ?_
                  refine DL.skip rfl rfl ?_
                  refine DL.skip rfl rfl ?_
                  refine DL.y rfl rfl (Y.pickF rfl) ?_
                  refine DL.y rfl rfl (Y.move) ?_
                  refine DL.skip rfl rfl ?_
                  refine DL.skip rfl rfl ?_
                  refine DL.skip rfl rfl ?_
                  refine DL.skip rfl rfl ?_
                  refine DL.skip rfl rfl ?_
                  refine DL.skip rfl rfl ?_
                  refine DL.skip rfl rfl ?_
                  refine DL.y rfl rfl (Y.pickF rfl) ?_
                  exact DL.nil ⟨by (show Value.bool _ = Value.bool _; rw [hg1]; simp only [n1, decide_eq_true c15, decide_eq_true c19, decide_eq_true c24, decide_eq_true c34, decide_eq_false c44, decide_eq_false c49]; first | done | rfl), rfl⟩
            · refine DL.y rfl rfl (Y.move) ?_
              refine DL.y rfl rfl (Y.field F.fd26_2 rfl) ?_
              refine DL.y rfl rfl (Y.loadB F.sc9 rfl hb4 rfl) ?_
              refine DL.if rfl rfl (Y.seq rfl rfl) (fun c38 => ?_) (fun c38 => ?_)
              · refine DL.y rfl rfl (Y.pickF rfl) ?_
                refine DL.y rfl rfl (Y.pickT rfl) ?_
                refine DL.y rfl rfl (Y.move) ?_
                refine DL.y rfl rfl (Y.field F.fd26_0 rfl) ?_
                refine DL.y rfl rfl (Y.loadB F.sc22 rfl hb4 rfl) ?_
                refine DL.if rfl rfl (Y.eq rfl rfl) (fun c44 => ?_) (fun c44 => ?_)
                · refine DL.y rfl rfl (Y.move) ?_
                  refine DL.skip rfl rfl ?_
                  refine DL.skip rfl rfl ?_
                  refine DL.skip rfl rfl ?_
                  refine DL.skip rfl rfl ?_
                  refine DL.y rfl rfl (Y.pickT rfl) ?_
                  refine DL.y rfl rfl (Y.pickT rfl) ?_
                  refine DL.y rfl rfl (Y.move) ?_
                  refine DL.y rfl rfl (Y.field F.fd26_0 rfl) ?_
                  refine DL.y rfl rfl (Y.loadB F.sc22 rfl hb4 rfl) ?_
                  refine DL.if rfl rfl (Y.eq rfl rfl) (fun c55 => ?_) (fun c55 => ?_)
                  · refine DL.y rfl rfl (Y.move) ?_
                    refine DL.skip rfl rfl ?_
                    refine DL.skip rfl rfl ?_
                    refine DL.skip rfl rfl ?_
                    refine DL.skip rfl rfl ?_
                    refine DL.y rfl rfl (Y.pickT rfl) ?_
                    refine DL.y rfl rfl (Y.pickT rfl) ?_
                    refine DL.y rfl rfl (Y.move) ?_
                    refine DL.y rfl rfl (Y.field F.fd26_4 rfl) ?_
                    refine DL.y rfl rfl (Y.loadB F.sc24 rfl hb4 rfl) ?_
                    refine DL.y rfl rfl (Y.lenS Tryz.underlying24 rfl) ?_
                    refine DL.y rfl rfl (Y.field F.fd26_5 rfl) ?_
                    refine DL.y rfl rfl (Y.loadB F.sc23 rfl hb4 rfl) ?_
                    refine DL.y rfl rfl (Y.lenS Tryz.underlying23 rfl) ?_
                    refine DL.if rfl rfl (Y.eq rfl rfl) (fun c70 => ?_) (fun c70 => ?_)
                    · refine DL.y rfl rfl (Y.pickT rfl) ?_
                      exact DL.nil ⟨by (show Value.bool _ = Value.bool _; rw [hg1]; simp only [n1, decide_eq_true c15, decide_eq_true c19, decide_eq_true c24, decide_eq_false c34, decide_eq_true c38, decide_eq_true c44, decide_eq_true c55, decide_eq_true c70]; first | done | rfl), rfl⟩
                    · refine DL.y rfl rfl (Y.pickT rfl) ?_
                      exact DL.nil ⟨by (show Value.bool _ = Value.bool _; rw [hg1]; simp only [n1, decide_eq_true c15, decide_eq_true c19, decide_eq_true c24, decide_eq_false c34, decide_eq_true c38, decide_eq_true c44, decide_eq_true c55, decide_eq_false c70]; first | done | rfl), rfl⟩
                  · refine DL.y rfl rfl (Y.move) ?_
                    refine DL.y rfl rfl (Y.field F.fd26_4 rfl) ?_
                    refine DL.y rfl rfl (Y.loadB F.sc24 rfl hb4 rfl) ?_
                    refine DL.y rfl rfl (Y.lenS Tryz.underlying24 rfl) ?_
                    refine DL.if rfl rfl (Y.eq rfl rfl) (fun c60 => ?_) (fun c60 => ?_)
                    · refine DL.y rfl rfl (Y.pickF rfl) ?_
                      refine DL.y rfl rfl (Y.pickT rfl) ?_
                      refine DL.y rfl rfl (Y.move) ?_
                      refine DL.y rfl rfl (Y.field F.fd26_4 rfl) ?_
                      refine DL.y rfl rfl (Y.loadB F.sc24 rfl hb4 rfl) ?_
                      refine DL.y rfl rfl (Y.lenS Tryz.underlying24 rfl) ?_
                      refine DL.y rfl rfl (Y.field F.fd26_5 rfl) ?_
                      refine DL.y rfl rfl (Y.loadB F.sc23 rfl hb4 rfl) ?_
                      refine DL.y rfl rfl (Y.lenS Tryz.underlying23 rfl) ?_
                      refine DL.if rfl rfl (Y.eq rfl rfl) (fun c70 => ?_) (fun c70 => ?_)
                      · refine DL.y rfl rfl (Y.pickT rfl) ?_
                        exact DL.nil ⟨by (show Value.bool _ = Value.bool _; rw [hg1]; simp only [n1, decide_eq_true c15, decide_eq_true c19, decide_eq_true c24, decide_eq_false c34, decide_eq_true c38, decide_eq_true c44, decide_eq_false c55, decide_eq_true c60, decide_eq_true c70]; first | done | rfl), rfl⟩
                      · refine DL.y rfl rfl (Y.pickT rfl) ?_
                        exact DL.nil ⟨by (show Value.bool _ = Value.bool _; rw [hg1]; simp only [n1, decide_eq_true c15, decide_eq_true c19, decide_eq_true c24, decide_eq_false c34, decide_eq_true c38, decide_eq_true c44, decide_eq_false c55, decide_eq_true c60, decide_eq_false c70]; first | done | rfl), rfl⟩
                    · refine DL.y rfl rfl (Y.pickF rfl) ?_
                      refine DL.y rfl rfl (Y.pickT rfl) ?_
                      refine DL.y rfl rfl (Y.move) ?_
                      refine DL.skip rfl rfl ?_
                      refine DL.skip rfl rfl ?_
                      refine DL.skip rfl rfl ?_
                      refine DL.skip rfl rfl ?_
                      refine DL.skip rfl rfl ?_
                      refine DL.skip rfl rfl ?_
                      refine DL.skip rfl rfl ?_
                      refine DL.y rfl rfl (Y.pickF rfl) ?_
                      exact DL.nil ⟨by (show Value.bool _ = Value.bool _; rw [hg1]; simp only [n1, decide_eq_true c15, decide_eq_true c19, decide_eq_true c24, decide_eq_false c34, decide_eq_true c38, decide_eq_true c44, decide_eq_false c55, decide_eq_false c60]; first | done | rfl), rfl⟩
                · refine DL.y rfl rfl (Y.move) ?_
                  refine DL.y rfl rfl (Y.field F.fd26_3 rfl) ?_
                  refine DL.y rfl rfl (Y.loadB F.sc23 rfl hb4 rfl) ?_
                  refine DL.y rfl rfl (Y.lenS Tryz.underlying23 rfl) ?_
                  refine DL.if rfl rfl (Y.eq rfl rfl) (fun c49 => ?_) (fun c49 => ?_)
                  · refine DL.y rfl rfl (Y.pickF rfl) ?_
                    refine DL.y rfl rfl (Y.pickT rfl) ?_
                    refine DL.y rfl rfl (Y.move) ?_
                    refine DL.y rfl rfl (Y.field F.fd26_0 rfl) ?_
                    refine DL.y rfl rfl (Y.loadB F.sc22 rfl hb4 rfl) ?_
                    refine DL.if rfl rfl (Y.eq rfl rfl) (fun c55 => ?_) (fun c55 => ?_)
                    · refine DL.y rfl rfl (Y.move) ?_
                      refine DL.skip rfl rfl ?_
                      refine DL.skip rfl rfl ?_
                      refine DL.skip rfl rfl ?_
                      refine DL.skip rfl rfl ?_
                      refine DL.y rfl rfl (Y.pickT rfl) ?_
                      refine DL.y rfl rfl (Y.pickT rfl) ?_
                      refine DL.y rfl rfl (Y.move) ?_
                      refine DL.y rfl rfl (Y.field F.fd26_4 rfl) ?_
                      refine DL.y rfl rfl (Y.loadB F.sc24 rfl hb4 rfl) ?_
                      refine DL.y rfl rfl (Y.lenS Tryz.underlying24 rfl) ?_
                      refine DL.y rfl rfl (Y.field F.fd26_5 rfl) ?_
                      refine DL.y rfl rfl (Y.loadB F.sc23 rfl hb4 rfl) ?_
                      refine DL.y rfl rfl (Y.lenS Tryz.underlying23 rfl) ?_
                      refine DL.if rfl rfl (Y.eq rfl rfl) (fun c70 => ?_) (fun c70 => ?_)
                      · refine DL.y rfl rfl (Y.pickT rfl) ?_
                        exact DL.nil ⟨by (show Value.bool _ = Value.bool _; rw [hg1]; simp only [n1, decide_eq_true c15, decide_eq_true c19, decide_eq_true c24, decide_eq_false c34, decide_eq_true c38, decide_eq_false c44, decide_eq_true c49, decide_eq_true c55, decide_eq_true c70]; first | done | rfl), rfl⟩
                      · refine DL.y rfl rfl (Y.pickT rfl) ?_
                        exact DL.nil ⟨by (show Value.bool _ = Value.bool _; rw [hg1]; simp only [n1, decide_eq_true c15, decide_eq_true c19, decide_eq_true c24, decide_eq_false c34, decide_eq_true c38, decide_eq_false c44, decide_eq_true c49, decide_eq_true c55, decide_eq_false c70]; first | done | rfl), rfl⟩
                    · refine DL.y rfl rfl (Y.move) ?_
                      refine DL.y rfl rfl (Y.field F.fd26_4 rfl) ?_
                      refine DL.y rfl rfl (Y.loadB F.sc24 rfl hb4 rfl) ?_
                      refine DL.y rfl rfl (Y.lenS Tryz.underlying24 rfl) ?_
                      refine DL.if rfl rfl (Y.eq rfl rfl) (fun c60 => ?_) (fun c60 => ?_)
                      · refine DL.y rfl rfl (Y.pickF rfl) ?_
                        refine DL.y rfl rfl (Y.pickT rfl) ?_
                        refine DL.y rfl rfl (Y.move) ?_
                        refine DL.y rfl rfl (Y.field F.fd26_4 rfl) ?_
                        refine DL.y rfl rfl (Y.loadB F.sc24 rfl hb4 rfl) ?_
                        refine DL.y rfl rfl (Y.lenS Tryz.underlying24 rfl) ?_
                        refine DL.y rfl rfl (Y.field F.fd26_5 rfl) ?_
                        refine DL.y rfl rfl (Y.loadB F.sc23 rfl hb4 rfl) ?_
                        refine DL.y rfl rfl (Y.lenS Tryz.underlying23 rfl) ?_
                        refine DL.if rfl rfl (Y.eq rfl rfl) (fun c70 => ?_) (fun c70 => ?_)
                        · refine DL.y rfl rfl (Y.pickT rfl) ?_
                          exact DL.nil ⟨by (show Value.bool _ = Value.bool _; rw [hg1]; simp only [n1, decide_eq_true c15, decide_eq_true c19, decide_eq_true c24, decide_eq_false c34, decide_eq_true c38, decide_eq_false c44, decide_eq_true c49, decide_eq_false c55, decide_eq_true c60, decide_eq_true c70]; first | done | rfl), rfl⟩
                        · refine DL.y rfl rfl (Y.pickT rfl) ?_
                          exact DL.nil ⟨by (show Value.bool _ = Value.bool _; rw [hg1]; simp only [n1, decide_eq_true c15, decide_eq_true c19, decide_eq_true c24, decide_eq_false c34, decide_eq_true c38, decide_eq_false c44, decide_eq_true c49, decide_eq_false c55, decide_eq_true c60, decide_eq_false c70]; first | done | rfl), rfl⟩
                      · refine DL.y rfl rfl (Y.pickF rfl) ?_
                        refine DL.y rfl rfl (Y.pickT rfl) ?_
                        refine DL.y rfl rfl (Y.move) ?_
                        refine DL.skip rfl rfl ?_
                        refine DL.skip rfl rfl ?_
                        refine DL.skip rfl rfl ?_
                        refine DL.skip rfl rfl ?_
                        refine DL.skip rfl rfl ?_
                        refine DL.skip rfl rfl ?_
                        refine DL.skip rfl rfl ?_
                        refine DL.y rfl rfl (Y.pickF rfl) ?_
                        exact DL.nil ⟨by (show Value.bool _ = Value.bool _; rw [hg1]; simp only [n1, decide_eq_true c15, decide_eq_true c19, decide_eq_true c24, decide_eq_false c34, decide_eq_true c38, decide_eq_false c44, decide_eq_true c49, decide_eq_false c55, decide_eq_false c60]; first | done | rfl), rfl⟩
                  · refine DL.y rfl rfl (Y.pickF rfl) ?_
                    refine DL.y rfl rfl (Y.pickT rfl) ?_
                    refine DL.y rfl rfl (Y.move) ?_
                    refine DL.skip rfl rfl ?_
                    refine DL.skip rfl rfl ?_
                    refine DL.skip rfl rfl ?_
                    refine DL.skip rfl rfl ?_
                    refine DL.skip rfl rfl ?_
                    refine DL.skip rfl rfl ?_
                    refine DL.skip rfl rfl ?_
                    refine DL.skip rfl rfl ?_
                    refine DL.skip rfl rfl ?_
                    refine DL.y rfl rfl (Y.pickF rfl) ?_
                    refine DL.y rfl rfl (Y.move) ?_
                    refine DL.skip rfl rfl ?_
                    refine DL.skip rfl rfl ?_
                    refine DL.skip rfl rfl ?_
                    refine DL.skip rfl rfl ?_
                    refine DL.skip rfl rfl ?_
                    refine DL.skip rfl rfl ?_
                    refine DL.skip rfl rfl ?_
                    refine DL.y rfl rfl (Y.pickF rfl) ?_
                    exact DL.nil ⟨by (show Value.bool _ = Value.bool _; rw [hg1]; simp only [n1, decide_eq_true c15, decide_eq_true c19, decide_eq_true c24, decide_eq_false c34, decide_eq_true c38, decide_eq_false c44, decide_eq_false c49]; first | done | rfl), rfl⟩
              · refine DL.y rfl rfl (Y.pickF rfl) ?_
                refine DL.y rfl rfl (Y.pickT rfl) ?_
                refine DL.y rfl rfl (Y.move) ?_
                refine DL.skip rfl rfl ?_
                refine DL.skip rfl rfl ?_
                refine DL.skip rfl rfl ?_
                refine DL.skip rfl rfl ?_
                refine DL.skip rfl rfl ?_
                refine DL.skip rfl rfl ?_
                refine DL.skip rfl rfl ?_
                refine DL.skip rfl rfl ?_
                refine DL.skip rfl rfl ?_
                refine DL.y rfl rfl (Y.pickF rfl) ?_
                refine DL.y rfl rfl (Y.move) ?_
                refine DL.skip rfl rfl ?_
                refine DL.skip rfl rfl ?_
                refine DL.skip rfl rfl ?_
                refine DL.skip rfl rfl ?_
                refine DL.skip rfl rfl ?_
                refine DL.skip rfl rfl ?_
                refine DL.skip rfl rfl ?_
                refine DL.skip rfl rfl ?_
                refine DL.skip rfl rfl ?_
                refine DL.y rfl rfl (Y.pickF rfl) ?_
                refine DL.y rfl rfl (Y.move) ?_
                refine DL.skip rfl rfl ?_
                refine DL.skip rfl rfl ?_
                refine DL.skip rfl rfl ?_
                refine DL.skip rfl rfl ?_
                refine DL.skip rfl rfl ?_
                refine DL.skip rfl rfl ?_
                refine DL.skip rfl rfl ?_
                refine DL.y rfl rfl (Y.pickF rfl) ?_
                exact DL.nil ⟨by (show Value.bool _ = Value.bool _; rw [hg1]; simp only [n1, decide_eq_true c15, decide_eq_true c19, decide_eq_true c24, decide_eq_false c34, decide_eq_false c38]; first | done | rfl), rfl⟩
          · refine DL.y rfl rfl (Y.move) ?_
            refine DL.y rfl rfl (Y.field F.fd26_1 rfl) ?_
            refine DL.y rfl rfl (Y.loadB F.sc3 rfl hb4 rfl) ?_
            refine DL.if rfl rfl (Y.eq rfl rfl) (fun c28 => ?_) (fun c28 => ?_)
            · refine DL.y rfl rfl (Y.pickF rfl) ?_
              refine DL.y rfl rfl (Y.pickT rfl) ?_
              refine DL.y rfl rfl (Y.move) ?_
              refine DL.y rfl rfl (Y.field F.fd26_0 rfl) ?_
              refine DL.y rfl rfl (Y.loadB F.sc22 rfl hb4 rfl) ?_
              refine DL.if rfl rfl (Y.eq rfl rfl) (fun c34 => ?_) (fun c34 => ?_)
              · refine DL.y rfl rfl (Y.move) ?_
                refine DL.skip rfl rfl ?_
                refine DL.skip rfl rfl ?_
                refine DL.skip rfl rfl ?_
                refine DL.y rfl rfl (Y.pickT rfl) ?_
                refine DL.y rfl rfl (Y.pickT rfl) ?_
                refine DL.y rfl rfl (Y.move) ?_
                refine DL.y rfl rfl (Y.field F.fd26_0 rfl) ?_
                refine DL.y rfl rfl (Y.loadB F.sc22 rfl hb4 rfl) ?_
                refine DL.if rfl rfl (Y.eq rfl rfl) (fun c44 => ?_) (fun c44 => ?_)
                · refine DL.y rfl rfl (Y.move) ?_
                  refine DL.skip rfl rfl ?_
                  refine DL.skip rfl rfl ?_
                  refine DL.skip rfl rfl ?_
                  refine DL.skip rfl rfl ?_
                  refine DL.y rfl rfl (Y.pickT rfl) ?_
                  refine DL.y rfl rfl (Y.pickT rfl) ?_
                  refine DL.y rfl rfl (Y.move) ?_
                  refine DL.y rfl rfl (Y.field F.fd26_0 rfl) ?_
                  refine DL.y rfl rfl (Y.loadB F.sc22 rfl hb4 rfl) ?_
                  refine DL.if rfl rfl (Y.eq rfl rfl) (fun c55 => ?_) (fun c55 => ?_)
                  · refine DL.y rfl rfl (Y.move) ?_
                    refine DL.skip rfl rfl ?_
                    refine DL.skip rfl rfl ?_
                    refine DL.skip rfl rfl ?_
                    refine DL.skip rfl rfl ?_
                    refine DL.y rfl rfl (Y.pickT rfl) ?_
                    refine DL.y rfl rfl (Y.pickT rfl) ?_
                    refine DL.y rfl rfl (Y.move) ?_
                    refine DL.y rfl rfl (Y.field F.fd26_4 rfl) ?_
                    refine DL.y rfl rfl (Y.loadB F.sc24 rfl hb4 rfl) ?_
                    refine DL.y rfl rfl (Y.lenS Tryz.underlying24 rfl) ?_
                    refine DL.y rfl rfl (Y.field F.fd26_5 rfl) ?_
                    refine DL.y rfl rfl (Y.loadB F.sc23 rfl hb4 rfl) ?_
                    refine DL.y rfl rfl (Y.lenS Tryz.underlying23 rfl) ?_
                    refine DL.if rfl rfl (Y.eq rfl rfl) (fun c70 => ?_) (fun c70 => ?_)
                    · refine DL.y rfl rfl (Y.pickT rfl) ?_
                      exact DL.nil ⟨by (show Value.bool _ = Value.bool _; rw [hg1]; simp only [n1, decide_eq_true c15, decide_eq_true c19, decide_eq_false c24, decide_eq_true c28, decide_eq_true c34, decide_eq_true c44, decide_eq_true c55, decide_eq_true c70]; first | done | rfl), rfl⟩
                    · refine DL.y rfl rfl (Y.pickT rfl) ?_
                      exact DL.nil ⟨by (show Value.bool _ = Value.bool _; rw [hg1]; simp only [n1, decide_eq_true c15, decide_eq_true c19, decide_eq_false c24, decide_eq_true c28, decide_eq_true c34, decide_eq_true c44, decide_eq_true c55, decide_eq_false c70]; first | done | rfl), rfl⟩
                  · refine DL.y rfl rfl (Y.move) ?_
                    refine DL.y rfl rfl (Y.field F.fd26_4 rfl) ?_
                    refine DL.y rfl rfl (Y.loadB F.sc24 rfl hb4 rfl) ?_
                    refine DL.y rfl rfl (Y.lenS Tryz.underlying24 rfl) ?_
                    refine DL.if rfl rfl (Y.eq rfl rfl) (fun c60 => ?_) (fun c60 => ?_)
                    · refine DL.y rfl rfl (Y.pickF rfl) ?_
                      refine DL.y rfl rfl (Y.pickT rfl) ?_
                      refine DL.y rfl rfl (Y.move) ?_
                      refine DL.y rfl rfl (Y.field F.fd26_4 rfl) ?_
                      refine DL.y rfl rfl (Y.loadB F.sc24 rfl hb4 rfl) ?_
                      refine DL.y rfl rfl (Y.lenS Tryz.underlying24 rfl) ?_
                      refine DL.y rfl rfl (Y.field F.fd26_5 rfl) ?_
                      refine DL.y rfl rfl (Y.loadB F.sc23 rfl hb4 rfl) ?_
                      refine DL.y rfl rfl (Y.lenS Tryz.underlying23 rfl) ?_
                      refine DL.if rfl rfl (Y.eq rfl rfl) (fun c70 => ?_) (fun c70 => ?_)
                      · refine DL.y rfl rfl (Y.pickT rfl) ?_
                        exact DL.nil ⟨by (show Value.bool _ = Value.bool _; rw [hg1]; simp only [n1, decide_eq_true c15, decide_eq_true c19, decide_eq_false c24, decide_eq_true c28, decide_eq_true c34, decide_eq_true c44, decide_eq_false c55, decide_eq_true c60, decide_eq_true c70]; first | done | rfl), rfl⟩
                      · refine DL.y rfl rfl (Y.pickT rfl) ?_
                        exact DL.nil ⟨by (show Value.bool _ = Value.bool _; rw [hg1]; simp only [n1, decide_eq_true c15, decide_eq_true c19, decide_eq_false c24, decide_eq_true c28, decide_eq_true c34, decide_eq_true c44, decide_eq_false c55, decide_eq_true c60, decide_eq_false c70]; first | done | rfl), rfl⟩
                    · refine DL.y rfl rfl (Y.pickF rfl) ?_
                      refine DL.y rfl rfl (Y.pickT rfl) ?_
                      refine DL.y rfl rfl (Y.move) ?_
                      refine DL.skip rfl rfl ?_
                      refine DL.skip rfl rfl ?_
                      refine DL.skip rfl rfl ?_
                      refine DL.skip rfl rfl ?_
                      refine DL.skip rfl rfl ?_
                      refine DL.skip rfl rfl ?_
                      refine DL.skip rfl rfl ?_
                      refine DL.y rfl rfl (Y.pickF rfl) ?_
                      exact DL.nil ⟨by (show Value.bool _ = Value.bool _; rw [hg1]; simp only [n1, decide_eq_true c15, decide_eq_true c19, decide_eq_false c24, decide_eq_true c28, decide_eq_true c34, decide_eq_true c44, decide_eq_false c55, decide_eq_false c60]; first | done | rfl), rfl⟩
                · refine DL.y rfl rfl (Y.move) ?_
                  refine DL.y rfl rfl (Y.field F.fd26_3 rfl) ?_
                  refine DL.y rfl rfl (Y.loadB F.sc23 rfl hb4 rfl) ?_
                  refine DL.y rfl rfl (Y.lenS Tryz.underlying23 rfl) ?_
                  refine DL.if rfl rfl (Y.eq rfl rfl) (fun c49 => ?_) (fun c49 => ?_)
                  · refine DL.y rfl rfl (Y.pickF rfl) ?_
                    refine DL.y rfl rfl (Y.pickT rfl) ?_
                    refine DL.y rfl rfl (Y.move) ?_
                    refine DL.y rfl rfl (Y.field F.fd26_0 rfl) ?_
                    refine DL.y rfl rfl (Y.loadB F.sc22 rfl hb4 rfl) ?_
                    refine DL.if rfl rfl (Y.eq rfl rfl) (fun c55 => ?_) (fun c55 => ?_)
                    · refine DL.y rfl rfl (Y.move) ?_
                      refine DL.skip rfl rfl ?_
                      refine DL.skip rfl rfl ?_
                      refine DL.skip rfl rfl ?_
                      refine DL.skip rfl rfl ?_
                      refine DL.y rfl rfl (Y.pickT rfl) ?_
                      refine DL.y rfl rfl (Y.pickT rfl) ?_
                      refine DL.y rfl rfl (Y.move) ?_
                      refine DL.y rfl rfl (Y.field F.fd26_4 rfl) ?_
                      refine DL.y rfl rfl (Y.loadB F.sc24 rfl hb4 rfl) ?_
                      refine DL.y rfl rfl (Y.lenS Tryz.underlying24 rfl) ?_
                      refine DL.y rfl rfl (Y.field F.fd26_5 rfl) ?_
                      refine DL.y rfl rfl (Y.loadB F.sc23 rfl hb4 rfl) ?_
                      refine DL.y rfl rfl (Y.lenS Tryz.underlying23 rfl) ?_
                      refine DL.if rfl rfl (Y.eq rfl rfl) (fun c70 => ?_) (fun c70 => ?_)
                      · refine DL.y rfl rfl (Y.pickT rfl) ?_
                        exact DL.nil ⟨by (show Value.bool _ = Value.bool _; rw [hg1]; simp only [n1, decide_eq_true c15, decide_eq_true c19, decide_eq_false c24, decide_eq_true c28, decide_eq_true c34, decide_eq_false c44, decide_eq_true c49, decide_eq_true c55, decide_eq_true c70]; first | done | rfl), rfl⟩
                      · refine DL.y rfl rfl (Y.pickT rfl) ?_
                        exact DL.nil ⟨by (show Value.bool _ = Value.bool _; rw [hg1]; simp only [n1, decide_eq_true c15, decide_eq_true c19, decide_eq_false c24, decide_eq_true c28, decide_eq_true c34, decide_eq_false c44, decide_eq_true c49, decide_eq_true c55, decide_eq_false c70]; first | done | rfl), rfl⟩
                    · refine DL.y rfl rfl (Y.move) ?_
                      refine DL.y rfl rfl (Y.field F.fd26_4 rfl) ?_
                      refine DL.y rfl rfl (Y.loadB F.sc24 rfl hb4 rfl) ?_
                      refine DL.y rfl rfl (Y.lenS Tryz.underlying24 rfl) ?_
                      refine DL.if rfl rfl (Y.eq rfl rfl) (fun c60 => ?_) (fun c60 => ?_)
                      · refine DL.y rfl rfl (Y.pickF rfl) ?_
                        refine DL.y rfl rfl (Y.pickT rfl) ?_
                        refine DL.y rfl rfl (Y.move) ?_
                        refine DL.y rfl rfl (Y.field F.fd26_4 rfl) ?_
                        refine DL.y rfl rfl (Y.loadB F.sc24 rfl hb4 rfl) ?_
                        refine DL.y rfl rfl (Y.lenS Tryz.underlying24 rfl) ?_
                        refine DL.y rfl rfl (Y.field F.fd26_5 rfl) ?_
                        refine DL.y rfl rfl (Y.loadB F.sc23 rfl hb4 rfl) ?_
                        refine DL.y rfl rfl (Y.lenS Tryz.underlying23 rfl) ?_
                        refine DL.if rfl rfl (Y.eq rfl rfl) (fun c70 => ?_) (fun c70 => ?_)
                        · refine DL.y rfl rfl (Y.pickT rfl) ?_
                          exact DL.nil ⟨by (show Value.bool _ = Value.bool _; rw [hg1]; simp only [n1, decide_eq_true c15, decide_eq_true c19, decide_eq_false c24, decide_eq_true c28, decide_eq_true c34, decide_eq_false c44, decide_eq_true c49, decide_eq_false c55, decide_eq_true c60, decide_eq_true c70]; first | done | rfl), rfl⟩
                        · refine DL.y rfl rfl (Y.pickT rfl) ?_
                          exact DL.nil ⟨by (show Value.bool _ = Value.bool _; rw [hg1]; simp only [n1, decide_eq_true c15, decide_eq_true c19, decide_eq_false c24, decide_eq_true c28, decide_eq_true c34, decide_eq_false c44, decide_eq_true c49, decide_eq_false c55, decide_eq_true c60, decide_eq_false c70]; first | done | rfl), rfl⟩
                      · refine DL.y rfl rfl (Y.pickF rfl) ?_
                        refine DL.y rfl rfl (Y.pickT rfl) ?_
                        refine DL.y rfl rfl (Y.move) ?_
                        refine DL.skip rfl rfl ?_
                        refine DL.skip rfl rfl ?_
                        refine DL.skip rfl rfl ?_
                        refine DL.skip rfl rfl ?_
                        refine DL.skip rfl rfl ?_
                        refine DL.skip rfl rfl ?_
                        refine DL.skip rfl rfl ?_
                        refine DL.y rfl rfl (Y.pickF rfl) ?_
                        exact DL.nil ⟨by (show Value.bool _ = Value.bool _; rw [hg1]; simp only [n1, decide_eq_true c15, decide_eq_true c19, decide_eq_false c24, decide_eq_true c28, decide_eq_true c34, decide_eq_false c44, decide_eq_true c49, decide_eq_false c55, decide_eq_false c60]; first | done | rfl), rfl⟩
                  · refine DL.y rfl rfl (Y.pickF rfl) ?_
                    refine DL.y rfl rfl (Y.pickT rfl) ?_
                    refine DL.y rfl rfl (Y.move) ?_
                    refine DL.skip rfl rfl ?_
                    refine DL.skip rfl rfl ?_
                    refine DL.skip rfl rfl ?_
                    refine DL.skip rfl rfl ?_
                    refine DL.skip rfl rfl ?_
                    refine DL.skip rfl rfl ?_
                    refine DL.skip rfl rfl ?_
                    refine DL.skip rfl rfl ?_
                    refine DL.skip rfl rfl ?_
                    refine DL.y rfl rfl (Y.pickF rfl) ?_
                    refine DL.y rfl rfl (Y.move) ?_
                    refine DL.skip rfl rfl ?_
                    refine DL.skip rfl rfl ?_
                    refine DL.skip rfl rfl ?_
                    refine DL.skip rfl rfl ?_
                    refine DL.skip rfl rfl ?_
                    refine DL.skip rfl rfl ?_
                    refine DL.skip rfl rfl ?_
                    refine DL.y rfl rfl (Y.pickF rfl) ?_
                    exact DL.nil ⟨by (show Value.bool _ = Value.bool _; rw [hg1]; simp only [n1, decide_eq_true c15, decide_eq_true c19, decide_eq_false c24, decide_eq_true c28, decide_eq_true c34, decide_eq_false c44, decide_eq_false c49]; first | done | rfl), rfl⟩
              · refine DL.y rfl rfl (Y.move) ?_
                refine DL.y rfl rfl (Y.field F.fd26_2 rfl) ?_
                refine DL.y rfl rfl (Y.loadB F.sc9 rfl hb4 rfl) ?_
                refine DL.if rfl rfl (Y.seq rfl rfl) (fun c38 => ?_) (fun c38 => ?_)
                · refine DL.y rfl rfl (Y.pickF rfl) ?_
                  refine DL.y rfl rfl (Y.pickT rfl) ?_
                  refine DL.y rfl rfl (Y.move) ?_
                  refine DL.y rfl rfl (Y.field F.fd26_0 rfl) ?_
                  refine DL.y rfl rfl (Y.loadB F.sc22 rfl hb4 rfl) ?_
                  refine DL.if rfl rfl (Y.eq rfl rfl) (fun c44 => ?_) (fun c44 => ?_)
                  · refine DL.y rfl rfl (Y.move) ?_
                    refine DL.skip rfl rfl ?_
                    refine DL.skip rfl rfl ?_
                    refine DL.skip rfl rfl ?_
                    refine DL.skip rfl rfl ?_
                    refine DL.y rfl rfl (Y.pickT rfl) ?_
                    refine DL.y rfl rfl (Y.pickT rfl) ?_
                    refine DL.y rfl rfl (Y.move) ?_
                    refine DL.y rfl rfl (Y.field F.fd26_0 rfl) ?_
                    refine DL.y rfl rfl (Y.loadB F.sc22 rfl hb4 rfl) ?_
                    refine DL.if rfl rfl (Y.eq rfl rfl) (fun c55 => ?_) (fun c55 => ?_)
                    · refine DL.y rfl rfl (Y.move) ?_
                      refine DL.skip rfl rfl ?_
                      refine DL.skip rfl rfl ?_
                      refine DL.skip rfl rfl ?_
                      refine DL.skip rfl rfl ?_
                      refine DL.y rfl rfl (Y.pickT rfl) ?_
                      refine DL.y rfl rfl (Y.pickT rfl) ?_
                      refine DL.y rfl rfl (Y.move) ?_
                      refine DL.y rfl rfl (Y.field F.fd26_4 rfl) ?_
                      refine DL.y rfl rfl (Y.loadB F.sc24 rfl hb4 rfl) ?_
                      refine DL.y rfl rfl (Y.lenS Tryz.underlying24 rfl) ?_
                      refine DL.y rfl rfl (Y.field F.fd26_5 rfl) ?_
                      refine DL.y rfl rfl (Y.loadB F.sc23 rfl hb4 rfl) ?_
                      refine DL.y rfl rfl (Y.lenS Tryz.underlying23 rfl) ?_
                      refine DL.if rfl rfl (Y.eq rfl rfl) (fun c70 => ?_) (fun c70 => ?_)
                      · refine DL.y rfl rfl (Y.pickT rfl) ?_
                        exact DL.nil ⟨by (show Value.bool _ = Value.bool _; rw [hg1]; simp only [n1, decide_eq_true c15, decide_eq_true c19, decide_eq_false c24, decide_eq_true c28, decide_eq_false c34, decide_eq_true c38, decide_eq_true c44, decide_eq_true c55, decide_eq_true c70]; first | done | rfl), rfl⟩
                      · refine DL.y rfl rfl (Y.pickT rfl) ?_
                        exact DL.nil ⟨by (show Value.bool _ = Value.bool _; rw [hg1]; simp only [n1, decide_eq_true c15, decide_eq_true c19, decide_eq_false c24, decide_eq_true c28, decide_eq_false c34, decide_eq_true c38, decide_eq_true c44, decide_eq_true c55, decide_eq_false c70]; first | done | rfl), rfl⟩
                    · refine DL.y rfl rfl (Y.move) ?_
                      refine DL.y rfl rfl (Y.field F.fd26_4 rfl) ?_
                      refine DL.y rfl rfl (Y.loadB F.sc24 rfl hb4 rfl) ?_
                      refine DL.y rfl rfl (Y.lenS Tryz.underlying24 rfl) ?_
                      refine DL.if rfl rfl (Y.eq rfl rfl) (fun c60 => ?_) (fun c60 => ?_)
                      · refine DL.y rfl rfl (Y.pickF rfl) ?_
                        refine DL.y rfl rfl (Y.pickT rfl) ?_
                        refine DL.y rfl rfl (Y.move) ?_
                        refine DL.y rfl rfl (Y.field F.fd26_4 rfl) ?_
                        refine DL.y rfl rfl (Y.loadB F.sc24 rfl hb4 rfl) ?_
                        refine DL.y rfl rfl (Y.lenS Tryz.underlying24 rfl) ?_
                        refine DL.y rfl rfl (Y.field F.fd26_5 rfl) ?_
                        refine DL.y rfl rfl (Y.loadB F.sc23 rfl hb4 rfl) ?_
                        refine DL.y rfl rfl (Y.lenS Tryz.underlying23 rfl) ?_
                        refine DL.if rfl rfl (Y.eq rfl rfl) (fun c70 => ?_) (fun c70 => ?_)
                        · refine DL.y rfl rfl (Y.pickT rfl) ?_
                          exact DL.nil ⟨by (show Value.bool _ = Value.bool _; rw [hg1]; simp only [n1, decide_eq_true c15, decide_eq_true c19, decide_eq_false c24, decide_eq_true c28, decide_eq_false c34, decide_eq_true c38, decide_eq_true c44, decide_eq_false c55, decide_eq_true c60, decide_eq_true c70]; first | done | rfl), rfl⟩
                        · refine DL.y rfl rfl (Y.pickT rfl) ?_
                          exact DL.nil ⟨by (show Value.bool _ = Value.bool _; rw [hg1]; simp only [n1, decide_eq_true c15, decide_eq_true c19, decide_eq_false c24, decide_eq_true c28, decide_eq_false c34, decide_eq_true c38, decide_eq_true c44, decide_eq_false c55, decide_eq_true c60, decide_eq_false c70]; first | done | rfl), rfl⟩
                      · refine DL.y rfl rfl (Y.pickF rfl) ?_
                        refine DL.y rfl rfl (Y.pickT rfl) ?_
                        refine DL.y rfl rfl (Y.move) ?_
                        refine DL.skip rfl rfl ?_
                        refine DL.skip rfl rfl ?_
                        refine DL.skip rfl rfl ?_
                        refine DL.skip rfl rfl ?_
                        refine DL.skip rfl rfl ?_
                        refine DL.skip rfl rfl ?_
                        refine DL.skip rfl rfl ?_
                        refine DL.y rfl rfl (Y.pickF rfl) ?_
                        exact DL.nil ⟨by (show Value.bool _ = Value.bool _; rw [hg1]; simp only [n1, decide_eq_true c15, decide_eq_true c19, decide_eq_false c24, decide_eq_true c28, decide_eq_false c34, decide_eq_true c38, decide_eq_true c44, decide_eq_false c55, decide_eq_false c60]; first | done | rfl), rfl⟩
                  · refine DL.y rfl rfl (Y.move) ?_
                    refine DL.y rfl rfl (Y.field F.fd26_3 rfl) ?_
                    refine DL.y rfl rfl (Y.loadB F.sc23 rfl hb4 rfl) ?_
                    refine DL.y rfl rfl (Y.lenS Tryz.underlying23 rfl) ?_
                    refine DL.if rfl rfl (Y.eq rfl rfl) (fun c49 => ?_) (fun c49 => ?_)
                    · refine DL.y rfl rfl (Y.pickF rfl) ?_
                      refine DL.y rfl rfl (Y.pickT rfl) ?_
                      refine DL.y rfl rfl (Y.move) ?_
                      refine DL.y rfl rfl (Y.field F.fd26_0 rfl) ?_
                      refine DL.y rfl rfl (Y.loadB F.sc22 rfl hb4 rfl) ?_
                      refine DL.if rfl rfl (Y.eq rfl rfl) (fun c55 => ?_) (fun c55 => ?_)
                      · refine DL.y rfl rfl (Y.move) ?_
                        refine DL.skip rfl rfl ?_
                        refine DL.skip rfl rfl ?_
                        refine DL.skip rfl rfl ?_
                        refine DL.skip rfl rfl ?_
                        refine DL.y rfl rfl (Y.pickT rfl) ?_
                        refine DL.y rfl rfl (Y.pickT rfl) ?_
                        refine DL.y rfl rfl (Y.move) ?_
                        refine DL.y rfl rfl (Y.field F.fd26_4 rfl) ?_
                        refine DL.y rfl rfl (Y.loadB F.sc24 rfl hb4 rfl) ?_
                        refine DL.y rfl rfl (Y.lenS Tryz.underlying24 rfl) ?_
                        refine DL.y rfl rfl (Y.field F.fd26_5 rfl) ?_
                        refine DL.y rfl rfl (Y.loadB F.sc23 rfl hb4 rfl) ?_
                        refine DL.y rfl rfl (Y.lenS Tryz.underlying23 rfl) ?_
                        refine DL.if rfl rfl (Y.eq rfl rfl) (fun c70 => ?_) (fun c70 => ?_)
                        · refine DL.y rfl rfl (Y.pickT rfl) ?_
                          exact DL.nil ⟨by (show Value.bool _ = Value.bool _; rw [hg1]; simp only [n1, decide_eq_true c15, decide_eq_true c19, decide_eq_false c24, decide_eq_true c28, decide_eq_false c34, decide_eq_true c38, decide_eq_false c44, decide_eq_true c49, decide_eq_true c55, decide_eq_true c70]; first | done | rfl), rfl⟩
                        · refine DL.y rfl rfl (Y.pickT rfl) ?_
                          exact DL.nil ⟨by (show Value.bool _ = Value.bool _; rw [hg1]; simp only [n1, decide_eq_true c15, decide_eq_true c19, decide_eq_false c24, decide_eq_true c28, decide_eq_false c34, decide_eq_true c38, decide_eq_false c44, decide_eq_true c49, decide_eq_true c55, decide_eq_false c70]; first | done | rfl), rfl⟩
                      · refine DL.y rfl rfl (Y.move) ?_
                        refine DL.y rfl rfl (Y.field F.fd26_4 rfl) ?_
                        refine DL.y rfl rfl (Y.loadB F.sc24 rfl hb4 rfl) ?_
                        refine DL.y rfl rfl (Y.lenS Tryz.underlying24 rfl) ?_
                        refine DL.if rfl rfl (Y.eq rfl rfl) (fun c60 => ?_) (fun c60 => ?_)
                        · refine DL.y rfl rfl (Y.pickF rfl) ?_
                          refine DL.y rfl rfl (Y.pickT rfl) ?_
                          refine DL.y rfl rfl (Y.move) ?_
                          refine DL.y rfl rfl (Y.field F.fd26_4 rfl) ?_
                          refine DL.y rfl rfl (Y.loadB F.sc24 rfl hb4 rfl) ?_
                          refine DL.y rfl rfl (Y.lenS Tryz.underlying24 rfl) ?_
                          refine DL.y rfl rfl (Y.field F.fd26_5 rfl) ?_
                          refine DL.y rfl rfl (Y.loadB F.sc23 rfl hb4 rfl) ?_
                          refine DL.y rfl rfl (Y.lenS Tryz.underlying23 rfl) ?_
                          refine DL.if rfl rfl (Y.eq rfl rfl) (fun c70 => ?_) (fun c70 => ?_)
                          · refine DL.y rfl rfl (Y.pickT rfl) ?_
                            exact DL.nil ⟨by (show Value.bool _ = Value.bool _; rw [hg1]; simp only [n1, decide_eq_true c15, decide_eq_true c19, decide_eq_false c24, decide_eq_true c28, decide_eq_false c34, decide_eq_true c38, decide_eq_false c44, decide_eq_true c49, decide_eq_false c55, decide_eq_true c60, decide_eq_true c70]; first | done | rfl), rfl⟩
                          · refine DL.y rfl rfl (Y.pickT rfl) ?_
                            exact DL.nil ⟨by (show Value.bool _ = Value.bool _; rw [hg1]; simp only [n1, decide_eq_true c15, decide_eq_true c19, decide_eq_false c24, decide_eq_true c28, decide_eq_false c34, decide_eq_true c38, decide_eq_false c44, decide_eq_true c49, decide_eq_false c55, decide_eq_true c60, decide_eq_false c70]; first | done | rfl), rfl⟩
                        · refine DL.y rfl rfl (Y.pickF rfl) ?_
                          refine DL.y rfl rfl (Y.pickT rfl) ?_
                          refine DL.y rfl rfl (Y.move) ?_
                          refine DL.skip rfl rfl ?_
                          refine DL.skip rfl rfl ?_
                          refine DL.skip rfl rfl ?_
                          refine DL.skip rfl rfl ?_
                          refine DL.skip rfl rfl ?_
                          refine DL.skip rfl rfl ?_
                          refine DL.skip rfl rfl ?_
                          refine DL.y rfl rfl (Y.pickF rfl) ?_
                          exact DL.nil ⟨by (show Value.bool _ = Value.bool _; rw [hg1]; simp only [n1, decide_eq_true c15, decide_eq_true c19, decide_eq_false c24, decide_eq_true c28, decide_eq_false c34, decide_eq_true c38, decide_eq_false c44, decide_eq_true c49, decide_eq_false c55, decide_eq_false c60]; first | done | rfl), rfl⟩
                    · refine DL.y rfl rfl (Y.pickF rfl) ?_
                      refine DL.y rfl rfl (Y.pickT rfl) ?_
                      refine DL.y rfl rfl (Y.move) ?_
                      refine DL.skip rfl rfl ?_
                      refine DL.skip rfl rfl ?_
                      refine DL.skip rfl rfl ?_
                      refine DL.skip rfl rfl ?_
                      refine DL.skip rfl rfl ?_
                      refine DL.skip rfl rfl ?_
                      refine DL.skip rfl rfl ?_
                      refine DL.skip rfl rfl ?_
                      refine DL.skip rfl rfl ?_
                      refine DL.y rfl rfl (Y.pickF rfl) ?_
                      refine DL.y rfl rfl (Y.move) ?_
                      refine DL.skip rfl rfl ?_
                      refine DL.skip rfl rfl ?_
                      refine DL.skip rfl rfl ?_
                      refine DL.skip rfl rfl ?_
                      refine DL.skip rfl rfl ?_
                      refine DL.skip rfl rfl ?_
                      refine DL.skip rfl rfl ?_
                      refine DL.y rfl rfl (Y.pickF rfl) ?_
                      exact DL.nil ⟨by (show Value.bool _ = Value.bool _; rw [hg1]; simp only [n1, decide_eq_true c15, decide_eq_true c19, decide_eq_false c24, decide_eq_true c28, decide_eq_false c34, decide_eq_true c38, decide_eq_false c44, decide_eq_false c49]; first | done | rfl), rfl⟩
                · refine DL.y rfl rfl (Y.pickF rfl) ?_
                  refine DL.y rfl rfl (Y.pickT rfl) ?_
                  refine DL.y rfl rfl (Y.move) ?_
                  refine DL.skip rfl rfl ?_
                  refine DL.skip rfl rfl ?_
                  refine DL.skip rfl rfl ?_
                  refine DL.skip rfl rfl ?_
                  refine DL.skip rfl rfl ?_
                  refine DL.skip rfl rfl ?_
                  refine DL.skip rfl rfl ?_
                  refine DL.skip rfl rfl ?_
                  refine DL.skip rfl rfl ?_
                  refine DL.y rfl rfl (Y.pickF rfl) ?_
                  refine DL.y rfl rfl (Y.move) ?_
                  refine DL.skip rfl rfl ?_
                  refine DL.skip rfl rfl ?_
                  refine DL.skip rfl rfl ?_
                  refine DL.skip rfl rfl ?_
                  refine DL.skip rfl rfl ?_
                  refine DL.skip rfl rfl ?_
                  refine DL.skip rfl rfl ?_
                  refine DL.skip rfl rfl ?_
                  refine DL.skip rfl rfl ?_
                  refine DL.y rfl rfl (Y.pickF rfl) ?_
                  refine DL.y rfl rfl (Y.move) ?_
                  refine DL.skip rfl rfl ?_
                  refine DL.skip rfl rfl ?_
                  refine DL.skip rfl rfl ?_
                  refine DL.skip rfl rfl ?_
                  refine DL.skip rfl rfl ?_
                  refine DL.skip rfl rfl ?_
                  refine DL.skip rfl rfl ?_
                  refine DL.y rfl rfl (Y.pickF rfl) ?_
                  exact DL.nil ⟨by (show Value.bool _ = Value.bool _; rw [hg1]; simp only [n1, decide_eq_true c15, decide_eq_true c19, decide_eq_false c24, decide_eq_true c28, decide_eq_false c34, decide_eq_false c38]; first | done | rfl), rfl⟩
            · refine DL.y rfl rfl (Y.pickF rfl) ?_
              refine DL.y rfl rfl (Y.pickT rfl) ?_
              refine DL.y rfl rfl (Y.move) ?_
              refine DL.skip rfl rfl ?_
              refine DL.skip rfl rfl ?_
              refine DL.skip rfl rfl ?_
              refine DL.skip rfl rfl ?_
              refine DL.skip rfl rfl ?_
              refine DL.skip rfl rfl ?_
              refine DL.skip rfl rfl ?_
              refine DL.skip rfl rfl ?_
              refine DL.y rfl rfl (Y.pickF rfl) ?_
              refine DL.y rfl rfl (Y.move) ?_
              refine DL.skip rfl rfl ?_
              refine DL.skip rfl rfl ?_
              refine DL.skip rfl rfl ?_
              refine DL.skip rfl rfl ?_
              refine DL.skip rfl rfl ?_
              refine DL.skip rfl rfl ?_
              refine DL.skip rfl rfl ?_
              refine DL.skip rfl rfl ?_
              refine DL.skip rfl rfl ?_
              refine DL.y rfl rfl (Y.pickF rfl) ?_
              refine DL.y rfl rfl (Y.move) ?_
              refine DL.skip rfl rfl ?_
              refine DL.skip rfl rfl ?_
              refine DL.skip rfl rfl ?_
              refine DL.skip rfl rfl ?_
              refine DL.skip rfl rfl ?_
              refine DL.skip rfl rfl ?_
              refine DL.skip rfl rfl ?_
              refine DL.skip rfl rfl ?_
              refine DL.skip rfl rfl ?_
              refine DL.y rfl rfl (Y.pickF rfl) ?_
              refine DL.y rfl rfl (Y.move) ?_
              refine DL.skip rfl rfl ?_
              refine DL.skip rfl rfl ?_
              refine DL.skip rfl rfl ?_
              refine DL.skip rfl rfl ?_
              refine DL.skip rfl rfl ?_
              refine DL.skip rfl rfl ?_
              refine DL.skip rfl rfl ?_
              refine DL.y rfl rfl (Y.pickF rfl) ?_
              exact DL.nil ⟨by (show Value.bool _ = Value.bool _; rw [hg1]; simp only [n1, decide_eq_true c15, decide_eq_true c19, decide_eq_false c24, decide_eq_false c28]; first | done | rfl), rfl⟩
        · refine DL.y rfl rfl (Y.pickT rfl) ?_
          refine DL.y rfl rfl (Y.move) ?_
          refine DL.skip rfl rfl ?_
          refine DL.skip rfl rfl ?_
          refine DL.skip rfl rfl ?_
          refine DL.skip rfl rfl ?_
          refine DL.skip rfl rfl ?_
          refine DL.skip rfl rfl ?_
          refine DL.skip rfl rfl ?_
          refine DL.skip rfl rfl ?_
          refine DL.y rfl rfl (Y.pickF rfl) ?_
          refine DL.y rfl rfl (Y.move) ?_
          refine DL.skip rfl rfl ?_
          refine DL.skip rfl rfl ?_
          refine DL.skip rfl rfl ?_
          refine DL.skip rfl rfl ?_
          refine DL.skip rfl rfl ?_
          refine DL.skip rfl rfl ?_
          refine DL.skip rfl rfl ?_
          refine DL.skip rfl rfl ?_
          refine DL.y rfl rfl (Y.pickF rfl) ?_
          refine DL.y rfl rfl (Y.move) ?_
          refine DL.skip rfl rfl ?_
          refine DL.skip rfl rfl ?_
          refine DL.skip rfl rfl ?_
          refine DL.skip rfl rfl ?_
          refine DL.skip rfl rfl ?_
          refine DL.skip rfl rfl ?_
          refine DL.skip rfl rfl ?_
          refine DL.skip rfl rfl ?_
          refine DL.skip rfl rfl ?_
          refine DL.y rfl rfl (Y.pickF rfl) ?_
          refine DL.y rfl rfl (Y.move) ?_
          refine DL.skip rfl rfl ?_
          refine DL.skip rfl rfl ?_
          refine DL.skip rfl rfl ?_
          refine DL.skip rfl rfl ?_
          refine DL.skip rfl rfl ?_
          refine DL.skip rfl rfl ?_
          refine DL.skip rfl rfl ?_
          refine DL.skip rfl rfl ?_
          refine DL.skip rfl rfl ?_
          refine DL.y rfl rfl (Y.pickF rfl) ?_
          refine DL.y rfl rfl (Y.move) ?_
          refine DL.skip rfl rfl ?_
          refine DL.skip rfl rfl ?_
          refine DL.skip rfl rfl ?_
          refine DL.skip rfl rfl ?_
          refine DL.skip rfl rfl ?_
          refine DL.skip rfl rfl ?_
          refine DL.skip rfl rfl ?_
          refine DL.y rfl rfl (Y.pickF rfl) ?_
          exact DL.nil ⟨by (show Value.bool _ = Value.bool _; rw [hg1]; simp only [n1, decide_eq_true c15, decide_eq_false c19]; first | done | rfl), rfl⟩
      · refine DL.y rfl rfl (Y.move) ?_
        refine DL.skip rfl rfl ?_
        refine DL.skip rfl rfl ?_
        refine DL.skip rfl rfl ?_
        refine DL.y rfl rfl (Y.pickF rfl) ?_
        refine DL.y rfl rfl (Y.move) ?_
        refine DL.skip rfl rfl ?_
        refine DL.skip rfl rfl ?_
        refine DL.skip rfl rfl ?_
        refine DL.skip rfl rfl ?_
        refine DL.skip rfl rfl ?_
        refine DL.skip rfl rfl ?_
        refine DL.skip rfl rfl ?_
        refine DL.skip rfl rfl ?_
        refine DL.y rfl rfl (Y.pickF rfl) ?_
        refine DL.y rfl rfl (Y.move) ?_
        refine DL.skip rfl rfl ?_
        refine DL.skip rfl rfl ?_
        refine DL.skip rfl rfl ?_
        refine DL.skip rfl rfl ?_
        refine DL.skip rfl rfl ?_
        refine DL.skip rfl rfl ?_
        refine DL.skip rfl rfl ?_
        refine DL.skip rfl rfl ?_
        refine DL.y rfl rfl (Y.pickF rfl) ?_
        refine DL.y rfl rfl (Y.move) ?_
        refine DL.skip rfl rfl ?_
        refine DL.skip rfl rfl ?_
        refine DL.skip rfl rfl ?_
        refine DL.skip rfl rfl ?_
        refine DL.skip rfl rfl ?_
        refine DL.skip rfl rfl ?_
        refine DL.skip rfl rfl ?_
        refine DL.skip rfl rfl ?_
        refine DL.skip rfl rfl ?_
        refine DL.y rfl rfl (Y.pickF rfl) ?_
        refine DL.y rfl rfl (Y.move) ?_
        refine DL.skip rfl rfl ?_
        refine DL.skip rfl rfl ?_
        refine DL.skip rfl rfl ?_
        refine DL.skip rfl rfl ?_
        refine DL.skip rfl rfl ?_
        refine DL.skip rfl rfl ?_
        refine DL.skip rfl rfl ?_
        refine DL.skip rfl rfl ?_
        refine DL.skip rfl rfl ?_
        refine DL.y rfl rfl (Y.pickF rfl) ?_
        refine DL.y rfl rfl (Y.move) ?_
        refine DL.skip rfl rfl ?_
        refine DL.skip rfl rfl ?_
        refine DL.skip rfl rfl ?_
        refine DL.skip rfl rfl ?_
        refine DL.skip rfl rfl ?_
        refine DL.skip rfl rfl ?_
        refine DL.skip rfl rfl ?_
        refine DL.y rfl rfl (Y.pickF rfl) ?_
        exact DL.nil ⟨by (show Value.bool _ = Value.bool _; rw [hg1]; simp only [n1, decide_eq_false c15]; first | done | rfl), rfl⟩
    · rintro j _ hcut; obtain rfl := hcut.symm
      refine DL.call rfl rfl F.nm87 rfl (want_any b _ _ _ _ _ hb) ?_
      rintro _ w6 f7 hb
      replace FR := FR.put f7 (by intro i hi; simp only [List.mem_cons, List.mem_singleton, List.not_mem_nil, or_false] at hi; rcases hi with rfl; all_goals (first | (left; simp; done) | (right; omega)))
      replace hR := hR.fr f7 (by intro x hx; simp <;> omega)
      replace hT := hT.fr f7 (by intro x hx; simp <;> omega)
      replace hb4 := f7.blk hb4 (by simp only [List.mem_cons, List.not_mem_nil, or_false, not_or]; omega)
      replace hi4 := Nat.lt_of_lt_of_le hi4 f7.size
      refine DL.nil ?_
      show DC _ _ _ _ _ _
      refine DC.seq ?_
      refine DC.region ?_
      refine DL.y rfl rfl (Y.move) ?_
      refine DL.cut 24 [(74, 97)] 97 (.bool g2) (fun w' => w' = w6) rfl ?_ ?_
      · refine DL.y rfl rfl (Y.field F.fd26_1 rfl) ?_
        refine DL.y rfl rfl (Y.loadB F.sc3 rfl hb4 rfl) ?_
        refine DL.if rfl rfl (Y.ge rfl rfl) (fun c76 => ?_) (fun c76 => ?_)
        · refine DL.y rfl rfl (Y.move) ?_
          refine DL.y rfl rfl (Y.field F.fd26_1 rfl) ?_
          refine DL.y rfl rfl (Y.loadB F.sc3 rfl hb4 rfl) ?_
          refine DL.if rfl rfl (Y.le rfl rfl) (fun c80 => ?_) (fun c80 => ?_)
          · refine DL.y rfl rfl (Y.pickT rfl) ?_
            refine DL.y rfl rfl (Y.move) ?_
            refine DL.y rfl rfl (Y.field F.fd26_1 rfl) ?_
            refine DL.y rfl rfl (Y.loadB F.sc3 rfl hb4 rfl) ?_
            refine DL.y rfl rfl (Y.rem rfl rfl (by decide)) ?_
            refine DL.if rfl rfl (Y.eq rfl rfl) (fun c86 => ?_) (fun c86 => ?_)
            · refine DL.y rfl rfl (Y.move) ?_
              refine DL.skip rfl rfl ?_
              refine DL.skip rfl rfl ?_
              refine DL.skip rfl rfl ?_
              refine DL.skip rfl rfl ?_
              refine DL.skip rfl rfl ?_
              refine DL.skip rfl rfl ?_
              refine DL.skip rfl rfl ?_
              refine DL.skip rfl rfl ?_
              refine DL.y rfl rfl (Y.pickT rfl) ?_
              refine DL.y rfl rfl (Y.pickT rfl) ?_
              exact DL.nil ⟨by (show Value.bool _ = Value.bool _; rw [hg2]; simp only [n2, decide_eq_true c76, decide_eq_true c80, decide_eq_true c86]; first | done | rfl), rfl⟩
            · refine DL.y rfl rfl (Y.move) ?_
              refine DL.y rfl rfl (Y.field F.fd26_1 rfl) ?_
              refine DL.y rfl rfl (Y.loadB F.sc3 rfl hb4 rfl) ?_
              refine DL.if rfl rfl (Y.gt rfl rfl) (fun c90 => ?_) (fun c90 => ?_)
              · refine DL.y rfl rfl (Y.move) ?_
                refine DL.y rfl rfl (Y.field F.fd26_1 rfl) ?_
                refine DL.y rfl rfl (Y.loadB F.sc3 rfl hb4 rfl) ?_
                refine DL.if rfl rfl (Y.lt rfl rfl) (fun c94 => ?_) (fun c94 => ?_)
                · refine DL.y rfl rfl (Y.pickT rfl) ?_
                  refine DL.y rfl rfl (Y.pickF rfl) ?_
                  refine DL.y rfl rfl (Y.pickT rfl) ?_
                  exact DL.nil ⟨by (show Value.bool _ = Value.bool _; rw [hg2]; simp only [n2, decide_eq_true c76, decide_eq_true c80, decide_eq_false c86, decide_eq_true c90, decide_eq_true c94]; first | done | rfl), rfl⟩
                · refine DL.y rfl rfl (Y.pickT rfl) ?_
                  refine DL.y rfl rfl (Y.pickF rfl) ?_
                  refine DL.y rfl rfl (Y.pickT rfl) ?_
                  exact DL.nil ⟨by (show Value.bool _ = Value.bool _; rw [hg2]; simp only [n2, decide_eq_true c76, decide_eq_true c80, decide_eq_false c86, decide_eq_true c90, decide_eq_false c94]; first | done | rfl), rfl⟩
              · refine DL.y rfl rfl (Y.move) ?_
                refine DL.skip rfl rfl ?_
                refine DL.skip rfl rfl ?_
                refine DL.skip rfl rfl ?_
                refine DL.y rfl rfl (Y.pickF rfl) ?_
                refine DL.y rfl rfl (Y.pickF rfl) ?_
                refine DL.y rfl rfl (Y.pickT rfl) ?_
                exact DL.nil ⟨by (show Value.bool _ = Value.bool _; rw [hg2]; simp only [n2, decide_eq_true c76, decide_eq_true c80, decide_eq_false c86, decide_eq_false c90]; first | done | rfl), rfl⟩
          · refine DL.y rfl rfl (Y.pickT rfl) ?_
            refine DL.y rfl rfl (Y.move) ?_
            refine DL.skip rfl rfl ?_
            refine DL.skip rfl rfl ?_
            refine DL.skip rfl rfl ?_
            refine DL.skip rfl rfl ?_
            refine DL.skip rfl rfl ?_
            refine DL.skip rfl rfl ?_
            refine DL.skip rfl rfl ?_
            refine DL.skip rfl rfl ?_
            refine DL.skip rfl rfl ?_
            refine DL.skip rfl rfl ?_
            refine DL.skip rfl rfl ?_
            refine DL.skip rfl rfl ?_
            refine DL.skip rfl rfl ?_
            refine DL.skip rfl rfl ?_
            refine DL.y rfl rfl (Y.pickF rfl) ?_
            exact DL.nil ⟨by (show Value.bool _ = Value.bool _; rw [hg2]; simp only [n2, decide_eq_true c76, decide_eq_false c80]; first | done | rfl), rfl⟩
        · refine DL.y rfl rfl (Y.move) ?_
          refine DL.skip rfl rfl ?_
          refine DL.skip rfl rfl ?_
          refine DL.skip rfl rfl ?_
          refine DL.y rfl rfl (Y.pickF rfl) ?_
          refine DL.y rfl rfl (Y.move) ?_
          refine DL.skip rfl rfl ?_
          refine DL.skip rfl rfl ?_
          refine DL.skip rfl rfl ?_
          refine DL.skip rfl rfl ?_
          refine DL.skip rfl rfl ?_
          refine DL.skip rfl rfl ?_
          refine DL.skip rfl rfl ?_
          refine DL.skip rfl rfl ?_
          refine DL.skip rfl rfl ?_
          refine DL.skip rfl rfl ?_
          refine DL.skip rfl rfl ?_
          refine DL.skip rfl rfl ?_
          refine DL.skip rfl rfl ?_
          refine DL.skip rfl rfl ?_
          refine DL.y rfl rfl (Y.pickF rfl) ?_
          exact DL.nil ⟨by (show Value.bool _ = Value.bool _; rw [hg2]; simp only [n2, decide_eq_false c76]; first | done | rfl), rfl⟩
      · rintro j _ hcut; obtain rfl := hcut.symm
        refine DL.call rfl rfl F.nm87 rfl (want_any b _ _ _ _ _ hb) ?_
        rintro _ w9 f10 hb
        replace FR := FR.put f10 (by intro i hi; simp only [List.mem_cons, List.mem_singleton, List.not_mem_nil, or_false] at hi; rcases hi with rfl; all_goals (first | (left; simp; done) | (right; omega)))
        replace hR := hR.fr f10 (by intro x hx; simp <;> omega)
        replace hT := hT.fr f10 (by intro x hx; simp <;> omega)
        replace hb4 := f10.blk hb4 (by simp only [List.mem_cons, List.not_mem_nil, or_false, not_or]; omega)
        replace hi4 := Nat.lt_of_lt_of_le hi4 f10.size
        refine DL.nil ?_
        show DC _ _ _ _ _ _
        refine DC.seq ?_
        refine DC.region ?_
        refine DL.y rfl rfl (Y.move) ?_
        refine DL.y rfl rfl (Y.field F.fd26_2 rfl) ?_
        refine DL.y rfl rfl (Y.loadB F.sc9 rfl hb4 rfl) ?_
        have hxs : ((!g1) || (!g2)) = false → 0 ≤ n ∧ n ≤ 2000 := by
          obtain ⟨q1, q2, q3, q4, q5⟩ := hr1 rfl
          obtain ⟨q6, q7, q8, q9⟩ := hx q1
          intro _; exact ⟨q8, q9⟩
        refine DL.call rfl rfl F.nm88 rfl (str_any b _ _ _ _ _ hb (by omega) bt hT hxs) ?_
        rintro _ w11 f12 ⟨n4, bad4, hb, hx4⟩
        replace FR := FR.put f12 (by intro i hi; simp only [List.mem_cons, List.mem_singleton, List.not_mem_nil, or_false] at hi; rcases hi with rfl; all_goals (first | (left; simp; done) | (right; omega)))
        replace hR := hR.fr f12 (by intro x hx; simp <;> omega)
        replace hT := hT.fr f12 (by intro x hx; simp <;> omega)
        replace hb4 := f12.blk hb4 (by simp only [List.mem_cons, List.not_mem_nil, or_false, not_or]; omega)
        replace hi4 := Nat.lt_of_lt_of_le hi4 f12.size
        refine DL.nil ?_
        show DC _ _ _ _ _ _
        refine DC.seq ?_
        refine DC.seq ?_
        refine DC.region ?_
        refine DL.y rfl rfl (Y.assign) ?_
        refine DL.nil ?_
        show DC _ _ _ _ _ _
        refine DC.block ?_
        refine DC.loop (σ := Nat × Int × Int × Bool) [(6, 6), (103, 125)] (fun (k, _, _, _) => [(6, .int .i64 (k : Int))]) (fun sg wl => Fr [b] w11 wl ∧ (fun (k, p', n', bad') w' => k ≤ list.length ∧ w'.heap[b]? = some (.cells (lk p' n' bad') 67 (0, 0)) ∧ (bad' = false → ((g1 = true ∧ g2 = true ∧ Lib.validD text.data.toList = true) ∧ bad = false) ∧ (∀ i (h : i < list.length), i < k → Good list[i]) ∧ p' = p + 1 + V.nodesL (list.take k) ∧ n' = n + text.size + V.bytesL (list.take k) ∧ p' ≤ 400 ∧ n' ≤ 2000)) sg wl) (fun (k, _, _, _) => list.length - k) ((0, p1, n4, bad4)) rfl ?_ ?_ ?_
        · exact rfl
        · exact ⟨Fr.refl _ _, Nat.zero_le _, hb, fun h => by obtain ⟨e1, e2, e3, e4⟩ := hx4 h; have e56 : g1 = true ∧ g2 = true := (by simpa using e1); obtain ⟨q1, q2, q3, q4, q5⟩ := hr1 rfl; exact ⟨⟨⟨e56.1, e56.2, e4⟩, q1⟩, fun i h hi => by omega, by simp [V.nodesL]; omega, by simp [V.bytesL]; omega, by omega, e3⟩⟩
        · rintro ⟨k, p5, n5, bad5⟩ j w13 ⟨f14, hk5, hb, hx5⟩
          replace FR := FR.put f14 (by intro i hi; simp only [List.mem_cons, List.mem_singleton, List.not_mem_nil, or_false] at hi; rcases hi with rfl; all_goals (first | (left; simp; done) | (right; omega)))
          replace hR := hR.fr f14 (by intro x hx; simp <;> omega)
          replace hT := hT.fr f14 (by intro x hx; simp <;> omega)
          replace hb4 := f14.blk hb4 (by simp only [List.mem_cons, List.not_mem_nil, or_false, not_or]; omega)
          replace hi4 := Nat.lt_of_lt_of_le hi4 f14.size
          have G15 := f14
          have HG15 := Fr.refl [b] w13
          refine DC.seq ?_
          refine DC.seq ?_
          refine DC.region ?_
          refine DL.cut 12 [(103, 114)] 114 (.bool (decide ((k : Int) < (list.length : Int)) && !bad5)) (fun w' => w' = w13) rfl ?_ ?_
          · refine DL.y rfl rfl (Y.move) ?_
            refine DL.y rfl rfl (Y.field F.fd26_3 rfl) ?_
            refine DL.y rfl rfl (Y.loadB F.sc23 rfl hb4 rfl) ?_
            refine DL.y rfl rfl (Y.lenS Tryz.underlying23 rfl) ?_
            refine DL.if rfl rfl (Y.lt rfl rfl) (fun c107 => ?_) (fun c107 => ?_)
            · refine DL.y rfl rfl (Y.move) ?_
              refine DL.y rfl rfl (Y.move) ?_
              refine DL.y rfl rfl (Y.nil rfl) ?_
              refine DL.y rfl rfl (Y.field F.fd67_2 rfl) ?_
              refine DL.ifb rfl rfl (Y.loadB F.sc4 rfl hb rfl) (fun c112 => ?_) (fun c112 => ?_)
              · refine DL.y rfl rfl (Y.not rfl) ?_
                refine DL.y rfl rfl (Y.pickT rfl) ?_
                exact DL.nil ⟨by (show Value.bool _ = Value.bool _; simp only [decide_eq_true c107, c112]; first | done | rfl), rfl⟩
              · refine DL.y rfl rfl (Y.not rfl) ?_
                refine DL.y rfl rfl (Y.pickT rfl) ?_
                exact DL.nil ⟨by (show Value.bool _ = Value.bool _; simp only [decide_eq_true c107, c112]; first | done | rfl), rfl⟩
            · refine DL.y rfl rfl (Y.move) ?_
              refine DL.skip rfl rfl ?_
              refine DL.skip rfl rfl ?_
              refine DL.skip rfl rfl ?_
              refine DL.skip rfl rfl ?_
              refine DL.skip rfl rfl ?_
              refine DL.y rfl rfl (Y.pickF rfl) ?_
              exact DL.nil ⟨by (show Value.bool _ = Value.bool _; simp only [decide_eq_false c107]; first | done | rfl), rfl⟩
          · rintro j _ hcut; obtain rfl := hcut.symm
            refine DL.nil ?_
            show DC _ _ _ _ _ _
            refine DC.cond rfl (fun c114 => ?_) (fun c114 => ?_)
            · obtain ⟨hk, hbad5⟩ : k < list.length ∧ bad5 = false := by simpa using c114
              subst hbad5
              refine DC.skip ?_
              show DC _ _ _ _ _ _
              refine DC.seq ?_
              refine DC.block ?_
              refine DC.region ?_
              refine DL.y rfl rfl (Y.move) ?_
              refine DL.y rfl rfl (Y.field F.fd26_3 rfl) ?_
              refine DL.y rfl rfl (Y.loadB F.sc23 rfl hb4 rfl) ?_
              refine DL.y rfl rfl (Y.move) ?_
              obtain ⟨ba, oa, cl, rfl, hba, hcl, hcs, hRi⟩ := hR.elem hk
              have hle : list[k].nodes ≤ m := by have := nodes_le hk; simp only [V.nodes] at hm; omega
              have hx5' : false = false → 0 ≤ p5 ∧ p5 ≤ 400 ∧ 0 ≤ n5 ∧ n5 ≤ 2000 := fun _ => by obtain ⟨q1, q3, q4, q5, q6, q7⟩ := hx5 rfl; obtain ⟨q8, q9, q10, q11⟩ := hx q1.2; omega
              refine DL.y rfl rfl (Y.index F.sl23 rfl rfl (rfl) (hk)) ?_
              refine DL.y rfl rfl (Y.loadAn hcs F.ag26 rfl hcl) ?_
              refine DL.y rfl rfl (Y.move) ?_
              refine DL.y rfl rfl (Y.addI rfl rfl (rfl) (by omega) (by omega)) ?_
              refine DL.call rfl rfl F.nm45 rfl (ih _ _ b B _ _ _ _ _ hle hRi hB h2 hT hb hx5' (by omega) (by omega)) ?_
              rintro _ w17 f18 ⟨p7, n7, bad7, hb, hx7⟩
              replace FR := FR.put f18 (by intro i hi; simp only [List.mem_cons, List.mem_singleton, List.not_mem_nil, or_false] at hi; rcases hi with rfl; all_goals (first | (left; simp; done) | (right; omega)))
              replace G15 := G15.put f18 (by intro i hi; simp only [List.mem_cons, List.mem_singleton, List.not_mem_nil, or_false] at hi; rcases hi with rfl; all_goals (first | (left; simp; done) | (right; omega)))
              replace HG15 := HG15.put f18 (by intro i hi; simp only [List.mem_cons, List.mem_singleton, List.not_mem_nil, or_false] at hi; rcases hi with rfl; all_goals (first | (left; simp; done) | (right; omega)))
              replace hR := hR.fr f18 (by intro x hx; simp <;> omega)
              replace hT := hT.fr f18 (by intro x hx; simp <;> omega)
              replace hb4 := f18.blk hb4 (by simp only [List.mem_cons, List.not_mem_nil, or_false, not_or]; omega)
              replace hi4 := Nat.lt_of_lt_of_le hi4 f18.size
              refine DL.nil ?_
              show DC _ _ _ _ _ _
              refine DC.region ?_
              refine DL.y rfl rfl (Y.move) ?_
              refine DL.y rfl rfl (Y.addI (c := ((k + 1 : Nat) : Int)) rfl rfl (by omega) (by omega) (by omega)) ?_
              refine DL.y rfl rfl (Y.assign) ?_
              refine DL.nil ?_
              refine ⟨(k + 1, p7, n7, bad7), ⟨G15, hk, hb, fun h => ?_⟩, by show list.length - (k + 1) < list.length - k; omega, rfl⟩
              obtain ⟨e1, e2, e3, e4, e5, e6⟩ := hx7 h
              obtain ⟨q1, q3, q4, q5, q6, q7⟩ := hx5 e1
              refine ⟨q1, fun i hi hik => ?_, ?_, ?_, e5, e6⟩
              · by_cases h' : i = k
                · subst h'; exact e2
                · exact q3 i hi (by omega)
              · rw [nodesL_take hk, e3, q4]; push_cast; omega
              · rw [bytesL_take hk, e4, q5]; push_cast; omega
            · refine DC.exit ?_
              show DC _ _ _ _ _ _
              refine DC.seq ?_
              refine DC.region ?_
              refine DL.y rfl rfl (Y.assign) ?_
              refine DL.nil ?_
              show DC _ _ _ _ _ _
              refine DC.block ?_
              have hx6 : bad5 = false → k = list.length := by
                intro h; subst h; simp at c114; omega
              refine DC.loop (σ := Nat × Int × Int × Bool) [(7, 7), (126, 173)] (fun (k, _, _, _) => [(7, .int .i64 (k : Int))]) (fun sg wl => Fr [b] w13 wl ∧ (fun (k, p', n', bad') w' => k ≤ keys.length ∧ w'.heap[b]? = some (.cells (lk p' n' bad') 67 (0, 0)) ∧ (bad' = false → (((g1 = true ∧ g2 = true ∧ Lib.validD text.data.toList = true) ∧ bad = false) ∧ (∀ i (h : i < list.length), Good list[i])) ∧ (∀ i (h : i < keys.length), i < k → Lib.validD keys[i].data.toList = true) ∧ (∀ i (h : i + 1 < keys.length), i + 1 < k → Op.bytesLess keys[i].toList keys[i + 1].toList = true) ∧ (∀ i (h : i < vals.length), i < k → Good vals[i]) ∧ p' = p + 1 + V.nodesL list + V.nodesL (vals.take k) ∧ n' = n + text.size + V.bytesL list + bytesK (keys.take k) + V.bytesL (vals.take k) ∧ p' ≤ 400 ∧ n' ≤ 2000)) sg wl) (fun (k, _, _, _) => keys.length - k) ((0, p5, n5, bad5)) rfl ?_ ?_ ?_
              · exact rfl
              · exact ⟨Fr.refl _ _, Nat.zero_le _, hb, fun h => by obtain ⟨q1, q3, q4, q5, q6, q7⟩ := hx5 h; have e := hx6 h; subst e; simp only [List.take_length] at q4 q5; exact ⟨⟨q1, fun i hi => q3 i hi hi⟩, fun i h hi => by omega, fun i h hi => by omega, fun i h hi => by omega, by simp [V.nodesL]; omega, by simp [V.bytesL, bytesK]; omega, q6, q7⟩⟩
              · rintro ⟨i2, p8, n8, bad8⟩ j w19 ⟨f20, hk8, hb, hx8⟩
                replace FR := FR.put f20 (by intro i hi; simp only [List.mem_cons, List.mem_singleton, List.not_mem_nil, or_false] at hi; rcases hi with rfl; all_goals (first | (left; simp; done) | (right; omega)))
                replace hR := hR.fr f20 (by intro x hx; simp <;> omega)
                replace hT := hT.fr f20 (by intro x hx; simp <;> omega)
                replace hb4 := f20.blk hb4 (by simp only [List.mem_cons, List.not_mem_nil, or_false, not_or]; omega)
                replace hi4 := Nat.lt_of_lt_of_le hi4 f20.size
                have G21 := f20
                have HG21 := Fr.refl [b] w19
                refine DC.seq ?_
                refine DC.seq ?_
                refine DC.region ?_
                refine DL.cut 12 [(126, 137)] 137 (.bool (decide ((i2 : Int) < (keys.length : Int)) && !bad8)) (fun w' => w' = w19) rfl ?_ ?_
                · refine DL.y rfl rfl (Y.move) ?_
                  refine DL.y rfl rfl (Y.field F.fd26_4 rfl) ?_
                  refine DL.y rfl rfl (Y.loadB F.sc24 rfl hb4 rfl) ?_
                  refine DL.y rfl rfl (Y.lenS Tryz.underlying24 rfl) ?_
                  refine DL.if rfl rfl (Y.lt rfl rfl) (fun c130 => ?_) (fun c130 => ?_)
                  · refine DL.y rfl rfl (Y.move) ?_
                    refine DL.y rfl rfl (Y.move) ?_
                    refine DL.y rfl rfl (Y.nil rfl) ?_
                    refine DL.y rfl rfl (Y.field F.fd67_2 rfl) ?_
                    refine DL.ifb rfl rfl (Y.loadB F.sc4 rfl hb rfl) (fun c135 => ?_) (fun c135 => ?_)
                    · refine DL.y rfl rfl (Y.not rfl) ?_
                      refine DL.y rfl rfl (Y.pickT rfl) ?_
                      exact DL.nil ⟨by (show Value.bool _ = Value.bool _; simp only [decide_eq_true c130, c135]; first | done | rfl), rfl⟩
                    · refine DL.y rfl rfl (Y.not rfl) ?_
                      refine DL.y rfl rfl (Y.pickT rfl) ?_
                      exact DL.nil ⟨by (show Value.bool _ = Value.bool _; simp only [decide_eq_true c130, c135]; first | done | rfl), rfl⟩
                  · refine DL.y rfl rfl (Y.move) ?_
                    refine DL.skip rfl rfl ?_
                    refine DL.skip rfl rfl ?_
                    refine DL.skip rfl rfl ?_
                    refine DL.skip rfl rfl ?_
                    refine DL.skip rfl rfl ?_
                    refine DL.y rfl rfl (Y.pickF rfl) ?_
                    exact DL.nil ⟨by (show Value.bool _ = Value.bool _; simp only [decide_eq_false c130]; first | done | rfl), rfl⟩
                · rintro j _ hcut; obtain rfl := hcut.symm
                  refine DL.nil ?_
                  show DC _ _ _ _ _ _
                  refine DC.cond rfl (fun c137 => ?_) (fun c137 => ?_)
                  · obtain ⟨hk2, hbad8⟩ : i2 < keys.length ∧ bad8 = false := by simpa using c137
                    subst hbad8
                    refine DC.skip ?_
                    show DC _ _ _ _ _ _
                    refine DC.seq ?_
                    refine DC.block ?_
                    refine DC.seq ?_
                    refine DC.region ?_
                    refine DL.y rfl rfl (Y.move) ?_
                    refine DL.y rfl rfl (Y.field F.fd26_4 rfl) ?_
                    refine DL.y rfl rfl (Y.loadB F.sc24 rfl hb4 rfl) ?_
                    refine DL.y rfl rfl (Y.move) ?_
                    obtain ⟨bs, os, rfl, hbs, hkc, hks⟩ := hR.keyAt hk2
                    have hx8' : false = false → 0 ≤ n8 ∧ n8 ≤ 2000 := fun _ => by obtain ⟨q1, q2, q3, q4, q5, q6, q7, q8⟩ := hx8 rfl; obtain ⟨q9, q10, q11, q12⟩ := hx q1.1.2; omega
                    refine DL.y rfl rfl (Y.index F.sl24 rfl rfl (rfl) (hk2)) ?_
                    refine DL.y rfl rfl (Y.load F.sc9 rfl hkc) ?_
                    refine DL.call rfl rfl F.nm88 rfl (str_any b _ _ _ _ _ hb (by omega) hks hT hx8') ?_
                    rintro _ w23 f24 ⟨n9, bad9, hb, hx9⟩
                    replace FR := FR.put f24 (by intro i hi; simp only [List.mem_cons, List.mem_singleton, List.not_mem_nil, or_false] at hi; rcases hi with rfl; all_goals (first | (left; simp; done) | (right; omega)))
                    replace G21 := G21.put f24 (by intro i hi; simp only [List.mem_cons, List.mem_singleton, List.not_mem_nil, or_false] at hi; rcases hi with rfl; all_goals (first | (left; simp; done) | (right; omega)))
                    replace HG21 := HG21.put f24 (by intro i hi; simp only [List.mem_cons, List.mem_singleton, List.not_mem_nil, or_false] at hi; rcases hi with rfl; all_goals (first | (left; simp; done) | (right; omega)))
                    replace hR := hR.fr f24 (by intro x hx; simp <;> omega)
                    replace hT := hT.fr f24 (by intro x hx; simp <;> omega)
                    replace hb4 := f24.blk hb4 (by simp only [List.mem_cons, List.not_mem_nil, or_false, not_or]; omega)
                    replace hi4 := Nat.lt_of_lt_of_le hi4 f24.size
                    replace hkc := f24.cell hkc (by simp <;> omega)
                    refine DL.nil ?_
                    show DC _ _ _ _ _ _
                    refine DC.seq ?_
                    refine DC.tail 17 F.mixed (by kernel_rfl) ?_
                    intro w25 f26 hsw25
                    replace FR := FR.tr0 f26
                    replace G21 := G21.tr0 f26
                    replace HG21 := HG21.tr0 f26
                    replace hR := hR.fr f26 (by intro x hx; simp <;> omega)
                    replace hT := hT.fr f26 (by intro x hx; simp <;> omega)
                    replace hb4 := f26.blk0 hb4
                    replace hi4 := Nat.lt_of_lt_of_le hi4 f26.size
                    replace hkc := f26.cell hkc (by simp <;> omega)
                    replace hb := f26.blk0 hb
                    refine DS.y rfl rfl (Y.move) ?_
                    have hk3 : i2 - 1 < keys.length := by omega
                    obtain ⟨g3, hg3⟩ : ∃ g, g = (decide ((i2 : Int) = 0) || Op.bytesLess (keys[i2 - 1]'hk3).toList (keys[i2]'hk2).toList) := ⟨_, rfl⟩
                    refine DS.cut 16 [(148, 163)] 163 (.bool g3) (fun w' => w' = w25) rfl ?_ ?_
                    · refine DS.y rfl rfl (Y.move) ?_
                      refine DS.if rfl rfl (Y.eq rfl rfl) (fun c149 => ?_) (fun c149 => ?_)
                      · refine DS.y rfl rfl (Y.move) ?_
                        refine DS.skip rfl rfl ?_
                        refine DS.skip rfl rfl ?_
                        refine DS.skip rfl rfl ?_
                        refine DS.skip rfl rfl ?_
                        refine DS.skip rfl rfl ?_
                        refine DS.skip rfl rfl ?_
                        refine DS.skip rfl rfl ?_
                        refine DS.skip rfl rfl ?_
                        refine DS.skip rfl rfl ?_
                        refine DS.skip rfl rfl ?_
                        refine DS.skip rfl rfl ?_
                        refine DS.skip rfl rfl ?_
                        refine DS.y rfl rfl (Y.pickT rfl) ?_
                        exact DS.nil ⟨by (show Value.bool _ = Value.bool _; rw [hg3]; simp only [decide_eq_true c149]; first | done | rfl), trivial⟩
                      · refine DS.y rfl rfl (Y.move) ?_
                        refine DS.y rfl rfl (Y.field F.fd26_4 rfl) ?_
                        refine DS.y rfl rfl (Y.loadB F.sc24 rfl hb4 rfl) ?_
                        refine DS.y rfl rfl (Y.move) ?_
                        refine DS.y rfl rfl (Y.subI (c := (i2 : Int) - 1) rfl rfl (by omega) (by omega) (by omega)) ?_
                        have hi3 : (i2 : Int) - 1 = ((i2 - 1 : Nat) : Int) := by omega
                        obtain ⟨bs', os', hsome, _, hkc1, _⟩ := hR.keyAt hk3
                        simp only [Option.some.injEq, Addr.mk.injEq, and_true] at hsome
                        obtain ⟨rfl, rfl⟩ := hsome
                        refine DS.y rfl rfl (Y.index F.sl24 rfl rfl (hi3) (hk3)) ?_
                        refine DS.y rfl rfl (Y.load F.sc9 rfl hkc1) ?_
                        refine DS.y rfl rfl (Y.field F.fd26_4 rfl) ?_
                        refine DS.y rfl rfl (Y.loadB F.sc24 rfl hb4 rfl) ?_
                        refine DS.y rfl rfl (Y.move) ?_
                        refine DS.y rfl rfl (Y.index F.sl24 rfl rfl (rfl) (hk2)) ?_
                        refine DS.y rfl rfl (Y.load F.sc9 rfl hkc) ?_
                        refine DS.ifb rfl rfl (Y.slt rfl rfl) (fun c162 => ?_) (fun c162 => ?_)
                        · refine DS.y rfl rfl (Y.pickF rfl) ?_
                          exact DS.nil ⟨by (show Value.bool _ = Value.bool _; rw [hg3]; simp only [decide_eq_false c149, c162]; first | done | rfl), trivial⟩
                        · refine DS.y rfl rfl (Y.pickF rfl) ?_
                          exact DS.nil ⟨by (show Value.bool _ = Value.bool _; rw [hg3]; simp only [decide_eq_false c149, c162]; first | done | rfl), trivial⟩
                    · intro j
                      refine DS.nil ?_
                      show DL _ _ _ _ _ _ _
                      refine DL.call rfl rfl F.nm87 rfl (want_any b _ _ _ _ _ hb) ?_
                      rintro _ w28 f29 hb
                      replace FR := FR.put f29 (by intro i hi; simp only [List.mem_cons, List.mem_singleton, List.not_mem_nil, or_false] at hi; rcases hi with rfl; all_goals (first | (left; simp; done) | (right; omega)))
                      replace G21 := G21.put f29 (by intro i hi; simp only [List.mem_cons, List.mem_singleton, List.not_mem_nil, or_false] at hi; rcases hi with rfl; all_goals (first | (left; simp; done) | (right; omega)))
                      replace HG21 := HG21.put f29 (by intro i hi; simp only [List.mem_cons, List.mem_singleton, List.not_mem_nil, or_false] at hi; rcases hi with rfl; all_goals (first | (left; simp; done) | (right; omega)))
                      replace hR := hR.fr f29 (by intro x hx; simp <;> omega)
                      replace hT := hT.fr f29 (by intro x hx; simp <;> omega)
                      replace hb4 := f29.blk hb4 (by simp only [List.mem_cons, List.not_mem_nil, or_false, not_or]; omega)
                      replace hi4 := Nat.lt_of_lt_of_le hi4 f29.size
                      replace hkc := f29.cell hkc (by simp <;> omega)
                      refine DL.nil ?_
                      show DC _ _ _ _ _ _
                      refine DC.region ?_
                      refine DL.y rfl rfl (Y.move) ?_
                      refine DL.y rfl rfl (Y.field F.fd26_5 rfl) ?_
                      refine DL.y rfl rfl (Y.loadB F.sc23 rfl hb4 rfl) ?_
                      refine DL.y rfl rfl (Y.move) ?_
                      have hkv : keys.length = vals.length := by obtain ⟨q1, _⟩ := hx8 rfl; exact (n1_spec (hg1.symm.trans q1.1.1.1)).2.2.2.2.2
                      have hv2 : i2 < vals.length := by omega
                      obtain ⟨bv', ov, cl2, rfl, hbv, hcl2, hcs2, hRv⟩ := hR.valAt hv2
                      have hle2 : vals[i2].nodes ≤ m := by have := nodes_le hv2; simp only [V.nodes] at hm; omega
                      have hx10' : (bad9 || !g3) = false → 0 ≤ p8 ∧ p8 ≤ 400 ∧ 0 ≤ n9 ∧ n9 ≤ 2000 := fun h => by simp only [Bool.or_eq_false_iff, Bool.not_eq_false'] at h; obtain ⟨h1, h2⟩ := h; obtain ⟨r1, r2, r3, r4⟩ := hx9 h1; obtain ⟨q1, q2, q3, q4, q5, q6, q7, q8⟩ := hx8 rfl; obtain ⟨q9, q10, q11, q12⟩ := hx q1.1.2; omega
                      refine DL.y rfl rfl (Y.index F.sl23 rfl rfl (rfl) (hv2)) ?_
                      refine DL.y rfl rfl (Y.loadAn hcs2 F.ag26 rfl hcl2) ?_
                      refine DL.y rfl rfl (Y.move) ?_
                      refine DL.y rfl rfl (Y.addI rfl rfl (rfl) (by omega) (by omega)) ?_
                      refine DL.call rfl rfl F.nm45 rfl (ih _ _ b B _ _ _ _ _ hle2 hRv hB h2 hT hb hx10' (by omega) (by omega)) ?_
                      rintro _ w30 f31 ⟨p11, n11, bad11, hb, hx11⟩
                      replace FR := FR.put f31 (by intro i hi; simp only [List.mem_cons, List.mem_singleton, List.not_mem_nil, or_false] at hi; rcases hi with rfl; all_goals (first | (left; simp; done) | (right; omega)))
                      replace G21 := G21.put f31 (by intro i hi; simp only [List.mem_cons, List.mem_singleton, List.not_mem_nil, or_false] at hi; rcases hi with rfl; all_goals (first | (left; simp; done) | (right; omega)))
                      replace HG21 := HG21.put f31 (by intro i hi; simp only [List.mem_cons, List.mem_singleton, List.not_mem_nil, or_false] at hi; rcases hi with rfl; all_goals (first | (left; simp; done) | (right; omega)))
                      replace hR := hR.fr f31 (by intro x hx; simp <;> omega)
                      replace hT := hT.fr f31 (by intro x hx; simp <;> omega)
                      replace hb4 := f31.blk hb4 (by simp only [List.mem_cons, List.not_mem_nil, or_false, not_or]; omega)
                      replace hi4 := Nat.lt_of_lt_of_le hi4 f31.size
                      replace hkc := f31.cell hkc (by simp <;> omega)
                      refine DL.nil ?_
                      show DC _ _ _ _ _ _
                      refine DC.region ?_
                      refine DL.y rfl rfl (Y.move) ?_
                      refine DL.y rfl rfl (Y.addI (c := ((i2 + 1 : Nat) : Int)) rfl rfl (by omega) (by omega) (by omega)) ?_
                      refine DL.y rfl rfl (Y.assign) ?_
                      refine DL.nil ?_
                      refine ⟨(i2 + 1, p11, n11, bad11), ⟨G21, hk2, hb, fun h => ?_⟩, by show keys.length - (i2 + 1) < keys.length - i2; omega, rfl⟩
                      obtain ⟨e1, e2, e3, e4, e5, e6⟩ := hx11 h
                      simp only [Bool.or_eq_false_iff, Bool.not_eq_false'] at e1
                      obtain ⟨e1, e7⟩ := e1
                      obtain ⟨r1, r2, r3, r4⟩ := hx9 e1
                      obtain ⟨q1, q2, q3, q4, q5, q6, q7, q8⟩ := hx8 r1
                      refine ⟨q1, fun i hi hik => ?_, fun i hi hik => ?_, fun i hi hik => ?_, ?_, ?_, e5, e6⟩
                      · by_cases h' : i = i2
                        · subst h'; exact r4
                        · exact q2 i hi (by omega)
                      · by_cases h' : i + 1 = i2
                        · subst h'
                          rw [e7] at hg3
                          have h3 := hg3.symm
                          simp only [Bool.or_eq_true, decide_eq_true_eq] at h3
                          rcases h3 with h3 | h3
                          · omega
                          · simpa using h3
                        · exact q3 i hi (by omega)
                      · by_cases h' : i = i2
                        · subst h'; exact e2
                        · exact q4 i hi (by omega)
                      · rw [nodesL_take hv2, e3, q5]; push_cast; omega
                      · rw [bytesL_take hv2, bytesK_take hk2, e4, r2, q6]; push_cast; omega
                  · refine DC.exit ?_
                    refine FinQ.end0 (Ret.mk FR ⟨p8, n8, bad8, hb, fun h => ?_⟩)
                    obtain ⟨q1, q2, q3, q4, q5, q6, q7, q8⟩ := hx8 h
                    have e : i2 = keys.length := by subst h; simp at c137; omega
                    subst e
                    obtain ⟨s1, s2, s3, s4, s5, s6⟩ := n1_spec (hg1.symm.trans q1.1.1.1)
                    obtain ⟨s7, s8⟩ := n2_spec (hg2.symm.trans q1.1.1.2.1)
                    rw [s6, List.take_length] at q5
                    rw [List.take_length, s6, List.take_length] at q6
                    exact ⟨q1.1.2, .mk ⟨s1, s2, s3, s4, s5, s6, s7, s8, q1.1.1.2.2, fun i hi => q2 i hi hi, fun i hi => q3 i hi hi⟩ q1.2 (fun i hi => q4 i hi (by omega)), by simp only [V.nodes]; push_cast; omega, by simp only [V.bytes]; push_cast; omega, q7, q8⟩


theorem value_any : ∀ m, ValueC m
  | 0 => fun v cs b B p n d bad w hm => by have := nodes_pos v; omega
  | m + 1 => value_step m (value_any m)

end Go.Proofs.YtmbleojlnaofjaaGreatDoor

/- The walks of impl.toGo, listToGo, mapToGo: a right value becomes the program's own. -/
namespace Go.Proofs.YtmbleojlnaofjaaGreatDoor
open Go Go.RowKit D
set_option linter.unusedVariables false
set_option linter.unusedSimpArgs false


/-! ### A value of the program's own, an interface value -/
/-- The bits of a half: what float64(half) / 2 gives. -/
def halfBits (h : Int) : Nat := (Ieee.double.div (FloatKind.f64.nearest h) 4611686018427387904).getD 0
def RowD (w : World) (D : Nat → Prop) (a : Option Addr) (n sz : Nat) (cl : Nat → Array Value) : Prop :=
  ∀ i, i < n → ∃ b o, a = some ⟨b, o, none⟩ ∧ D b ∧ CellsAt w b (o + i * sz) (cl i) ∧ (cl i).size = sz
inductive GV (w : World) (D : Nat → Prop) : V → Value → Prop
  | null {half text list keys vals} : GV w D (.mk 0 half text list keys vals) .nilIface
  | fls {half text list keys vals} : GV w D (.mk 1 half text list keys vals) (.iface 4 (.bool false))
  | tru {half text list keys vals} : GV w D (.mk 2 half text list keys vals) (.iface 4 (.bool true))
  | whole {half text list keys vals} (h : half.tmod 2 = 0) : GV w D (.mk 3 half text list keys vals) (.iface 3 (.int .i64 (half.tdiv 2)))
  | frac {half text list keys vals} (h : ¬ half.tmod 2 = 0) : GV w D (.mk 3 half text list keys vals) (.iface 79 (.float .f64 (halfBits half)))
  | text {half text list keys vals} : GV w D (.mk 4 half text list keys vals) (.iface 9 (.string text))
  | list {half text list keys vals a c} (xs : Nat → Value) (hr : RowD w D a list.length 1 (fun i => #[xs i])) (hx : ∀ (i : Nat) (h : i < list.length), GV w D list[i] (xs i)) :
      GV w D (.mk 5 half text list keys vals) (.iface 80 (.slice a list.length c))
  | map {half text list keys vals r} (es : Array MapEntry) (xs : Nat → Value) (hd : D r) (hr : w.heap[r]? = some (.map es keys.length)) (hs : es.size = keys.length)
      (he : ∀ (i : Nat) (h : i < keys.length), es[i]? = some ⟨.string keys[i], xs i, i⟩) (hx : ∀ (i : Nat) (h : i < vals.length), GV w D vals[i] (xs i)) :
      GV w D (.mk 6 half text list keys vals) (.iface 83 (.map (some r)))
theorem RowD.fr {S : List Nat} {w w' : World} {D : Nat → Prop} {a : Option Addr} {n sz : Nat} {cl : Nat → Array Value} (h : RowD w D a n sz cl) (f : Fr S w w') (hs : ∀ b, D b → b ∉ S) : RowD w' D a n sz cl :=
  fun i hi => let ⟨b, o, h1, h2, h3, h4⟩ := h i hi; ⟨b, o, h1, h2, h3.fr f (hs b h2), h4⟩
theorem GV.fr {S : List Nat} {w w' : World} {D : Nat → Prop} {v : V} {x : Value} (h : GV w D v x) (f : Fr S w w') (hs : ∀ b, D b → b ∉ S) : GV w' D v x := by
  induction h with
  | null => exact .null
  | fls => exact .fls
  | tru => exact .tru
  | whole h => exact .whole h
  | frac h => exact .frac h
  | text => exact .text
  | list xs hr hx ih => exact .list xs (hr.fr f hs) ih
  | map es xs hd hr hsz he hx ih => exact .map es xs hd (f.blk hr (hs _ hd)) hsz he ih
theorem GV.mono {w : World} {D D' : Nat → Prop} {v : V} {x : Value} (h : GV w D v x) (hd : ∀ b, D b → D' b) : GV w D' v x := by
  induction h with
  | null => exact .null
  | fls => exact .fls
  | tru => exact .tru
  | whole h => exact .whole h
  | frac h => exact .frac h
  | text => exact .text
  | list xs hr hx ih => exact .list xs (fun i hi => let ⟨b, o, h1, h2, h3, h4⟩ := hr i hi; ⟨b, o, h1, hd b h2, h3, h4⟩) ih
  | map es xs hD hr hsz he hx ih => exact .map es xs (hd _ hD) hr hsz he ih
theorem GV.one {w : World} {D : Nat → Prop} {v : V} {x : Value} (h : GV w D v x) : x.oneCell' = true := by cases h <;> rfl
theorem RV.one {w : World} {B : Nat} {v : V} {cs : Array Value} (h : RV w B v cs) : cs.all (·.oneCell') = true := by cases h; simp [Value.oneCell']
theorem halfBits_eq (h : Int) : floatBits .quo .f64 (FloatKind.f64.nearest h) 4611686018427387904 = some (halfBits h) := by
  have key : (Ieee.double.div (FloatKind.f64.nearest h) 4611686018427387904).isSome = true := by
    have h2 : Ieee.double.read 4611686018427387904 = .number false 4503599627370496 (-51) := by decide +kernel
    have h3 : (Ieee.double.read (FloatKind.f64.nearest h)).isNaN = false := by
      have hw : ∀ (neg : Bool) (rung : Nat), rung ≤ Ieee.double.infRung → (Ieee.double.read (Ieee.double.word neg rung)).isNaN = false := by
        intro neg rung hr
        have hi : Ieee.double.infRung = 9218868437227405312 := by decide +kernel
        have hs : Ieee.double.signWeight = 9223372036854775808 := by decide +kernel
        have hm : (Ieee.double.word neg rung) % Ieee.double.signWeight = rung := by
          unfold Ieee.Format.word
          rw [hs]; rw [hi] at hr
          cases neg <;> simp <;> omega
        unfold Ieee.Format.read
        simp only [hm]
        by_cases c1 : rung < Ieee.double.binade
        · rw [if_pos c1]; rfl
        · rw [if_neg c1]
          by_cases c2 : rung < Ieee.double.infRung
          · rw [if_pos c2]; rfl
          · rw [if_neg c2, if_pos (by omega)]; rfl
      show (Ieee.double.read (Ieee.double.nearest _ _ _)).isNaN = false
      unfold Ieee.Format.nearest
      split
      · exact hw _ _ (Nat.zero_le _)
      · exact hw _ _ (Nat.min_le_right _ _)
    unfold Ieee.Format.div
    rw [h2]
    cases hr : Ieee.double.read (FloatKind.f64.nearest h) with
    | nan s t => rw [hr] at h3; cases h3
    | infinity s => rfl
    | number s m i => rfl
  unfold floatBits halfBits
  show Ieee.double.div _ _ = _
  cases hd : Ieee.double.div (FloatKind.f64.nearest h) 4611686018427387904 with
  | none => rw [hd] at key; cases key
  | some r => rfl
/-- A slice of values that lies below B. -/
theorem RVL.lt {w : World} {B : Nat} {a : Option Addr} {list : List V} (h : RVL w B a list) {B' : Nat} (hb : B ≤ B') : RVL w B' a list := by
  have mono : ∀ {v : V} {cs : Array Value}, RV w B v cs → RV w B' v cs := by
    intro v cs h
    induction h with
    | mk cl cv hk hh ht ln kn vn ks hl rl hks hv rv ih1 ih2 =>
      have up : ∀ {a : Option Addr} {n sz : Nat} {cl : Nat → Array Value}, Row w B a n sz cl → Row w B' a n sz cl := fun h i hi => let ⟨b, o, h1, h2, h3, h4⟩ := h i hi; ⟨b, o, h1, Nat.lt_of_lt_of_le h2 hb, h3, h4⟩
      exact .mk cl cv hk hh ht ln kn vn ks (up hl) ih1 (up hks) (up hv) ih2
  exact fun k hk => let ⟨b, o, cl, h1, h2, h3, h4, h5⟩ := h k hk; ⟨b, o, cl, h1, Nat.lt_of_lt_of_le h2 hb, h3, h4, mono h5⟩
def ToC (m : Nat) : Prop := ∀ (v : V) (cs : Array Value) (B : Nat) (w : World), v.nodes ≤ m → v.nodes ≤ 1000000 → Good v → RV w B v cs → B ≤ w.heap.size →
  Calls Tryz.prog 36 #[.agg cs] w (Ret w [] fun r w' => ∃ x, r = .tuple #[x, .bool true] ∧ GV w' (fun j => w.heap.size ≤ j ∧ j < w'.heap.size) v x)
theorem el_any : elemT Tryz.prog 80 20 .nilIface 16 := ⟨Tryz.underlying80, by kernel_rfl⟩


theorem gs_fr {S : List Nat} {w0 w w' : World} {list : List V} {k bo : Nat} {c : Nat → Value → Prop} (h : ∀ i (h : i < list.length), i < k → ∃ x, c i x ∧ GV w (fun j => j ≠ bo ∧ (w0.heap.size ≤ j ∧ j < w.heap.size)) list[i] x) (f : Fr S w w') (hs : ∀ b, b ∈ S → b = bo ∨ w.heap.size ≤ b ∨ b < w0.heap.size) :
    ∀ i (h : i < list.length), i < k → ∃ x, c i x ∧ GV w' (fun j => j ≠ bo ∧ (w0.heap.size ≤ j ∧ j < w'.heap.size)) list[i] x := by
  intro i hi hk
  obtain ⟨x, h1, h2⟩ := h i hi hk
  exact ⟨x, h1, (h2.fr f (fun b hb hm => by rcases hs b hm with h | h | h <;> omega)).mono (fun b hb => ⟨hb.1, hb.2.1, Nat.lt_of_lt_of_le hb.2.2 f.size⟩)⟩
theorem gx_fr {S : List Nat} {w0 w w' : World} {v : V} {x : Value} {bo : Nat} (h : GV w (fun j => j ≠ bo ∧ (w0.heap.size ≤ j ∧ j < w.heap.size)) v x) (f : Fr S w w') (hs : ∀ b, b ∈ S → b = bo ∨ w.heap.size ≤ b ∨ b < w0.heap.size) : GV w' (fun j => j ≠ bo ∧ (w0.heap.size ≤ j ∧ j < w'.heap.size)) v x :=
  (h.fr f (fun b hb hm => by rcases hs b hm with h | h | h <;> omega)).mono (fun b hb => ⟨hb.1, hb.2.1, Nat.lt_of_lt_of_le hb.2.2 f.size⟩)
theorem gx_of {w0 w w' : World} {v : V} {x : Value} {bo : Nat} (h : GV w' (fun j => w.heap.size ≤ j ∧ j < w'.heap.size) v x) (hb : bo < w.heap.size) (h0 : w0.heap.size ≤ w.heap.size) : GV w' (fun j => j ≠ bo ∧ (w0.heap.size ≤ j ∧ j < w'.heap.size)) v x :=
  h.mono (fun j hj => ⟨by omega, by omega, hj.2⟩)


theorem tdiv2 {h : Int} (h1 : -18014398509481984 ≤ h) (h2 : h ≤ 18014398509481984) : -18014398509481984 ≤ h.tdiv 2 ∧ h.tdiv 2 ≤ 18014398509481984 := by
  rcases Int.le_total 0 h with h0 | h0
  · rw [Int.tdiv_eq_ediv_of_nonneg h0]; omega
  · have : h = -(-h) := by omega
    rw [this, Int.neg_tdiv, Int.tdiv_eq_ediv_of_nonneg (by omega)]; omega
theorem RowD.mono {w : World} {D D' : Nat → Prop} {a : Option Addr} {n sz : Nat} {cl : Nat → Array Value} (h : RowD w D a n sz cl) (hd : ∀ b, D b → D' b) : RowD w D' a n sz cl :=
  fun i hi => let ⟨b, o, h1, h2, h3, h4⟩ := h i hi; ⟨b, o, h1, hd b h2, h3, h4⟩
theorem RV.elems {w : World} {B : Nat} {kind half : Int} {text : ByteArray} {list : List V} {keys : List ByteArray} {vals : List V} {la ka va : Option Addr} {ln kn vn lc kc vc : Nat} (h : RV w B (.mk kind half text list keys vals) #[.int .i64 kind, .int .i64 half, .string text, .slice la ln lc, .slice ka kn kc, .slice va vn vc]) : RVL w B la list :=
  fun k hk => h.elem hk

theorem listToGo_step (m : Nat) (ih : ToC m) (list : List V) (a : Option Addr) (lc B : Nat) (w : World) (hn : V.nodesL list ≤ m) (hn2 : V.nodesL list ≤ 1000000) (hg : ∀ i (h : i < list.length), Good list[i]) (hR : RVL w B a list) (hB : B ≤ w.heap.size) :
    Calls Tryz.prog 70 #[.slice a list.length lc] w (Ret w [] fun r w' => ∃ (a' : Option Addr) (c' : Nat) (xs : Nat → Value), r = .tuple #[.slice a' list.length c', .bool true] ∧ RowD w' (fun j => w.heap.size ≤ j ∧ j < w'.heap.size) a' list.length 1 (fun i => #[xs i]) ∧ (∀ i (h : i < list.length), GV w' (fun j => w.heap.size ≤ j ∧ j < w'.heap.size) list[i] (xs i))) := by
  have hll := length_le_nodesL list
  refine calls_of Tryz.func70 rfl rfl rfl rfl ?_
  have FR := Fr.refl [] w
  refine DC.seq ?_
  refine DC.region ?_
  refine DL.y rfl rfl (Y.assign) ?_
  refine DL.y rfl rfl (Y.assign) ?_
  refine DL.nil ?_
  show DC _ _ _ _ _ _
  refine DC.seq ?_
  refine DC.region ?_
  refine DL.y rfl rfl (Y.move) ?_
  refine DL.y rfl rfl (Y.lenS Tryz.underlying23 rfl) ?_
  refine DL.makeS rfl rfl el_any rfl rfl rfl (by omega) (by omega) ?_
  intro bo w1 c0 f2 loo hio hbo hcs hc0
  replace loo := Nat.le_trans FR.size loo
  replace FR := FR.tr0 f2
  replace hR := hR.fr f2 (by intro x hx; simp <;> omega)
  refine DL.y rfl rfl (Y.assign) ?_
  refine DL.nil ?_
  show DC _ _ _ _ _ _
  refine DC.seq ?_
  refine DC.seq ?_
  refine DC.region ?_
  refine DL.y rfl rfl (Y.move) ?_
  refine DL.y rfl rfl (Y.lenS Tryz.underlying23 rfl) ?_
  refine DL.y rfl rfl (Y.move) ?_
  refine DL.nil ?_
  show DC _ _ _ _ _ _
  refine DC.block ?_
  refine DC.loop (σ := Nat × Array Value) [(2, 3), (5, 8), (14, 30)] (fun (k, _) => [(14, .int .i64 (k : Int))]) (fun sg wl => Fr [bo] w1 wl ∧ (fun (k, c) w' => k ≤ list.length ∧ w'.heap[bo]? = some (.cells c 20 (0, 0)) ∧ c.size = list.length ∧ (∀ i (h : i < list.length), i < k → ∃ x, c[i]? = some x ∧ GV w' (fun j => j ≠ bo ∧ (w.heap.size ≤ j ∧ j < w'.heap.size)) list[i] x)) sg wl) (fun (k, _) => list.length - k) ((0, c0)) rfl ?_ ?_ ?_
  · exact rfl
  · exact ⟨Fr.refl _ _, Nat.zero_le _, hbo, hcs, fun i h hi => by omega⟩
  · rintro ⟨k, c⟩ j w3 ⟨f4, hk0, hbo, hc, hgs⟩
    replace FR := FR.put f4 (by intro i hi; simp only [List.mem_cons, List.mem_singleton, List.not_mem_nil, or_false] at hi; rcases hi with rfl; all_goals (first | (left; simp; done) | (right; omega)))
    replace hR := hR.fr f4 (by intro x hx; simp <;> omega)
    replace hio := Nat.lt_of_lt_of_le hio f4.size
    have G5 := f4
    have HG5 := Fr.refl [bo] w3
    refine DC.seq ?_
    refine DC.region ?_
    refine DL.if rfl rfl (Y.lt rfl rfl) (fun c15 => ?_) (fun c15 => ?_)
    · have hk : k < list.length := by omega
      refine DL.nil ?_
      show DC _ _ _ _ _ _
      refine DC.seq ?_
      refine DC.condT rfl ?_
      refine DC.skip ?_
      show DC _ _ _ _ _ _
      refine DC.seq ?_
      refine DC.block ?_
      refine DC.seq ?_
      refine DC.region ?_
      refine DL.y rfl rfl (Y.move) ?_
      obtain ⟨ba, oa, cl, rfl, hba, hcl, hcs1, hRi⟩ := hR k (by omega)
      refine DL.y rfl rfl (Y.index F.sl23 rfl rfl (rfl) (hk)) ?_
      refine DL.y rfl rfl (Y.loadAn hcs1 F.ag26 rfl hcl) ?_
      refine DL.alloc rfl rfl F.z26 rfl ?_
      intro b6 w6 f7 lo6 hi6 hb6
      have lt_bo_b6 : bo < b6 := Nat.lt_of_lt_of_le hio lo6
      have lo6G5 := Nat.le_trans G5.size lo6
      have lo6HG5 := Nat.le_trans HG5.size lo6
      replace lo6 := Nat.le_trans FR.size lo6
      replace FR := FR.tr0 f7
      replace G5 := G5.tr0 f7
      replace HG5 := HG5.tr0 f7
      replace hR := hR.fr f7 (by intro x hx; simp <;> omega)
      replace hio := Nat.lt_of_lt_of_le hio f7.size
      replace hbo := f7.blk0 hbo
      replace hRi := hRi.fr f7 (by intro x hx; simp <;> omega)
      refine DL.y rfl rfl (Y.assign) ?_
      refine DL.storeA rfl F.ag26 rfl rfl hcs1 hRi.one hb6 rfl ?_
      intro w8 f9 hsz hb6'
      replace FR := FR.put f9 (by intro i hi; simp only [List.mem_cons, List.mem_singleton, List.not_mem_nil, or_false] at hi; rcases hi with rfl; all_goals (first | (left; simp; done) | (right; omega)))
      replace G5 := G5.put f9 (by intro i hi; simp only [List.mem_cons, List.mem_singleton, List.not_mem_nil, or_false] at hi; rcases hi with rfl; all_goals (first | (left; simp; done) | (right; omega)))
      replace HG5 := HG5.put f9 (by intro i hi; simp only [List.mem_cons, List.mem_singleton, List.not_mem_nil, or_false] at hi; rcases hi with rfl; all_goals (first | (left; simp; done) | (right; omega)))
      replace hR := hR.fr f9 (by intro x hx; simp <;> omega)
      replace hio := Nat.lt_of_lt_of_le hio f9.size
      replace hbo := f9.blk hbo (by simp only [List.mem_cons, List.not_mem_nil, or_false, not_or]; omega)
      replace hRi := hRi.fr f9 (by intro x hx; simp <;> omega)
      replace hi6 := Nat.lt_of_lt_of_le hi6 f9.size
      replace hb6 := hb6'
      refine DL.nil ?_
      show DC _ _ _ _ _ _
      refine DC.seq ?_
      refine DC.region ?_
      refine DL.y rfl rfl (Y.loadAn hcs1 F.ag26 rfl (.ofBlk hb6)) ?_
      have hsz0 := FR.size
      have hio0 := hio
      refine DL.call rfl rfl F.nm36 rfl (ih _ _ B _ (by have := nodes_le hk; omega) (by have := nodes_le hk; omega) (hg k hk) hRi (by have := FR.size; omega)) ?_
      rintro _ w10 f11 ⟨x, rfl, hgx⟩
      replace FR := FR.tr0 f11
      replace G5 := G5.tr0 f11
      replace HG5 := HG5.tr0 f11
      replace hR := hR.fr f11 (by intro x hx; simp <;> omega)
      replace hio := Nat.lt_of_lt_of_le hio f11.size
      replace hbo := f11.blk0 hbo
      replace hRi := hRi.fr f11 (by intro x hx; simp <;> omega)
      replace hi6 := Nat.lt_of_lt_of_le hi6 f11.size
      replace hb6 := f11.blk0 hb6
      replace hgx := gx_of (w0 := w) (bo := bo) hgx hio0 hsz0
      refine DL.y rfl rfl (Y.move) ?_
      refine DL.y rfl rfl (Y.extract rfl rfl) ?_
      refine DL.y rfl rfl (Y.extract rfl rfl) ?_
      refine DL.y rfl rfl (Y.assign) ?_
      refine DL.y rfl rfl (Y.assign) ?_
      refine DL.nil ?_
      show DC _ _ _ _ _ _
      refine DC.seq ?_
      refine DC.seq ?_
      refine DC.region ?_
      refine DL.y rfl rfl (Y.move) ?_
      refine DL.y rfl rfl (Y.not rfl) ?_
      refine DL.nil ?_
      show DC _ _ _ _ _ _
      refine DC.condF rfl ?_
      refine DC.skip ?_
      show DC _ _ _ _ _ _
      refine DC.region ?_
      refine DL.y rfl rfl (Y.move) ?_
      refine DL.y rfl rfl (Y.move) ?_
      refine DL.y rfl rfl (Y.move) ?_
      refine DL.y rfl rfl (Y.index F.sl80 rfl rfl rfl hk) ?_
      refine DL.storeP rfl F.co20 F.in20 rfl rfl hgx.one hbo (by omega) ?_
      intro w12 f13 hsz2 hbo'
      replace FR := FR.put f13 (by intro i hi; simp only [List.mem_cons, List.mem_singleton, List.not_mem_nil, or_false] at hi; rcases hi with rfl; all_goals (first | (left; simp; done) | (right; omega)))
      replace G5 := G5.put f13 (by intro i hi; simp only [List.mem_cons, List.mem_singleton, List.not_mem_nil, or_false] at hi; rcases hi with rfl; all_goals (first | (left; simp; done) | (right; omega)))
      replace HG5 := HG5.put f13 (by intro i hi; simp only [List.mem_cons, List.mem_singleton, List.not_mem_nil, or_false] at hi; rcases hi with rfl; all_goals (first | (left; simp; done) | (right; omega)))
      replace hR := hR.fr f13 (by intro x hx; simp <;> omega)
      replace hio := Nat.lt_of_lt_of_le hio f13.size
      replace hRi := hRi.fr f13 (by intro x hx; simp <;> omega)
      replace hi6 := Nat.lt_of_lt_of_le hi6 f13.size
      replace hb6 := f13.blk hb6 (by simp only [List.mem_cons, List.not_mem_nil, or_false, not_or]; omega)
      replace hgx := gx_fr hgx f13 (by simp <;> omega)
      replace hbo := hbo'
      refine DL.nil ?_
      show DC _ _ _ _ _ _
      refine DC.region ?_
      refine DL.y rfl rfl (Y.addI (c := ((k + 1 : Nat) : Int)) rfl rfl (by omega) (by omega) (by omega)) ?_
      refine DL.y rfl rfl (Y.move) ?_
      refine DL.nil ?_
      refine ⟨(k + 1, c.setIfInBounds (0 + k * 1) x), ⟨G5, by omega, hbo, by simpa using hc, fun i hi hik => ?_⟩, by show list.length - (k + 1) < list.length - k; omega, rfl⟩
      by_cases h' : i = k
      · subst h'; exact ⟨x, by simp [hc, hi], hgx⟩
      · obtain ⟨y, h1, h2⟩ := gs_fr (c := fun i x => c[i]? = some x) hgs HG5 (by simp) i hi (by omega)
        exact ⟨y, by rw [Array.getElem?_setIfInBounds_ne (by omega)]; exact h1, h2⟩
    · refine DL.nil ?_
      show DC _ _ _ _ _ _
      refine DC.seq ?_
      refine DC.condF rfl ?_
      refine DC.exit ?_
      show DC _ _ _ _ _ _
      refine DC.seq ?_
      refine DC.region ?_
      refine DL.y rfl rfl (Y.move) ?_
      refine DL.y rfl rfl (Y.assign) ?_
      refine DL.y rfl rfl (Y.assign) ?_
      refine DL.nil ?_
      show DC _ _ _ _ _ _
      refine DC.ret ?_
      refine FinQ.ret2 rfl rfl (Ret.mk FR ⟨_, _, fun i => c.getD i undef, rfl, fun i hi => ?_, fun i hi => ?_⟩)
      · obtain ⟨x, h1, h2⟩ := hgs i hi (by omega)
        refine ⟨bo, 0, rfl, ⟨by omega, by omega⟩, fun q hq => ?_, rfl⟩
        have hq0 : q = 0 := by simpa using hq
        subst hq0
        have e : (fun i => #[(fun i => c.getD i undef) i] : Nat → Array Value) i = #[x] := by simp [h1]
        show _ = ((fun i => #[(fun i => c.getD i undef) i] : Nat → Array Value) i)[0]?
        rw [e]
        exact cell_of_blk hbo (by simpa using h1)
      · obtain ⟨x, h1, h2⟩ := hgs i hi (by omega)
        have e : (fun i => c.getD i undef) i = x := by simp [h1]
        show GV _ _ list[i] ((fun i => c.getD i undef) i)
        rw [e]
        exact h2.mono (fun j hj => hj.2)

theorem mapToGo_step (m : Nat) (ih : ToC m) {kind half : Int} {text : ByteArray} {list : List V} {keys : List ByteArray} {vals : List V} {la ka va : Option Addr} {lc kc vc : Nat} (B : Nat) (w : World) (hn : V.nodesL vals ≤ m) (hn2 : V.nodesL vals ≤ 1000000) (hg : ∀ i (h : i < vals.length), Good vals[i]) (hkv : keys.length = vals.length)
    (hrise : ∀ i (h : i + 1 < keys.length), Op.bytesLess keys[i].toList keys[i + 1].toList = true) (hR : RV w B (.mk kind half text list keys vals) #[.int .i64 kind, .int .i64 half, .string text, .slice la list.length lc, .slice ka keys.length kc, .slice va vals.length vc]) (hB : B ≤ w.heap.size) :
    Calls Tryz.prog 71 #[.agg #[.int .i64 kind, .int .i64 half, .string text, .slice la list.length lc, .slice ka keys.length kc, .slice va vals.length vc]] w (Ret w [] fun r w' => ∃ (rm : Nat) (es : Array MapEntry) (xs : Nat → Value), r = .tuple #[.map (some rm), .bool true] ∧ (w.heap.size ≤ rm ∧ rm < w'.heap.size) ∧ w'.heap[rm]? = some (.map es keys.length) ∧ es.size = keys.length ∧
      (∀ (i : Nat) (h : i < keys.length), es[i]? = some ⟨.string keys[i], xs i, i⟩) ∧ (∀ i (h : i < vals.length), GV w' (fun j => w.heap.size ≤ j ∧ j < w'.heap.size) vals[i] (xs i))) := by
  have hll := length_le_nodesL vals
  obtain ⟨bt, bl, bk, bv, bkind, bhalf⟩ := hR.bounds
  refine calls_of Tryz.func71 rfl rfl rfl rfl ?_
  have FR := Fr.refl [] w
  refine DC.seq ?_
  refine DC.region ?_
  refine DL.boxA rfl rfl rfl ?_
  intro b1 w1 f2 lo1 hi1 hb1
  replace lo1 := Nat.le_trans FR.size lo1
  replace FR := FR.tr0 f2
  replace hR := hR.fr f2 (by intro x hx; simp <;> omega)
  refine DL.y rfl rfl (Y.assign) ?_
  refine DL.y rfl rfl (Y.assign) ?_
  refine DL.nil ?_
  show DC _ _ _ _ _ _
  refine DC.seq ?_
  refine DC.seq ?_
  refine DC.region ?_
  refine DL.y rfl rfl (Y.field F.fd26_4 rfl) ?_
  refine DL.y rfl rfl (Y.loadB F.sc24 rfl hb1 rfl) ?_
  refine DL.y rfl rfl (Y.lenS Tryz.underlying24 rfl) ?_
  refine DL.y rfl rfl (Y.field F.fd26_5 rfl) ?_
  refine DL.y rfl rfl (Y.loadB F.sc23 rfl hb1 rfl) ?_
  refine DL.y rfl rfl (Y.lenS Tryz.underlying23 rfl) ?_
  refine DL.if rfl rfl (Y.ne rfl rfl) (fun c15 => ?_) (fun c15 => ?_)
  · exfalso; omega
  · refine DL.nil ?_
    show DC _ _ _ _ _ _
    refine DC.condF rfl ?_
    refine DC.skip ?_
    show DC _ _ _ _ _ _
    refine DC.seq ?_
    refine DC.region ?_
    refine DL.y rfl rfl (Y.field F.fd26_4 rfl) ?_
    refine DL.y rfl rfl (Y.loadB F.sc24 rfl hb1 rfl) ?_
    refine DL.y rfl rfl (Y.lenS Tryz.underlying24 rfl) ?_
    refine DL.makeM rfl rfl Tryz.underlying83 rfl ?_
    intro br w3 f4 lor hir hbr
    have lt_b1_br : b1 < br := Nat.lt_of_lt_of_le hi1 lor
    replace lor := Nat.le_trans FR.size lor
    replace FR := FR.tr0 f4
    replace hR := hR.fr f4 (by intro x hx; simp <;> omega)
    replace hb1 := f4.blk0 hb1
    replace hi1 := Nat.lt_of_lt_of_le hi1 f4.size
    refine DL.y rfl rfl (Y.assign) ?_
    refine DL.nil ?_
    show DC _ _ _ _ _ _
    refine DC.seq ?_
    refine DC.seq ?_
    refine DC.region ?_
    refine DL.y rfl rfl (Y.field F.fd26_4 rfl) ?_
    refine DL.y rfl rfl (Y.loadB F.sc24 rfl hb1 rfl) ?_
    refine DL.y rfl rfl (Y.lenS Tryz.underlying24 rfl) ?_
    refine DL.y rfl rfl (Y.move) ?_
    refine DL.nil ?_
    show DC _ _ _ _ _ _
    refine DC.block ?_
    refine DC.loop (σ := Nat × Array MapEntry) [(2, 3), (5, 8), (23, 54)] (fun (k, _) => [(23, .int .i64 (k : Int))]) (fun sg wl => Fr [br] w3 wl ∧ (fun (k, es) w' => k ≤ keys.length ∧ w'.heap[br]? = some (.map es k) ∧ es.size = k ∧ (∀ i (h : i < vals.length), i < k → ∃ x, (fun i x => ∃ h : i < keys.length, es[i]? = some ⟨.string keys[i], x, i⟩) i x ∧ GV w' (fun j => j ≠ br ∧ (w.heap.size ≤ j ∧ j < w'.heap.size)) vals[i] x)) sg wl) (fun (k, _) => keys.length - k) ((0, #[])) rfl ?_ ?_ ?_
    · exact rfl
    · exact ⟨Fr.refl _ _, Nat.zero_le _, hbr, rfl, fun i h hi => by omega⟩
    · rintro ⟨k, es⟩ j w5 ⟨f6, hk0, hbr, hes, hgs⟩
      replace FR := FR.put f6 (by intro i hi; simp only [List.mem_cons, List.mem_singleton, List.not_mem_nil, or_false] at hi; rcases hi with rfl; all_goals (first | (left; simp; done) | (right; omega)))
      replace hR := hR.fr f6 (by intro x hx; simp <;> omega)
      replace hb1 := f6.blk hb1 (by simp only [List.mem_cons, List.not_mem_nil, or_false, not_or]; omega)
      replace hi1 := Nat.lt_of_lt_of_le hi1 f6.size
      replace hir := Nat.lt_of_lt_of_le hir f6.size
      have G7 := f6
      have HG7 := Fr.refl [br] w5
      refine DC.seq ?_
      refine DC.region ?_
      refine DL.if rfl rfl (Y.lt rfl rfl) (fun c24 => ?_) (fun c24 => ?_)
      · have hk : k < keys.length := by omega
        refine DL.nil ?_
        show DC _ _ _ _ _ _
        refine DC.seq ?_
        refine DC.condT rfl ?_
        refine DC.skip ?_
        show DC _ _ _ _ _ _
        refine DC.seq ?_
        refine DC.block ?_
        refine DC.seq ?_
        refine DC.region ?_
        refine DL.y rfl rfl (Y.move) ?_
        obtain ⟨bs, os, rfl, hbs, hkc, hks⟩ := hR.keyAt hk
        refine DL.y rfl rfl (Y.index F.sl24 rfl rfl (rfl) (hk)) ?_
        refine DL.y rfl rfl (Y.load F.sc9 rfl hkc) ?_
        refine DL.y rfl rfl (Y.assign) ?_
        refine DL.y rfl rfl (Y.assign) ?_
        refine DL.nil ?_
        show DC _ _ _ _ _ _
        refine DC.seq ?_
        refine DC.seq ?_
        refine DC.region ?_
        refine DL.cut 12 [(28, 39)] 39 (.bool false) (fun w' => w' = w5) rfl ?_ ?_
        · refine DL.y rfl rfl (Y.move) ?_
          refine DL.if rfl rfl (Y.gt rfl rfl) (fun c29 => ?_) (fun c29 => ?_)
          · refine DL.y rfl rfl (Y.move) ?_
            refine DL.y rfl rfl (Y.field F.fd26_4 rfl) ?_
            refine DL.y rfl rfl (Y.loadB F.sc24 rfl hb1 rfl) ?_
            refine DL.y rfl rfl (Y.move) ?_
            refine DL.y rfl rfl (Y.subI (c := (k : Int) - 1) rfl rfl (by omega) (by omega) (by omega)) ?_
            have hi3 : (k : Int) - 1 = ((k - 1 : Nat) : Int) := by omega
            have hk3 : k - 1 < keys.length := by omega
            obtain ⟨bs', os', hsome, _, hkc1, _⟩ := hR.keyAt hk3
            simp only [Option.some.injEq, Addr.mk.injEq, and_true] at hsome
            obtain ⟨rfl, rfl⟩ := hsome
            refine DL.y rfl rfl (Y.index F.sl24 rfl rfl (hi3) (hk3)) ?_
            refine DL.y rfl rfl (Y.load F.sc9 rfl hkc1) ?_
            refine DL.y rfl rfl (Y.move) ?_
            have hlt : Op.bytesLess (keys[k - 1]'hk3).toList (keys[k]'hk).toList = true := by
              have h1 := hrise (k - 1) (by omega)
              have e : k - 1 + 1 = k := by omega
              simp only [e] at h1; exact h1
            refine DL.ifb rfl rfl (Y.sge rfl rfl) (fun c38 => ?_) (fun c38 => ?_)
            · exact absurd c38 (by rw [hlt]; decide)
            · refine DL.y rfl rfl (Y.pickT rfl) ?_
              exact DL.nil ⟨by rfl, rfl⟩
          · refine DL.y rfl rfl (Y.move) ?_
            refine DL.skip rfl rfl ?_
            refine DL.skip rfl rfl ?_
            refine DL.skip rfl rfl ?_
            refine DL.skip rfl rfl ?_
            refine DL.skip rfl rfl ?_
            refine DL.skip rfl rfl ?_
            refine DL.skip rfl rfl ?_
            refine DL.skip rfl rfl ?_
            refine DL.y rfl rfl (Y.pickF rfl) ?_
            exact DL.nil ⟨by rfl, rfl⟩
        · rintro j _ hcut; obtain rfl := hcut.symm
          refine DL.nil ?_
          show DC _ _ _ _ _ _
          refine DC.condF rfl ?_
          refine DC.skip ?_
          show DC _ _ _ _ _ _
          refine DC.seq ?_
          refine DC.region ?_
          refine DL.y rfl rfl (Y.field F.fd26_5 rfl) ?_
          refine DL.y rfl rfl (Y.loadB F.sc23 rfl hb1 rfl) ?_
          refine DL.y rfl rfl (Y.move) ?_
          have hv : k < vals.length := by omega
          obtain ⟨bv', ov, cl, rfl, hbv, hcl, hcs1, hRi⟩ := hR.valAt hv
          refine DL.y rfl rfl (Y.index F.sl23 rfl rfl (rfl) (hv)) ?_
          refine DL.y rfl rfl (Y.loadAn hcs1 F.ag26 rfl hcl) ?_
          have hsz0 := FR.size
          have hir0 := hir
          refine DL.call rfl rfl F.nm36 rfl (ih _ _ B _ (by have := nodes_le hv; omega) (by have := nodes_le hv; omega) (hg k hv) hRi (by have := FR.size; omega)) ?_
          rintro _ w9 f10 ⟨x, rfl, hgx⟩
          replace FR := FR.tr0 f10
          replace G7 := G7.tr0 f10
          replace HG7 := HG7.tr0 f10
          replace hR := hR.fr f10 (by intro x hx; simp <;> omega)
          replace hb1 := f10.blk0 hb1
          replace hi1 := Nat.lt_of_lt_of_le hi1 f10.size
          replace hir := Nat.lt_of_lt_of_le hir f10.size
          replace hbr := f10.blk0 hbr
          replace hkc := f10.cell hkc (by simp <;> omega)
          replace hRi := hRi.fr f10 (by intro x hx; simp <;> omega)
          replace hgx := gx_of (w0 := w) (bo := br) hgx hir0 hsz0
          refine DL.y rfl rfl (Y.move) ?_
          refine DL.y rfl rfl (Y.extract rfl rfl) ?_
          refine DL.y rfl rfl (Y.extract rfl rfl) ?_
          refine DL.y rfl rfl (Y.assign) ?_
          refine DL.y rfl rfl (Y.assign) ?_
          refine DL.nil ?_
          show DC _ _ _ _ _ _
          refine DC.seq ?_
          refine DC.seq ?_
          refine DC.region ?_
          refine DL.y rfl rfl (Y.move) ?_
          refine DL.y rfl rfl (Y.not rfl) ?_
          refine DL.nil ?_
          show DC _ _ _ _ _ _
          refine DC.condF rfl ?_
          refine DC.skip ?_
          show DC _ _ _ _ _ _
          refine DC.region ?_
          refine DL.y rfl rfl (Y.move) ?_
          refine DL.y rfl rfl (Y.move) ?_
          refine DL.y rfl rfl (Y.move) ?_
          have hnew : ∀ z ∈ es.toList, ∃ u : ByteArray, z.key = .string u ∧ u ≠ keys[k]'hk := by
            intro z hz
            obtain ⟨i, hi, he⟩ := List.getElem_of_mem hz
            have hik : i < k := by simpa [hes] using hi
            obtain ⟨y, ⟨h0, h1⟩, _⟩ := hgs i (by omega) hik
            have h3 : es[i]? = some z := by rw [← he]; simp [Array.getElem?_eq_getElem (show i < es.size by omega)]
            rw [h3] at h1
            simp only [Option.some.injEq] at h1
            exact ⟨_, by rw [h1], rise_ne hrise hik hk⟩
          refine DL.mapNew rfl Tryz.underlying83 Tryz.underlying9 rfl rfl rfl hbr hnew ?_
          intro w11 f12 hsz2 hbr'
          replace FR := FR.put f12 (by intro i hi; simp only [List.mem_cons, List.mem_singleton, List.not_mem_nil, or_false] at hi; rcases hi with rfl; all_goals (first | (left; simp; done) | (right; omega)))
          replace G7 := G7.put f12 (by intro i hi; simp only [List.mem_cons, List.mem_singleton, List.not_mem_nil, or_false] at hi; rcases hi with rfl; all_goals (first | (left; simp; done) | (right; omega)))
          replace HG7 := HG7.put f12 (by intro i hi; simp only [List.mem_cons, List.mem_singleton, List.not_mem_nil, or_false] at hi; rcases hi with rfl; all_goals (first | (left; simp; done) | (right; omega)))
          replace hR := hR.fr f12 (by intro x hx; simp <;> omega)
          replace hb1 := f12.blk hb1 (by simp only [List.mem_cons, List.not_mem_nil, or_false, not_or]; omega)
          replace hi1 := Nat.lt_of_lt_of_le hi1 f12.size
          replace hir := Nat.lt_of_lt_of_le hir f12.size
          replace hkc := f12.cell hkc (by simp <;> omega)
          replace hRi := hRi.fr f12 (by intro x hx; simp <;> omega)
          replace hgx := gx_fr hgx f12 (by simp <;> omega)
          replace hbr := hbr'
          refine DL.nil ?_
          show DC _ _ _ _ _ _
          refine DC.region ?_
          refine DL.y rfl rfl (Y.addI (c := ((k + 1 : Nat) : Int)) rfl rfl (by omega) (by omega) (by omega)) ?_
          refine DL.y rfl rfl (Y.move) ?_
          refine DL.nil ?_
          refine ⟨(k + 1, es.push ⟨.string (keys[k]'hk), x, k⟩), ⟨G7, by omega, hbr, by simp [hes], fun i hi hik => ?_⟩, by show keys.length - (k + 1) < keys.length - k; omega, rfl⟩
          by_cases h' : i = k
          · subst h'; exact ⟨x, ⟨hk, by rw [Array.getElem?_push, if_pos hes.symm]⟩, hgx⟩
          · obtain ⟨y, ⟨h0, h1⟩, h2⟩ := gs_fr (c := fun i x => ∃ h : i < keys.length, es[i]? = some ⟨.string keys[i], x, i⟩) hgs HG7 (by simp) i hi (by omega)
            exact ⟨y, ⟨h0, by rw [Array.getElem?_push, if_neg (by omega)]; exact h1⟩, h2⟩
      · refine DL.nil ?_
        show DC _ _ _ _ _ _
        refine DC.seq ?_
        refine DC.condF rfl ?_
        refine DC.exit ?_
        show DC _ _ _ _ _ _
        refine DC.seq ?_
        refine DC.region ?_
        refine DL.y rfl rfl (Y.move) ?_
        refine DL.y rfl rfl (Y.assign) ?_
        refine DL.y rfl rfl (Y.assign) ?_
        refine DL.nil ?_
        show DC _ _ _ _ _ _
        refine DC.ret ?_
        have hke : k = keys.length := by omega
        subst hke
        refine FinQ.ret2 rfl rfl (Ret.mk FR ⟨br, es, fun i => (es[i]?.map (·.val)).getD undef, rfl, ⟨by omega, by omega⟩, hbr, hes, fun i hi => ?_, fun i hi => ?_⟩)
        · obtain ⟨x, ⟨h0, h1⟩, h2⟩ := hgs i (by omega) hi
          have e : (fun i => (es[i]?.map (·.val)).getD undef : Nat → Value) i = x := by simp only [h1]; rfl
          show es[i]? = some ⟨.string keys[i], (fun i => (es[i]?.map (·.val)).getD undef : Nat → Value) i, i⟩
          rw [e, h1]
        · obtain ⟨x, ⟨h0, h1⟩, h2⟩ := hgs i hi (by omega)
          have e : (fun i => (es[i]?.map (·.val)).getD undef : Nat → Value) i = x := by simp [h1]
          show GV _ _ vals[i] ((fun i => (es[i]?.map (·.val)).getD undef : Nat → Value) i)
          rw [e]
          exact h2.mono (fun j hj => hj.2)

theorem toGo_step (m : Nat) (ih : ToC m) : ToC (m + 1) := by
  intro v cs B w hm hm2 hG hR hB
  obtain ⟨kind, half, text, list, keys, vals⟩ := v
  obtain ⟨la, lc, ka, kc, va, vc, rfl⟩ := hR.shape
  obtain ⟨bt, bl, bk, bv, bkind, bhalf⟩ := hR.bounds
  obtain ⟨⟨⟨hk1, hk2⟩, hz1, hz2, hz3, hz4, hkv, ⟨hb1', hb2'⟩, hodd, hv1, hv2, hrise⟩, hgl, hgv⟩ := hG
  simp only [V.nodes] at hm hm2
  have htd := tdiv2 hb1' hb2'
  refine calls_of Tryz.func36 rfl rfl rfl rfl ?_
  have FR := Fr.refl [] w
  refine DC.seq ?_
  refine DC.region ?_
  refine DL.boxA rfl rfl rfl ?_
  intro b1 w1 f2 lo1 hi1 hb1
  replace lo1 := Nat.le_trans FR.size lo1
  replace FR := FR.tr0 f2
  replace hR := hR.fr f2 (by intro x hx; simp <;> omega)
  refine DL.y rfl rfl (Y.assign) ?_
  refine DL.y rfl rfl (Y.assign) ?_
  refine DL.nil ?_
  show DC _ _ _ _ _ _
  refine DC.seq ?_
  refine DC.seq ?_
  refine DC.region ?_
  refine DL.y rfl rfl (Y.field F.fd26_0 rfl) ?_
  refine DL.y rfl rfl (Y.loadB F.sc22 rfl hb1 rfl) ?_
  refine DL.nil ?_
  show DC _ _ _ _ _ _
  refine DC.block ?_
  refine DC.seq ?_
  refine DC.region ?_
  refine DL.if rfl rfl (Y.eq rfl rfl) (fun c7 => ?_) (fun c7 => ?_)
  · refine DL.y rfl rfl (Y.assign) ?_
    refine DL.nil ?_
    show DC _ _ _ _ _ _
    refine DC.condT rfl ?_
    refine DC.seq ?_
    refine DC.region ?_
    refine DL.y rfl rfl (Y.assign) ?_
    refine DL.y rfl rfl (Y.assign) ?_
    refine DL.nil ?_
    show DC _ _ _ _ _ _
    refine DC.ret ?_
    subst c7
    exact FinQ.ret2 rfl rfl (Ret.mk FR ⟨_, rfl, .null⟩)
  · refine DL.y rfl rfl (Y.assign) ?_
    refine DL.nil ?_
    show DC _ _ _ _ _ _
    refine DC.condF rfl ?_
    refine DC.seq ?_
    refine DC.region ?_
    refine DL.if rfl rfl (Y.eq rfl rfl) (fun c9 => ?_) (fun c9 => ?_)
    · refine DL.y rfl rfl (Y.assign) ?_
      refine DL.nil ?_
      show DC _ _ _ _ _ _
      refine DC.condT rfl ?_
      refine DC.seq ?_
      refine DC.region ?_
      refine DL.y rfl rfl (Y.mkI F.if4) ?_
      refine DL.y rfl rfl (Y.assign) ?_
      refine DL.y rfl rfl (Y.assign) ?_
      refine DL.nil ?_
      show DC _ _ _ _ _ _
      refine DC.ret ?_
      subst c9
      exact FinQ.ret2 rfl rfl (Ret.mk FR ⟨_, rfl, .fls⟩)
    · refine DL.y rfl rfl (Y.assign) ?_
      refine DL.nil ?_
      show DC _ _ _ _ _ _
      refine DC.condF rfl ?_
      refine DC.seq ?_
      refine DC.region ?_
      refine DL.if rfl rfl (Y.eq rfl rfl) (fun c12 => ?_) (fun c12 => ?_)
      · refine DL.y rfl rfl (Y.assign) ?_
        refine DL.nil ?_
        show DC _ _ _ _ _ _
        refine DC.condT rfl ?_
        refine DC.seq ?_
        refine DC.region ?_
        refine DL.y rfl rfl (Y.mkI F.if4) ?_
        refine DL.y rfl rfl (Y.assign) ?_
        refine DL.y rfl rfl (Y.assign) ?_
        refine DL.nil ?_
        show DC _ _ _ _ _ _
        refine DC.ret ?_
        subst c12
        exact FinQ.ret2 rfl rfl (Ret.mk FR ⟨_, rfl, .tru⟩)
      · refine DL.y rfl rfl (Y.assign) ?_
        refine DL.nil ?_
        show DC _ _ _ _ _ _
        refine DC.condF rfl ?_
        refine DC.seq ?_
        refine DC.region ?_
        refine DL.if rfl rfl (Y.eq rfl rfl) (fun c15 => ?_) (fun c15 => ?_)
        · refine DL.y rfl rfl (Y.assign) ?_
          refine DL.nil ?_
          show DC _ _ _ _ _ _
          refine DC.condT rfl ?_
          refine DC.seq ?_
          refine DC.seq ?_
          refine DC.region ?_
          refine DL.y rfl rfl (Y.field F.fd26_1 rfl) ?_
          refine DL.y rfl rfl (Y.loadB F.sc3 rfl hb1 rfl) ?_
          refine DL.y rfl rfl (Y.rem rfl rfl (by decide)) ?_
          refine DL.if rfl rfl (Y.eq rfl rfl) (fun c19 => ?_) (fun c19 => ?_)
          · refine DL.nil ?_
            show DC _ _ _ _ _ _
            refine DC.condT rfl ?_
            refine DC.seq ?_
            refine DC.region ?_
            refine DL.y rfl rfl (Y.field F.fd26_1 rfl) ?_
            refine DL.y rfl rfl (Y.loadB F.sc3 rfl hb1 rfl) ?_
            refine DL.y rfl rfl (Y.quoI rfl rfl (by decide) (wrap_i64 (by omega) (by omega))) ?_
            refine DL.y rfl rfl (Y.mkI F.if3) ?_
            refine DL.y rfl rfl (Y.assign) ?_
            refine DL.y rfl rfl (Y.assign) ?_
            refine DL.nil ?_
            show DC _ _ _ _ _ _
            refine DC.ret ?_
            subst c15
            exact FinQ.ret2 rfl rfl (Ret.mk FR ⟨_, rfl, .whole c19⟩)
          · refine DL.nil ?_
            show DC _ _ _ _ _ _
            refine DC.condF rfl ?_
            refine DC.skip ?_
            show DC _ _ _ _ _ _
            refine DC.seq ?_
            refine DC.region ?_
            refine DL.y rfl rfl (Y.field F.fd26_1 rfl) ?_
            refine DL.y rfl rfl (Y.loadB F.sc3 rfl hb1 rfl) ?_
            refine DL.y rfl rfl (Y.convIF F.us3 Tryz.underlying79 rfl) ?_
            refine DL.y rfl rfl (Y.farith rfl rfl (halfBits_eq half)) ?_
            refine DL.y rfl rfl (Y.mkI F.if79) ?_
            refine DL.y rfl rfl (Y.assign) ?_
            refine DL.y rfl rfl (Y.assign) ?_
            refine DL.nil ?_
            show DC _ _ _ _ _ _
            refine DC.ret ?_
            subst c15
            exact FinQ.ret2 rfl rfl (Ret.mk FR ⟨_, rfl, .frac c19⟩)
        · refine DL.y rfl rfl (Y.assign) ?_
          refine DL.nil ?_
          show DC _ _ _ _ _ _
          refine DC.condF rfl ?_
          refine DC.seq ?_
          refine DC.region ?_
          refine DL.if rfl rfl (Y.eq rfl rfl) (fun c30 => ?_) (fun c30 => ?_)
          · refine DL.y rfl rfl (Y.assign) ?_
            refine DL.nil ?_
            show DC _ _ _ _ _ _
            refine DC.condT rfl ?_
            refine DC.seq ?_
            refine DC.region ?_
            refine DL.y rfl rfl (Y.field F.fd26_2 rfl) ?_
            refine DL.y rfl rfl (Y.loadB F.sc9 rfl hb1 rfl) ?_
            refine DL.y rfl rfl (Y.mkI F.if9) ?_
            refine DL.y rfl rfl (Y.assign) ?_
            refine DL.y rfl rfl (Y.assign) ?_
            refine DL.nil ?_
            show DC _ _ _ _ _ _
            refine DC.ret ?_
            subst c30
            exact FinQ.ret2 rfl rfl (Ret.mk FR ⟨_, rfl, .text⟩)
          · refine DL.y rfl rfl (Y.assign) ?_
            refine DL.nil ?_
            show DC _ _ _ _ _ _
            refine DC.condF rfl ?_
            refine DC.seq ?_
            refine DC.region ?_
            refine DL.if rfl rfl (Y.eq rfl rfl) (fun c35 => ?_) (fun c35 => ?_)
            · refine DL.y rfl rfl (Y.assign) ?_
              refine DL.nil ?_
              show DC _ _ _ _ _ _
              refine DC.condT rfl ?_
              refine DC.seq ?_
              refine DC.region ?_
              refine DL.y rfl rfl (Y.field F.fd26_3 rfl) ?_
              refine DL.y rfl rfl (Y.loadB F.sc23 rfl hb1 rfl) ?_
              have hsz0 := FR.size
              refine DL.call rfl rfl F.nm70 rfl (listToGo_step m ih list la lc B _ (by omega) (by omega) hgl hR.elems (by have := FR.size; omega)) ?_
              rintro _ w3 f4 ⟨a', c', xs, rfl, hrow, hgxs⟩
              replace FR := FR.tr0 f4
              replace hR := hR.fr f4 (by intro x hx; simp <;> omega)
              replace hb1 := f4.blk0 hb1
              replace hi1 := Nat.lt_of_lt_of_le hi1 f4.size
              replace hrow := hrow.mono (D' := fun j => w.heap.size ≤ j ∧ j < w3.heap.size) (fun j hj => ⟨by omega, hj.2⟩)
              replace hgxs := fun i h => (hgxs i h).mono (D' := fun j => w.heap.size ≤ j ∧ j < w3.heap.size) (fun j hj => ⟨by omega, hj.2⟩)
              refine DL.y rfl rfl (Y.extract rfl rfl) ?_
              refine DL.y rfl rfl (Y.extract rfl rfl) ?_
              refine DL.y rfl rfl (Y.mkI F.if80) ?_
              refine DL.y rfl rfl (Y.assign) ?_
              refine DL.y rfl rfl (Y.assign) ?_
              refine DL.nil ?_
              show DC _ _ _ _ _ _
              refine DC.ret ?_
              subst c35
              exact FinQ.ret2 rfl rfl (Ret.mk FR ⟨_, rfl, .list xs hrow hgxs⟩)
            · refine DL.y rfl rfl (Y.assign) ?_
              refine DL.nil ?_
              show DC _ _ _ _ _ _
              refine DC.condF rfl ?_
              refine DC.seq ?_
              refine DC.region ?_
              refine DL.if rfl rfl (Y.eq rfl rfl) (fun c43 => ?_) (fun c43 => ?_)
              · refine DL.y rfl rfl (Y.assign) ?_
                refine DL.nil ?_
                show DC _ _ _ _ _ _
                refine DC.condT rfl ?_
                refine DC.seq ?_
                refine DC.region ?_
                refine DL.y rfl rfl (Y.loadW rfl hb1 F.ag26) ?_
                have hsz0 := FR.size
                refine DL.call rfl rfl F.nm71 rfl (mapToGo_step m ih B _ (by omega) (by omega) hgv hkv hrise hR (by have := FR.size; omega)) ?_
                rintro _ w5 f6 ⟨rm, es, xs, rfl, hrm, hmap, hes, hent, hgxs⟩
                replace FR := FR.tr0 f6
                replace hR := hR.fr f6 (by intro x hx; simp <;> omega)
                replace hb1 := f6.blk0 hb1
                replace hi1 := Nat.lt_of_lt_of_le hi1 f6.size
                replace hrm : w.heap.size ≤ rm ∧ rm < w5.heap.size := ⟨by omega, hrm.2⟩
                replace hgxs := fun i h => (hgxs i h).mono (D' := fun j => w.heap.size ≤ j ∧ j < w5.heap.size) (fun j hj => ⟨by omega, hj.2⟩)
                refine DL.y rfl rfl (Y.extract rfl rfl) ?_
                refine DL.y rfl rfl (Y.extract rfl rfl) ?_
                refine DL.y rfl rfl (Y.mkI F.if83) ?_
                refine DL.y rfl rfl (Y.assign) ?_
                refine DL.y rfl rfl (Y.assign) ?_
                refine DL.nil ?_
                show DC _ _ _ _ _ _
                refine DC.ret ?_
                subst c43
                exact FinQ.ret2 rfl rfl (Ret.mk FR ⟨_, rfl, .map es xs hrm hmap hes hent hgxs⟩)
              · exfalso; omega


theorem toGo_any : ∀ m, ToC m
  | 0 => fun v cs B w hm => by have := nodes_pos v; omega
  | m + 1 => toGo_step m (toGo_any m)

end Go.Proofs.YtmbleojlnaofjaaGreatDoor

