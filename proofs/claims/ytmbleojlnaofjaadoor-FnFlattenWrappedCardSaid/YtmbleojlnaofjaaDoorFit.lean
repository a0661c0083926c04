/- The walks of the looker of spec.Fit. -/
import Derived.Test.YtmbleojlnaofjaaDoorF
import Derived.Test.YtmbleojlnaofjaaDoorV
import Derived.Test.YtmbleojlnaofjaaDoorValid
namespace Go.Proofs.YtmbleojlnaofjaaDoor
open Go Go.RowKit D
set_option linter.unusedVariables false
set_option linter.unusedSimpArgs false


/-- What the looker holds: parts, bytes, bad. -/
def lk (p n : Int) (bad : Bool) : Array Value := #[.int .i64 p, .int .i64 n, .bool bad]
theorem wrapI {x : Int} (h1 : -9223372036854775808 ≤ x) (h2 : x ≤ 9223372036854775807) : IntKind.i64.wrap x = x := wrap_i64 h1 h2

theorem want_any (b : Nat) (p n : Int) (bad ok : Bool) (w : World) (hb : w.heap[b]? = some (.cells (lk p n bad) 52 (0, 0))) :
    Calls Tryd.prog 41 #[.pointer (some ⟨b, 0, none⟩), .bool ok] w (Ret w [b] fun v w' => w'.heap[b]? = some (.cells (lk p n (bad || !ok)) 52 (0, 0))) := by
  refine calls_of Tryd.func41 rfl rfl rfl rfl ?_
  have FR := Fr.refl [b] w
  refine DC.region ?_
  refine DL.y rfl rfl (Y.move) ?_
  refine DL.y rfl rfl (Y.move) ?_
  refine DL.y rfl rfl (Y.nil rfl) ?_
  refine DL.y rfl rfl (Y.field F.fd52_2 rfl) ?_
  refine DL.ifb rfl rfl (Y.loadB F.sc4 rfl hb rfl) (fun c8 => ?_) (fun c8 => ?_)
  · refine DL.y rfl rfl (Y.move) ?_
    refine DL.skip rfl rfl ?_
    refine DL.skip rfl rfl ?_
    refine DL.y rfl rfl (Y.pickT rfl) ?_
    refine DL.y rfl rfl (Y.nil rfl) ?_
    refine DL.y rfl rfl (Y.field F.fd52_2 rfl) ?_
    refine DL.store rfl F.co4 F.in4 rfl rfl rfl hb rfl ?_
    intro w1 f2 hs3 hb'
    replace FR := FR.put f2 (by intro i hi; simp only [List.mem_cons, List.mem_singleton, List.not_mem_nil, or_false] at hi; rcases hi with rfl; all_goals (first | (left; simp; done) | (right; omega)))
    replace hb := hb'
    refine DL.nil ?_
    subst c8
    exact FinQ.end0 (Ret.mk FR hb)
  · refine DL.y rfl rfl (Y.move) ?_
    refine DL.y rfl rfl (Y.move) ?_
    refine DL.y rfl rfl (Y.not rfl) ?_
    refine DL.y rfl rfl (Y.pickF rfl) ?_
    refine DL.y rfl rfl (Y.nil rfl) ?_
    refine DL.y rfl rfl (Y.field F.fd52_2 rfl) ?_
    refine DL.store rfl F.co4 F.in4 rfl rfl rfl hb rfl ?_
    intro w4 f5 hs6 hb'
    replace FR := FR.put f5 (by intro i hi; simp only [List.mem_cons, List.mem_singleton, List.not_mem_nil, or_false] at hi; rcases hi with rfl; all_goals (first | (left; simp; done) | (right; omega)))
    replace hb := hb'
    refine DL.nil ?_
    subst c8
    exact FinQ.end0 (Ret.mk FR hb)

theorem part_raw (b : Nat) (p n d : Int) (bad : Bool) (w : World) (hb : w.heap[b]? = some (.cells (lk p n bad) 52 (0, 0))) :
    Calls Tryd.prog 40 #[.pointer (some ⟨b, 0, none⟩), .int .i64 d] w (Ret w [b] fun v w' => v = .bool (!(bad || !(decide (IntKind.i64.wrap (p + 1) ≤ 400) && decide (n ≤ 2000) && decide (d ≤ 60)))) ∧
      w'.heap[b]? = some (.cells (lk (IntKind.i64.wrap (p + 1)) n (bad || !(decide (IntKind.i64.wrap (p + 1) ≤ 400) && decide (n ≤ 2000) && decide (d ≤ 60)))) 52 (0, 0))) := by
  refine calls_of Tryd.func40 rfl rfl rfl rfl ?_
  have FR := Fr.refl [b] w
  refine DC.seq ?_
  refine DC.region ?_
  refine DL.y rfl rfl (Y.assign) ?_
  refine DL.nil ?_
  show DC _ _ _ _ _ _
  refine DC.seq ?_
  refine DC.region ?_
  refine DL.y rfl rfl (Y.move) ?_
  refine DL.y rfl rfl (Y.nil rfl) ?_
  refine DL.y rfl rfl (Y.field F.fd52_0 rfl) ?_
  refine DL.y rfl rfl (Y.loadB F.sc3 rfl hb rfl) ?_
  refine DL.y rfl rfl (Y.add rfl rfl) ?_
  refine DL.y rfl rfl (Y.nil rfl) ?_
  refine DL.y rfl rfl (Y.field F.fd52_0 rfl) ?_
  refine DL.store rfl F.co3 F.in3 rfl rfl rfl hb rfl ?_
  intro w1 f2 hs3 hb'
  replace FR := FR.put f2 (by intro i hi; simp only [List.mem_cons, List.mem_singleton, List.not_mem_nil, or_false] at hi; rcases hi with rfl; all_goals (first | (left; simp; done) | (right; omega)))
  replace hb := hb'
  refine DL.nil ?_
  show DC _ _ _ _ _ _
  refine DC.seq ?_
  refine DC.region ?_
  refine DL.y rfl rfl (Y.move) ?_
  refine DL.cut 16 [(13, 28)] 28 (.bool (decide (IntKind.i64.wrap (p + 1) ≤ 400) && decide (n ≤ 2000) && decide (d ≤ 60))) (fun w' => w' = w1) rfl ?_ ?_
  · refine DL.y rfl rfl (Y.move) ?_
    refine DL.y rfl rfl (Y.nil rfl) ?_
    refine DL.y rfl rfl (Y.field F.fd52_0 rfl) ?_
    refine DL.y rfl rfl (Y.loadB F.sc3 rfl hb rfl) ?_
    refine DL.if rfl rfl (Y.le rfl rfl) (fun c17 => ?_) (fun c17 => ?_)
    · refine DL.y rfl rfl (Y.move) ?_
      refine DL.y rfl rfl (Y.move) ?_
      refine DL.y rfl rfl (Y.nil rfl) ?_
      refine DL.y rfl rfl (Y.field F.fd52_1 rfl) ?_
      refine DL.y rfl rfl (Y.loadB F.sc3 rfl hb rfl) ?_
      refine DL.if rfl rfl (Y.le rfl rfl) (fun c23 => ?_) (fun c23 => ?_)
      · refine DL.y rfl rfl (Y.pickT rfl) ?_
        refine DL.y rfl rfl (Y.move) ?_
        refine DL.y rfl rfl (Y.move) ?_
        refine DL.if rfl rfl (Y.le rfl rfl) (fun c27 => ?_) (fun c27 => ?_)
        · refine DL.y rfl rfl (Y.pickT rfl) ?_
          exact DL.nil ⟨by (show Value.bool _ = Value.bool _; simp only [decide_eq_true c17, decide_eq_true c23, decide_eq_true c27]; first | done | rfl), rfl⟩
        · refine DL.y rfl rfl (Y.pickT rfl) ?_
          exact DL.nil ⟨by (show Value.bool _ = Value.bool _; simp only [decide_eq_true c17, decide_eq_true c23, decide_eq_false c27]; first | done | rfl), rfl⟩
      · refine DL.y rfl rfl (Y.pickT rfl) ?_
        refine DL.y rfl rfl (Y.move) ?_
        refine DL.skip rfl rfl ?_
        refine DL.skip rfl rfl ?_
        refine DL.y rfl rfl (Y.pickF rfl) ?_
        exact DL.nil ⟨by (show Value.bool _ = Value.bool _; simp only [decide_eq_true c17, decide_eq_false c23]; first | done | rfl), rfl⟩
    · refine DL.y rfl rfl (Y.move) ?_
      refine DL.skip rfl rfl ?_
      refine DL.skip rfl rfl ?_
      refine DL.skip rfl rfl ?_
      refine DL.skip rfl rfl ?_
      refine DL.skip rfl rfl ?_
      refine DL.y rfl rfl (Y.pickF rfl) ?_
      refine DL.y rfl rfl (Y.move) ?_
      refine DL.skip rfl rfl ?_
      refine DL.skip rfl rfl ?_
      refine DL.y rfl rfl (Y.pickF rfl) ?_
      exact DL.nil ⟨by (show Value.bool _ = Value.bool _; simp only [decide_eq_false c17]; first | done | rfl), rfl⟩
  · rintro j _ hcut; obtain rfl := hcut.symm
    refine DL.call rfl rfl F.nm41 rfl (want_any b _ _ _ _ _ hb) ?_
    rintro _ w5 f6 hb
    replace FR := FR.put f6 (by intro i hi; simp only [List.mem_cons, List.mem_singleton, List.not_mem_nil, or_false] at hi; rcases hi with rfl; all_goals (first | (left; simp; done) | (right; omega)))
    refine DL.nil ?_
    show DC _ _ _ _ _ _
    refine DC.seq ?_
    refine DC.region ?_
    refine DL.y rfl rfl (Y.move) ?_
    refine DL.y rfl rfl (Y.nil rfl) ?_
    refine DL.y rfl rfl (Y.field F.fd52_2 rfl) ?_
    refine DL.y rfl rfl (Y.loadB F.sc4 rfl hb rfl) ?_
    refine DL.y rfl rfl (Y.not rfl) ?_
    refine DL.y rfl rfl (Y.assign) ?_
    refine DL.nil ?_
    show DC _ _ _ _ _ _
    refine DC.ret ?_
    exact FinQ.ret1 rfl (Ret.mk FR ⟨rfl, hb⟩)


theorem Ret.imp {w : World} {S : List Nat} {p q : Value → World → Prop} (h : ∀ v w', Fr S w w' → p v w' → q v w') {e : Ending} {w' : World} (k : D.Ret w S p e w') : D.Ret w S q e w' := by
  cases e with
  | returned v => exact ⟨k.1, h _ _ k.1 k.2⟩
  | _ => exact k.elim
theorem part_any (b : Nat) (p n d : Int) (bad : Bool) (w : World) (hb : w.heap[b]? = some (.cells (lk p n bad) 52 (0, 0))) (hp : bad = false → 0 ≤ p ∧ p ≤ 400 ∧ 0 ≤ n ∧ n ≤ 2000) :
    Calls Tryd.prog 40 #[.pointer (some ⟨b, 0, none⟩), .int .i64 d] w (Ret w [b] fun v w' => ∃ r p', v = .bool r ∧ w'.heap[b]? = some (.cells (lk p' n (!r)) 52 (0, 0)) ∧
      (r = true → bad = false ∧ p' = p + 1 ∧ p' ≤ 400 ∧ n ≤ 2000 ∧ d ≤ 60)) := by
  refine (part_raw b p n d bad w hb).mono fun e w' h => Ret.imp (fun v w1 hf hv => ?_) h
  obtain ⟨rfl, h2⟩ := hv
  refine ⟨_, _, rfl, by simpa using h2, fun hr => ?_⟩
  cases bad with
  | true => simp at hr
  | false =>
    obtain ⟨h1, h2, h3, h4⟩ := hp rfl
    rw [wrapI (by omega) (by omega)] at hr ⊢
    simp at hr
    exact ⟨rfl, rfl, by omega, by omega, by omega⟩

theorem str_raw (b : Nat) (p n : Int) (bad : Bool) (s : ByteArray) (w : World) (hb : w.heap[b]? = some (.cells (lk p n bad) 52 (0, 0))) (h2 : 2 ≤ b) (hs : s.size ≤ 140737488351232) (hT : Tabs w) :
    Calls Tryd.prog 42 #[.pointer (some ⟨b, 0, none⟩), .string s] w (Ret w [b] fun v w' =>
      w'.heap[b]? = some (.cells (lk p (IntKind.i64.wrap (n + s.size)) (bad || !(decide (IntKind.i64.wrap (n + s.size) ≤ 2000) && Lib.validD s.data.toList))) 52 (0, 0))) := by
  refine calls_of Tryd.func42 rfl rfl rfl rfl ?_
  have FR := Fr.refl [b] w
  refine DC.seq ?_
  refine DC.region ?_
  refine DL.y rfl rfl (Y.move) ?_
  refine DL.y rfl rfl (Y.nil rfl) ?_
  refine DL.y rfl rfl (Y.field F.fd52_1 rfl) ?_
  refine DL.y rfl rfl (Y.loadB F.sc3 rfl hb rfl) ?_
  refine DL.y rfl rfl (Y.move) ?_
  refine DL.y rfl rfl (Y.lenStr Tryd.underlying9 rfl) ?_
  refine DL.y rfl rfl (Y.add rfl rfl) ?_
  refine DL.y rfl rfl (Y.nil rfl) ?_
  refine DL.y rfl rfl (Y.field F.fd52_1 rfl) ?_
  refine DL.store rfl F.co3 F.in3 rfl rfl rfl hb rfl ?_
  intro w1 f2 hs3 hb'
  replace FR := FR.put f2 (by intro i hi; simp only [List.mem_cons, List.mem_singleton, List.not_mem_nil, or_false] at hi; rcases hi with rfl; all_goals (first | (left; simp; done) | (right; omega)))
  replace hT := hT.fr f2 (by intro x hx; simp <;> omega)
  replace hb := hb'
  refine DL.nil ?_
  show DC _ _ _ _ _ _
  refine DC.region ?_
  refine DL.y rfl rfl (Y.move) ?_
  refine DL.y rfl rfl (Y.move) ?_
  refine DL.y rfl rfl (Y.nil rfl) ?_
  refine DL.y rfl rfl (Y.field F.fd52_1 rfl) ?_
  refine DL.y rfl rfl (Y.loadB F.sc3 rfl hb rfl) ?_
  refine DL.if rfl rfl (Y.le rfl rfl) (fun c18 => ?_) (fun c18 => ?_)
  · refine DL.y rfl rfl (Y.move) ?_
    refine DL.y rfl rfl (Y.move) ?_
    refine DL.call rfl rfl F.nm30 rfl (valid_any s _ (by omega) hT) ?_
    rintro _ w4 f5 rfl
    replace FR := FR.tr0 f5
    replace hT := hT.fr f5 (by intro x hx; simp <;> omega)
    replace hb := f5.blk0 hb
    refine DL.y rfl rfl (Y.pickT rfl) ?_
    refine DL.call rfl rfl F.nm41 rfl (want_any b _ _ _ _ _ hb) ?_
    rintro _ w6 f7 hb
    replace FR := FR.put f7 (by intro i hi; simp only [List.mem_cons, List.mem_singleton, List.not_mem_nil, or_false] at hi; rcases hi with rfl; all_goals (first | (left; simp; done) | (right; omega)))
    replace hT := hT.fr f7 (by intro x hx; simp <;> omega)
    refine DL.nil ?_
    refine FinQ.end0 (Ret.mk FR ?_)
    simp only [decide_eq_true c18]
    exact hb
  · refine DL.y rfl rfl (Y.move) ?_
    refine DL.skip rfl rfl ?_
    refine DL.skip rfl rfl ?_
    refine DL.y rfl rfl (Y.pickF rfl) ?_
    refine DL.call rfl rfl F.nm41 rfl (want_any b _ _ _ _ _ hb) ?_
    rintro _ w8 f9 hb
    replace FR := FR.put f9 (by intro i hi; simp only [List.mem_cons, List.mem_singleton, List.not_mem_nil, or_false] at hi; rcases hi with rfl; all_goals (first | (left; simp; done) | (right; omega)))
    replace hT := hT.fr f9 (by intro x hx; simp <;> omega)
    refine DL.nil ?_
    refine FinQ.end0 (Ret.mk FR ?_)
    simp only [decide_eq_false c18]
    exact hb


theorem str_any (b : Nat) (p n : Int) (bad : Bool) (s : ByteArray) (w : World) (hb : w.heap[b]? = some (.cells (lk p n bad) 52 (0, 0))) (h2 : 2 ≤ b) (hs : s.size ≤ 140737488351232) (hT : Tabs w) (hn : bad = false → 0 ≤ n ∧ n ≤ 2000) :
    Calls Tryd.prog 42 #[.pointer (some ⟨b, 0, none⟩), .string s] w (Ret w [b] fun v w' => ∃ n' bad', w'.heap[b]? = some (.cells (lk p n' bad') 52 (0, 0)) ∧
      (bad' = false → bad = false ∧ n' = n + s.size ∧ n' ≤ 2000 ∧ Lib.validD s.data.toList = true)) := by
  refine (str_raw b p n bad s w hb h2 hs hT).mono fun e w' h => Ret.imp (fun v w1 hf hv => ?_) h
  refine ⟨_, _, hv, fun hr => ?_⟩
  cases bad with
  | true => simp at hr
  | false =>
    obtain ⟨h1, h2⟩ := hn rfl
    simp only [Bool.false_or, Bool.not_eq_false', Bool.and_eq_true, decide_eq_true_eq] at hr
    obtain ⟨h3, h4⟩ := hr
    have h5 : IntKind.i64.wrap (n + s.size) = n + s.size := wrapI (by omega) (by omega)
    rw [h5] at h3 ⊢
    exact ⟨rfl, rfl, h3, h4⟩

end Go.Proofs.YtmbleojlnaofjaaDoor
