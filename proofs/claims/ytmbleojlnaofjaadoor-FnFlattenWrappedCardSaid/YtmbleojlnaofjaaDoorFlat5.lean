/- The walk of fromGo. -/
import Derived.Test.YtmbleojlnaofjaaDoorFlat4
namespace Go.Proofs.YtmbleojlnaofjaaDoor
open Go Go.RowKit D Go.Deep
set_option linter.unusedVariables false
set_option linter.unusedSimpArgs false


theorem RVD.shape {w : World} {D : Nat → Prop} {kind half : Int} {text : ByteArray} {list : List V} {keys : List ByteArray} {vals : List V} {cs : Array Value} (h : RVD w D (.mk kind half text list keys vals) cs) :
    ∃ la lc ka kc va vc, cs = #[.int .i64 kind, .int .i64 half, .string text, .slice la list.length lc, .slice ka keys.length kc, .slice va vals.length vc] := by
  cases h; exact ⟨_, _, _, _, _, _, rfl⟩

theorem fromGo_true (w : World) : Calls Tryd.prog 43 #[.iface 4 (.bool true)] w (Ret w [] fun v _ => v = .tuple #[.agg (valC 2 0 ⟨#[]⟩), .bool true]) := by
  refine calls_of Tryd.func43 rfl rfl rfl rfl ?_
  have FR := Fr.refl [] w
  refine DC.seq ?_
  refine DC.region ?_
  refine DL.alloc rfl rfl F.z26 rfl ?_
  intro b2 w1 f2 lo2 hi2 hb2
  replace lo2 := Nat.le_trans FR.size lo2
  replace FR := FR.tr0 f2
  refine DL.y rfl rfl (Y.assign) ?_
  refine DL.nil ?_
  show DC _ _ _ _ _ _
  refine DC.seq ?_
  refine DC.seq ?_
  refine DC.region ?_
  refine DL.y rfl rfl (Y.move) ?_
  refine DL.nil ?_
  show DC _ _ _ _ _ _
  refine DC.block ?_
  refine DC.seq ?_
  refine DC.region ?_
  refine DL.y rfl rfl (Y.eqNilI Tryd.underlying20 rfl) ?_
  refine DL.nil ?_
  show DC _ _ _ _ _ _
  refine DC.condF rfl ?_
  refine DC.seq ?_
  refine DC.region ?_
  refine DL.y rfl rfl (Y.asYes F.if4 rfl) ?_
  refine DL.y rfl rfl (Y.extract rfl rfl) ?_
  refine DL.y rfl rfl (Y.extract rfl rfl) ?_
  refine DL.nil ?_
  show DC _ _ _ _ _ _
  refine DC.condT rfl ?_
  refine DC.seq ?_
  refine DC.region ?_
  refine DL.y rfl rfl (Y.assign) ?_
  refine DL.nil ?_
  show DC _ _ _ _ _ _
  refine DC.seq ?_
  refine DC.seq ?_
  refine DC.region ?_
  refine DL.y rfl rfl (Y.move) ?_
  refine DL.nil ?_
  show DC _ _ _ _ _ _
  refine DC.condT rfl ?_
  refine DC.seq ?_
  refine DC.region ?_
  refine DL.y rfl rfl (Y.build (cs := valC 2 0 ⟨#[]⟩) (by kernel_rfl)) ?_
  refine DL.storeA rfl F.ag26 rfl rfl rfl (by kernel_rfl) hb2 rfl ?_
  intro w3 f4 hs5 hb2'
  replace FR := FR.put f4 (by intro i hi; simp only [List.mem_cons, List.mem_singleton, List.not_mem_nil, or_false] at hi; rcases hi with rfl; all_goals (first | (left; simp; done) | (right; omega)))
  replace hi2 := Nat.lt_of_lt_of_le hi2 f4.size
  replace hb2 := hb2'
  refine DL.y rfl rfl (Y.assign) ?_
  refine DL.nil ?_
  show DC _ _ _ _ _ _
  refine DC.ret ?_
  exact FinQ.retCT rfl (cs := valC 2 0 ⟨#[]⟩) F.ag26 (.ofBlk hb2) rfl (Ret.mk FR rfl)

theorem fromGo_false (w : World) : Calls Tryd.prog 43 #[.iface 4 (.bool false)] w (Ret w [] fun v _ => v = .tuple #[.agg (valC 1 0 ⟨#[]⟩), .bool true]) := by
  refine calls_of Tryd.func43 rfl rfl rfl rfl ?_
  have FR := Fr.refl [] w
  refine DC.seq ?_
  refine DC.region ?_
  refine DL.alloc rfl rfl F.z26 rfl ?_
  intro b2 w1 f2 lo2 hi2 hb2
  replace lo2 := Nat.le_trans FR.size lo2
  replace FR := FR.tr0 f2
  refine DL.y rfl rfl (Y.assign) ?_
  refine DL.nil ?_
  show DC _ _ _ _ _ _
  refine DC.seq ?_
  refine DC.seq ?_
  refine DC.region ?_
  refine DL.y rfl rfl (Y.move) ?_
  refine DL.nil ?_
  show DC _ _ _ _ _ _
  refine DC.block ?_
  refine DC.seq ?_
  refine DC.region ?_
  refine DL.y rfl rfl (Y.eqNilI Tryd.underlying20 rfl) ?_
  refine DL.nil ?_
  show DC _ _ _ _ _ _
  refine DC.condF rfl ?_
  refine DC.seq ?_
  refine DC.region ?_
  refine DL.y rfl rfl (Y.asYes F.if4 rfl) ?_
  refine DL.y rfl rfl (Y.extract rfl rfl) ?_
  refine DL.y rfl rfl (Y.extract rfl rfl) ?_
  refine DL.nil ?_
  show DC _ _ _ _ _ _
  refine DC.condT rfl ?_
  refine DC.seq ?_
  refine DC.region ?_
  refine DL.y rfl rfl (Y.assign) ?_
  refine DL.nil ?_
  show DC _ _ _ _ _ _
  refine DC.seq ?_
  refine DC.seq ?_
  refine DC.region ?_
  refine DL.y rfl rfl (Y.move) ?_
  refine DL.nil ?_
  show DC _ _ _ _ _ _
  refine DC.condF rfl ?_
  refine DC.skip ?_
  show DC _ _ _ _ _ _
  refine DC.seq ?_
  refine DC.region ?_
  refine DL.y rfl rfl (Y.build (cs := valC 1 0 ⟨#[]⟩) (by kernel_rfl)) ?_
  refine DL.storeA rfl F.ag26 rfl rfl rfl (by kernel_rfl) hb2 rfl ?_
  intro w3 f4 hs5 hb2'
  replace FR := FR.put f4 (by intro i hi; simp only [List.mem_cons, List.mem_singleton, List.not_mem_nil, or_false] at hi; rcases hi with rfl; all_goals (first | (left; simp; done) | (right; omega)))
  replace hi2 := Nat.lt_of_lt_of_le hi2 f4.size
  replace hb2 := hb2'
  refine DL.y rfl rfl (Y.assign) ?_
  refine DL.nil ?_
  show DC _ _ _ _ _ _
  refine DC.ret ?_
  exact FinQ.retCT rfl (cs := valC 1 0 ⟨#[]⟩) F.ag26 (.ofBlk hb2) rfl (Ret.mk FR rfl)

theorem fromGo_int (z : Int) (h : -9007199254740992 ≤ z ∧ z ≤ 9007199254740992) (w : World) : Calls Tryd.prog 43 #[.iface 3 (.int .i64 z)] w (Ret w [] fun v _ => v = .tuple #[.agg (valC 3 (2 * z) ⟨#[]⟩), .bool true]) := by
  refine calls_of Tryd.func43 rfl rfl rfl rfl ?_
  have FR := Fr.refl [] w
  refine DC.seq ?_
  refine DC.region ?_
  refine DL.alloc rfl rfl F.z26 rfl ?_
  intro b2 w1 f2 lo2 hi2 hb2
  replace lo2 := Nat.le_trans FR.size lo2
  replace FR := FR.tr0 f2
  refine DL.y rfl rfl (Y.assign) ?_
  refine DL.nil ?_
  show DC _ _ _ _ _ _
  refine DC.seq ?_
  refine DC.seq ?_
  refine DC.region ?_
  refine DL.y rfl rfl (Y.move) ?_
  refine DL.nil ?_
  show DC _ _ _ _ _ _
  refine DC.block ?_
  refine DC.seq ?_
  refine DC.region ?_
  refine DL.y rfl rfl (Y.eqNilI Tryd.underlying20 rfl) ?_
  refine DL.nil ?_
  show DC _ _ _ _ _ _
  refine DC.condF rfl ?_
  refine DC.seq ?_
  refine DC.region ?_
  refine DL.y rfl rfl (Y.asNo F.if4 F.z4 rfl rfl) ?_
  refine DL.y rfl rfl (Y.extract rfl rfl) ?_
  refine DL.y rfl rfl (Y.extract rfl rfl) ?_
  refine DL.nil ?_
  show DC _ _ _ _ _ _
  refine DC.condF rfl ?_
  refine DC.seq ?_
  refine DC.region ?_
  refine DL.y rfl rfl (Y.asYes F.if3 rfl) ?_
  refine DL.y rfl rfl (Y.extract rfl rfl) ?_
  refine DL.y rfl rfl (Y.extract rfl rfl) ?_
  refine DL.nil ?_
  show DC _ _ _ _ _ _
  refine DC.condT rfl ?_
  refine DC.seq ?_
  refine DC.region ?_
  refine DL.y rfl rfl (Y.assign) ?_
  refine DL.nil ?_
  show DC _ _ _ _ _ _
  refine DC.seq ?_
  refine DC.region ?_
  refine DL.y rfl rfl (Y.move) ?_
  refine DL.y rfl rfl (Y.mulI (c := 2 * z) rfl rfl (by omega) (by omega) (by omega)) ?_
  refine DL.y rfl rfl (Y.build (cs := valC 3 (2 * z) ⟨#[]⟩) (by kernel_rfl)) ?_
  refine DL.y rfl rfl (Y.move) ?_
  refine DL.if rfl rfl (Y.ge rfl rfl) (fun c27 => ?_) (fun c27 => ?_)
  · refine DL.y rfl rfl (Y.move) ?_
    refine DL.y rfl rfl (Y.move) ?_
    refine DL.if rfl rfl (Y.le rfl rfl) (fun c30 => ?_) (fun c30 => ?_)
    · refine DL.y rfl rfl (Y.pickT rfl) ?_
      refine DL.storeA rfl F.ag26 rfl rfl rfl (by kernel_rfl) hb2 rfl ?_
      intro w3 f4 hs5 hb2'
      replace FR := FR.put f4 (by intro i hi; simp only [List.mem_cons, List.mem_singleton, List.not_mem_nil, or_false] at hi; rcases hi with rfl; all_goals (first | (left; simp; done) | (right; omega)))
      replace hi2 := Nat.lt_of_lt_of_le hi2 f4.size
      replace hb2 := hb2'
      refine DL.y rfl rfl (Y.assign) ?_
      refine DL.nil ?_
      show DC _ _ _ _ _ _
      refine DC.ret ?_
      exact FinQ.retCT rfl (cs := valC 3 (2 * z) ⟨#[]⟩) F.ag26 (.ofBlk hb2) rfl (Ret.mk FR rfl)
    · exfalso; omega
  · exfalso; omega

theorem fromGo_float {h : Int} {m d : Nat} (D : Dig h m d) (hb : h.natAbs < 9007199254740992) (w : World) : Calls Tryd.prog 43 #[.iface 64 (.float .f64 (wordF h m d))] w (Ret w [] fun v _ => v = .tuple #[.agg (numC h), .bool true]) := by
  refine calls_of Tryd.func43 rfl rfl rfl rfl ?_
  have FR := Fr.refl [] w
  refine DC.seq ?_
  refine DC.region ?_
  refine DL.alloc rfl rfl F.z26 rfl ?_
  intro b2 w1 f2 lo2 hi2 hb2
  replace lo2 := Nat.le_trans FR.size lo2
  replace FR := FR.tr0 f2
  refine DL.y rfl rfl (Y.assign) ?_
  refine DL.nil ?_
  show DC _ _ _ _ _ _
  refine DC.seq ?_
  refine DC.seq ?_
  refine DC.region ?_
  refine DL.y rfl rfl (Y.move) ?_
  refine DL.nil ?_
  show DC _ _ _ _ _ _
  refine DC.block ?_
  refine DC.seq ?_
  refine DC.region ?_
  refine DL.y rfl rfl (Y.eqNilI Tryd.underlying20 rfl) ?_
  refine DL.nil ?_
  show DC _ _ _ _ _ _
  refine DC.condF rfl ?_
  refine DC.seq ?_
  refine DC.region ?_
  refine DL.y rfl rfl (Y.asNo F.if4 F.z4 rfl rfl) ?_
  refine DL.y rfl rfl (Y.extract rfl rfl) ?_
  refine DL.y rfl rfl (Y.extract rfl rfl) ?_
  refine DL.nil ?_
  show DC _ _ _ _ _ _
  refine DC.condF rfl ?_
  refine DC.seq ?_
  refine DC.region ?_
  refine DL.y rfl rfl (Y.asNo F.if3 F.z3 rfl rfl) ?_
  refine DL.y rfl rfl (Y.extract rfl rfl) ?_
  refine DL.y rfl rfl (Y.extract rfl rfl) ?_
  refine DL.nil ?_
  show DC _ _ _ _ _ _
  refine DC.condF rfl ?_
  refine DC.seq ?_
  refine DC.region ?_
  refine DL.y rfl rfl (Y.asYes F.if64 rfl) ?_
  refine DL.y rfl rfl (Y.extract rfl rfl) ?_
  refine DL.y rfl rfl (Y.extract rfl rfl) ?_
  refine DL.nil ?_
  show DC _ _ _ _ _ _
  refine DC.condT rfl ?_
  refine DC.seq ?_
  refine DC.region ?_
  refine DL.y rfl rfl (Y.assign) ?_
  refine DL.nil ?_
  show DC _ _ _ _ _ _
  refine DC.seq ?_
  refine DC.region ?_
  refine DL.y rfl rfl (Y.move) ?_
  refine DL.y rfl rfl (Y.farith rfl rfl (show floatBits .mul .f64 _ _ = some (wordH h m d) from D.twice)) ?_
  refine DL.call rfl rfl F.nm50 rfl (half_any D hb _) ?_
  rintro _ w3 f4 rfl
  replace FR := FR.tr0 f4
  replace hb2 := f4.blk0 hb2
  replace hi2 := Nat.lt_of_lt_of_le hi2 f4.size
  refine DL.y rfl rfl (Y.extract rfl rfl) ?_
  refine DL.y rfl rfl (Y.extract rfl rfl) ?_
  refine DL.storeA rfl F.ag26 rfl rfl rfl (by kernel_rfl) hb2 rfl ?_
  intro w5 f6 hs7 hb2'
  replace FR := FR.put f6 (by intro i hi; simp only [List.mem_cons, List.mem_singleton, List.not_mem_nil, or_false] at hi; rcases hi with rfl; all_goals (first | (left; simp; done) | (right; omega)))
  replace hi2 := Nat.lt_of_lt_of_le hi2 f6.size
  replace hb2 := hb2'
  refine DL.y rfl rfl (Y.assign) ?_
  refine DL.nil ?_
  show DC _ _ _ _ _ _
  refine DC.ret ?_
  exact FinQ.retCT rfl (cs := numC h) F.ag26 (.ofBlk hb2) rfl (Ret.mk FR rfl)

theorem fromGo_list (m : Nat) (ih : FromC m) (l : List V) (xs : Nat → Value) (a : Option Addr) (c : Nat) (D : Nat → Prop) (w : World) (hm : V.nodesL l ≤ m) (hm2 : V.nodesL l ≤ 1000000) (hby : V.bytesL l ≤ 1000000) (hg : ∀ i (h : i < l.length), Good l[i]) (hin : InL w D a l xs) (hD : ∀ b, D b → b < w.heap.size) :
    Calls Tryd.prog 43 #[.iface 60 (.slice a l.length c)] w (Ret w [] fun r w' => ∃ cs, r = .tuple #[.agg cs, .bool true] ∧ RVD w' (fun b => w.heap.size ≤ b ∧ b < w'.heap.size) (.mk 5 0 ⟨#[]⟩ l [] []) cs) := by
  refine calls_of Tryd.func43 rfl rfl rfl rfl ?_
  have FR := Fr.refl [] w
  refine DC.seq ?_
  refine DC.region ?_
  refine DL.alloc rfl rfl F.z26 rfl ?_
  intro b2 w1 f2 lo2 hi2 hb2
  replace lo2 := Nat.le_trans FR.size lo2
  replace FR := FR.tr0 f2
  replace hin := hin.fr f2 (by intro b hb hm; have := hD b hb; first | (simp at hm; done) | (simp only [List.mem_singleton] at hm; omega))
  refine DL.y rfl rfl (Y.assign) ?_
  refine DL.nil ?_
  show DC _ _ _ _ _ _
  refine DC.seq ?_
  refine DC.seq ?_
  refine DC.region ?_
  refine DL.y rfl rfl (Y.move) ?_
  refine DL.nil ?_
  show DC _ _ _ _ _ _
  refine DC.block ?_
  refine DC.seq ?_
  refine DC.region ?_
  refine DL.y rfl rfl (Y.eqNilI Tryd.underlying20 rfl) ?_
  refine DL.nil ?_
  show DC _ _ _ _ _ _
  refine DC.condF rfl ?_
  refine DC.seq ?_
  refine DC.region ?_
  refine DL.y rfl rfl (Y.asNo F.if4 F.z4 rfl rfl) ?_
  refine DL.y rfl rfl (Y.extract rfl rfl) ?_
  refine DL.y rfl rfl (Y.extract rfl rfl) ?_
  refine DL.nil ?_
  show DC _ _ _ _ _ _
  refine DC.condF rfl ?_
  refine DC.seq ?_
  refine DC.region ?_
  refine DL.y rfl rfl (Y.asNo F.if3 F.z3 rfl rfl) ?_
  refine DL.y rfl rfl (Y.extract rfl rfl) ?_
  refine DL.y rfl rfl (Y.extract rfl rfl) ?_
  refine DL.nil ?_
  show DC _ _ _ _ _ _
  refine DC.condF rfl ?_
  refine DC.seq ?_
  refine DC.region ?_
  refine DL.y rfl rfl (Y.asNo F.if64 F.z64 rfl rfl) ?_
  refine DL.y rfl rfl (Y.extract rfl rfl) ?_
  refine DL.y rfl rfl (Y.extract rfl rfl) ?_
  refine DL.nil ?_
  show DC _ _ _ _ _ _
  refine DC.condF rfl ?_
  refine DC.seq ?_
  refine DC.region ?_
  refine DL.y rfl rfl (Y.asNo F.if9 F.z9 rfl rfl) ?_
  refine DL.y rfl rfl (Y.extract rfl rfl) ?_
  refine DL.y rfl rfl (Y.extract rfl rfl) ?_
  refine DL.nil ?_
  show DC _ _ _ _ _ _
  refine DC.condF rfl ?_
  refine DC.seq ?_
  refine DC.region ?_
  refine DL.y rfl rfl (Y.asYes F.if60 rfl) ?_
  refine DL.y rfl rfl (Y.extract rfl rfl) ?_
  refine DL.y rfl rfl (Y.extract rfl rfl) ?_
  refine DL.nil ?_
  show DC _ _ _ _ _ _
  refine DC.condT rfl ?_
  refine DC.seq ?_
  refine DC.region ?_
  refine DL.y rfl rfl (Y.assign) ?_
  refine DL.nil ?_
  show DC _ _ _ _ _ _
  refine DC.seq ?_
  refine DC.region ?_
  refine DL.y rfl rfl (Y.move) ?_
  obtain ⟨lo, hlo⟩ : ∃ lo, lo = w1.heap.size := ⟨_, rfl⟩
  have hb2lo : b2 < lo := by omega
  have hwlo : w.heap.size ≤ lo := by have := FR.size; omega
  refine DL.call rfl rfl F.nm51 rfl (listFromGo_step m ih l xs a c D _ hm hm2 hby hg hin (fun b hb => by have := hD b hb; have := FR.size; omega)) ?_
  rintro _ w3 f4 ⟨ce, rfl, hce⟩
  replace FR := FR.tr0 f4
  replace hin := hin.fr f4 (by intro b hb hm; have := hD b hb; first | (simp at hm; done) | (simp only [List.mem_singleton] at hm; omega))
  replace hb2 := f4.blk0 hb2
  replace hi2 := Nat.lt_of_lt_of_le hi2 f4.size
  obtain ⟨hi, hhi⟩ : ∃ hi, hi = w3.heap.size := ⟨_, rfl⟩
  rw [← hlo, ← hhi] at hce
  have hle := Nat.le_of_eq hhi
  refine DL.y rfl rfl (Y.extract rfl rfl) ?_
  refine DL.y rfl rfl (Y.extract rfl rfl) ?_
  refine DL.storeA (cs := ce) rfl F.ag26 rfl rfl hce.size hce.one hb2 rfl ?_
  intro w5 f6 hs7 hb2'
  replace FR := FR.put f6 (by intro i hi; simp only [List.mem_cons, List.mem_singleton, List.not_mem_nil, or_false] at hi; rcases hi with rfl; all_goals (first | (left; simp; done) | (right; omega)))
  replace hin := hin.fr f6 (by intro b hb hm; have := hD b hb; first | (simp at hm; done) | (simp only [List.mem_singleton] at hm; omega))
  replace hi2 := Nat.lt_of_lt_of_le hi2 f6.size
  replace hce := hce.fr f6 (by intro b hb hm; first | (simp at hm; done) | (simp only [List.mem_singleton] at hm; omega))
  replace hle := Nat.le_trans hle f6.size
  replace hb2 := hb2'
  refine DL.y rfl rfl (Y.assign) ?_
  refine DL.nil ?_
  show DC _ _ _ _ _ _
  refine DC.ret ?_
  exact FinQ.retCT rfl (cs := ce) (by rw [hce.size]; exact F.ag26) (.ofBlk hb2) rfl (Ret.mk FR ⟨_, rfl, hce.mono (fun b hb => ⟨by omega, by omega⟩)⟩)

theorem fromGo_map (m : Nat) (ih : FromC m) (keys : List ByteArray) (vals : List V) (r : Nat) (es : Array MapEntry) (xs : Nat → Value) (D : Nat → Prop) (w : World) (hm : V.nodesL vals ≤ m) (hm2 : V.nodesL vals ≤ 1000000) (hby : bytesK keys + V.bytesL vals ≤ 1000000) (hkl : keys.length = vals.length)
    (hg : ∀ i (h : i < vals.length), Good vals[i]) (hrise : ∀ i (h : i + 1 < keys.length), Op.bytesLess keys[i].toList keys[i + 1].toList = true) (hmap : w.heap[r]? = some (.map es keys.length)) (hes : es.size = keys.length) (hent : ∀ (i : Nat) (h : i < keys.length), es[i]? = some ⟨.string keys[i], xs i, i⟩)
    (hgv : ∀ (i : Nat) (h : i < vals.length), GV w D vals[i] (xs i)) (hD : ∀ b, D b → b < w.heap.size) :
    Calls Tryd.prog 43 #[.iface 66 (.map (some r))] w (Ret w [] fun r w' => ∃ cs, r = .tuple #[.agg cs, .bool true] ∧ RVD w' (fun b => w.heap.size ≤ b ∧ b < w'.heap.size) (.mk 6 0 ⟨#[]⟩ [] keys vals) cs) := by
  have hrl := lt_of_blk hmap
  refine calls_of Tryd.func43 rfl rfl rfl rfl ?_
  have FR := Fr.refl [] w
  refine DC.seq ?_
  refine DC.region ?_
  refine DL.alloc rfl rfl F.z26 rfl ?_
  intro b2 w1 f2 lo2 hi2 hb2
  replace lo2 := Nat.le_trans FR.size lo2
  replace FR := FR.tr0 f2
  replace hgv := fun i h => (hgv i h).fr f2 (by intro b hb hm; have := hD b hb; first | (simp at hm; done) | (simp only [List.mem_singleton] at hm; omega))
  replace hmap := f2.blk0 hmap
  refine DL.y rfl rfl (Y.assign) ?_
  refine DL.nil ?_
  show DC _ _ _ _ _ _
  refine DC.seq ?_
  refine DC.seq ?_
  refine DC.region ?_
  refine DL.y rfl rfl (Y.move) ?_
  refine DL.nil ?_
  show DC _ _ _ _ _ _
  refine DC.block ?_
  refine DC.seq ?_
  refine DC.region ?_
  refine DL.y rfl rfl (Y.eqNilI Tryd.underlying20 rfl) ?_
  refine DL.nil ?_
  show DC _ _ _ _ _ _
  refine DC.condF rfl ?_
  refine DC.seq ?_
  refine DC.region ?_
  refine DL.y rfl rfl (Y.asNo F.if4 F.z4 rfl rfl) ?_
  refine DL.y rfl rfl (Y.extract rfl rfl) ?_
  refine DL.y rfl rfl (Y.extract rfl rfl) ?_
  refine DL.nil ?_
  show DC _ _ _ _ _ _
  refine DC.condF rfl ?_
  refine DC.seq ?_
  refine DC.region ?_
  refine DL.y rfl rfl (Y.asNo F.if3 F.z3 rfl rfl) ?_
  refine DL.y rfl rfl (Y.extract rfl rfl) ?_
  refine DL.y rfl rfl (Y.extract rfl rfl) ?_
  refine DL.nil ?_
  show DC _ _ _ _ _ _
  refine DC.condF rfl ?_
  refine DC.seq ?_
  refine DC.region ?_
  refine DL.y rfl rfl (Y.asNo F.if64 F.z64 rfl rfl) ?_
  refine DL.y rfl rfl (Y.extract rfl rfl) ?_
  refine DL.y rfl rfl (Y.extract rfl rfl) ?_
  refine DL.nil ?_
  show DC _ _ _ _ _ _
  refine DC.condF rfl ?_
  refine DC.seq ?_
  refine DC.region ?_
  refine DL.y rfl rfl (Y.asNo F.if9 F.z9 rfl rfl) ?_
  refine DL.y rfl rfl (Y.extract rfl rfl) ?_
  refine DL.y rfl rfl (Y.extract rfl rfl) ?_
  refine DL.nil ?_
  show DC _ _ _ _ _ _
  refine DC.condF rfl ?_
  refine DC.seq ?_
  refine DC.region ?_
  refine DL.y rfl rfl (Y.asNo F.if60 F.z60 rfl rfl) ?_
  refine DL.y rfl rfl (Y.extract rfl rfl) ?_
  refine DL.y rfl rfl (Y.extract rfl rfl) ?_
  refine DL.nil ?_
  show DC _ _ _ _ _ _
  refine DC.condF rfl ?_
  refine DC.seq ?_
  refine DC.region ?_
  refine DL.y rfl rfl (Y.asYes F.if66 rfl) ?_
  refine DL.y rfl rfl (Y.extract rfl rfl) ?_
  refine DL.y rfl rfl (Y.extract rfl rfl) ?_
  refine DL.nil ?_
  show DC _ _ _ _ _ _
  refine DC.condT rfl ?_
  refine DC.seq ?_
  refine DC.region ?_
  refine DL.y rfl rfl (Y.assign) ?_
  refine DL.nil ?_
  show DC _ _ _ _ _ _
  refine DC.seq ?_
  refine DC.region ?_
  refine DL.y rfl rfl (Y.move) ?_
  obtain ⟨lo, hlo⟩ : ∃ lo, lo = w1.heap.size := ⟨_, rfl⟩
  have hb2lo : b2 < lo := by omega
  have hwlo : w.heap.size ≤ lo := by have := FR.size; omega
  refine DL.call rfl rfl F.nm52 rfl (mapFromGo_step m ih keys vals r es xs D _ hm hm2 hby hkl hg hrise hmap hes hent hgv (fun b hb => by have := hD b hb; have := FR.size; omega)) ?_
  rintro _ w3 f4 ⟨ce, rfl, hce⟩
  replace FR := FR.tr0 f4
  replace hgv := fun i h => (hgv i h).fr f4 (by intro b hb hm; have := hD b hb; first | (simp at hm; done) | (simp only [List.mem_singleton] at hm; omega))
  replace hmap := f4.blk0 hmap
  replace hb2 := f4.blk0 hb2
  replace hi2 := Nat.lt_of_lt_of_le hi2 f4.size
  obtain ⟨hi, hhi⟩ : ∃ hi, hi = w3.heap.size := ⟨_, rfl⟩
  rw [← hlo, ← hhi] at hce
  have hle := Nat.le_of_eq hhi
  refine DL.y rfl rfl (Y.extract rfl rfl) ?_
  refine DL.y rfl rfl (Y.extract rfl rfl) ?_
  refine DL.storeA (cs := ce) rfl F.ag26 rfl rfl hce.size hce.one hb2 rfl ?_
  intro w5 f6 hs7 hb2'
  replace FR := FR.put f6 (by intro i hi; simp only [List.mem_cons, List.mem_singleton, List.not_mem_nil, or_false] at hi; rcases hi with rfl; all_goals (first | (left; simp; done) | (right; omega)))
  replace hgv := fun i h => (hgv i h).fr f6 (by intro b hb hm; have := hD b hb; first | (simp at hm; done) | (simp only [List.mem_singleton] at hm; omega))
  replace hmap := f6.blk hmap (by simp only [List.mem_cons, List.not_mem_nil, or_false, not_or]; omega)
  replace hi2 := Nat.lt_of_lt_of_le hi2 f6.size
  replace hce := hce.fr f6 (by intro b hb hm; first | (simp at hm; done) | (simp only [List.mem_singleton] at hm; omega))
  replace hle := Nat.le_trans hle f6.size
  replace hb2 := hb2'
  refine DL.y rfl rfl (Y.assign) ?_
  refine DL.nil ?_
  show DC _ _ _ _ _ _
  refine DC.ret ?_
  exact FinQ.retCT rfl (cs := ce) (by rw [hce.size]; exact F.ag26) (.ofBlk hb2) rfl (Ret.mk FR ⟨_, rfl, hce.mono (fun b hb => ⟨by omega, by omega⟩)⟩)


theorem tdiv_even {h : Int} (h0 : h.tmod 2 = 0) : 2 * h.tdiv 2 = h := by
  have := Int.mul_tdiv_add_tmod h 2
  rw [h0] at this; omega
theorem fromGo_step (m : Nat) (ih : FromC m) : FromC (m + 1) := by
  intro v x D w hm hm2 hby hG h hD
  have leaf : ∀ {v : V} {x : Value} {c : Array Value} {kind half : Int} {s : ByteArray}, v = .mk kind half s [] [] [] → c = valC kind half s → (-9223372036854775808 ≤ kind ∧ kind ≤ 9223372036854775807) → (-9223372036854775808 ≤ half ∧ half ≤ 9223372036854775807) → s.size ≤ 1000000 →
      Calls Tryd.prog 43 #[x] w (Ret w [] fun v _ => v = .tuple #[.agg c, .bool true]) → Calls Tryd.prog 43 #[x] w (Ret w [] fun r w' => ∃ cs, r = .tuple #[.agg cs, .bool true] ∧ RVD w' (fun b => w.heap.size ≤ b ∧ b < w'.heap.size) v cs) := by
    intro v x c kind half s hv hc hk hh hs hcall
    subst hv hc
    exact hcall.mono fun e w' h => Ret.imp (fun r w1 hf hp => ⟨_, hp, leafD _ _ hk hh (by omega)⟩) h
  have plain : ∀ {kind half : Int} {text : ByteArray} {list : List V} {keys : List ByteArray} {vals : List V}, GoodN kind half text list.length keys vals.length → kind ≠ 5 → kind ≠ 6 → list = [] ∧ keys = [] ∧ vals = [] := by
    intro kind half text list keys vals n h5 h6
    have h1 := n.lzero.resolve_left h5
    have h2 := n.kzero.resolve_left h6
    have h3 := n.same
    exact ⟨List.eq_nil_of_length_eq_zero h1, List.eq_nil_of_length_eq_zero h2, List.eq_nil_of_length_eq_zero (by omega)⟩
  cases h with
  | @null half text list keys vals =>
    obtain ⟨n, hgl, hgv⟩ := hG
    obtain ⟨rfl, rfl, rfl⟩ := plain n (by omega) (by omega)
    have hh := n.hzero.resolve_left (by omega); have ht := n.tzero.resolve_left (by omega)
    subst hh ht
    exact leaf rfl rfl (by omega) (by omega) (by decide) (fromGo_nil w)
  | @fls half text list keys vals =>
    obtain ⟨n, hgl, hgv⟩ := hG
    obtain ⟨rfl, rfl, rfl⟩ := plain n (by omega) (by omega)
    have hh := n.hzero.resolve_left (by omega); have ht := n.tzero.resolve_left (by omega)
    subst hh ht
    exact leaf rfl rfl (by omega) (by omega) (by decide) (fromGo_false w)
  | @tru half text list keys vals =>
    obtain ⟨n, hgl, hgv⟩ := hG
    obtain ⟨rfl, rfl, rfl⟩ := plain n (by omega) (by omega)
    have hh := n.hzero.resolve_left (by omega); have ht := n.tzero.resolve_left (by omega)
    subst hh ht
    exact leaf rfl rfl (by omega) (by omega) (by decide) (fromGo_true w)
  | @whole half text list keys vals h0 =>
    obtain ⟨n, hgl, hgv⟩ := hG
    obtain ⟨rfl, rfl, rfl⟩ := plain n (by omega) (by omega)
    have ht := n.tzero.resolve_left (by omega)
    subst ht
    have he := tdiv_even h0
    have hb := n.hbound
    have := fromGo_int (half.tdiv 2) (by omega) w
    rw [he] at this
    exact leaf rfl rfl (by omega) (by omega) (by decide) this
  | @frac half text list keys vals h0 =>
    obtain ⟨n, hgl, hgv⟩ := hG
    obtain ⟨rfl, rfl, rfl⟩ := plain n (by omega) (by omega)
    have ht := n.tzero.resolve_left (by omega)
    subst ht
    have hb := n.hodd.resolve_left h0
    have hn0 : half ≠ 0 := fun h => h0 (by rw [h]; rfl)
    have hna : half.natAbs < 9007199254740992 := by omega
    obtain ⟨m', d', Dg⟩ := dig_of hn0 hna
    rw [Dg.bits]
    exact leaf rfl rfl (by omega) (by omega) (by decide) (fromGo_float Dg hna w)
  | @text half text list keys vals =>
    obtain ⟨n, hgl, hgv⟩ := hG
    obtain ⟨rfl, rfl, rfl⟩ := plain n (by omega) (by omega)
    have hh := n.hzero.resolve_left (by omega)
    subst hh
    simp only [V.bytes] at hby
    exact leaf rfl rfl (by omega) (by omega) (by omega) (fromGo_txt text w)
  | @list half text list keys vals a c xs hr hx =>
    obtain ⟨n, hgl, hgv⟩ := hG
    have hh := n.hzero.resolve_left (by omega); have ht := n.tzero.resolve_left (by omega); have hk := n.kzero.resolve_left (by omega); have hs := n.same
    obtain rfl : keys = [] := List.eq_nil_of_length_eq_zero hk
    obtain rfl : vals = [] := List.eq_nil_of_length_eq_zero (by rw [← hs]; rfl)
    subst hh ht
    simp only [V.nodes] at hm hm2
    simp only [V.bytes] at hby
    exact fromGo_list m ih list xs a c D w (by omega) (by omega) (by omega) hgl ⟨hr, hx⟩ hD
  | @map half text list keys vals r es xs hd hr hs he hx =>
    obtain ⟨n, hgl, hgv⟩ := hG
    have hh := n.hzero.resolve_left (by omega); have ht := n.tzero.resolve_left (by omega); have hl := n.lzero.resolve_left (by omega)
    obtain rfl : list = [] := List.eq_nil_of_length_eq_zero hl
    subst hh ht
    simp only [V.nodes] at hm hm2
    simp only [V.bytes] at hby
    exact fromGo_map m ih keys vals r es xs D w (by omega) (by omega) (by omega) n.same hgv n.rise hr hs he hx hD
theorem fromGo_any : ∀ m, FromC m
  | 0 => fun v x D w hm => by have := nodes_pos v; omega
  | m + 1 => fromGo_step m (fromGo_any m)

theorem result_list (l : List V) (xs : Nat → Value) (a : Option Addr) (c : Nat) (D : Nat → Prop) (w : World) (hm2 : V.nodesL l ≤ 1000000) (hby : V.bytesL l ≤ 1000000) (hg : ∀ i (h : i < l.length), Good l[i]) (hin : InL w D a l xs) (hD : ∀ b, D b → b < w.heap.size) :
    Calls Tryd.prog 28 #[.iface 60 (.slice a l.length c)] w (Ret w [] fun r w' => ∃ cs, r = .agg ((cs).push (.int .i64 0)) ∧ RVD w' (fun b => w.heap.size ≤ b ∧ b < w'.heap.size) (.mk 5 0 ⟨#[]⟩ l [] []) cs) := by
  refine calls_of Tryd.func28 rfl rfl rfl rfl ?_
  have FR := Fr.refl [] w
  refine DC.seq ?_
  refine DC.region ?_
  refine DL.alloc rfl rfl F.z34 rfl ?_
  intro b2 w1 f2 lo2 hi2 hb2
  replace lo2 := Nat.le_trans FR.size lo2
  replace FR := FR.tr0 f2
  replace hin := hin.fr f2 (by intro b hb hm; have := hD b hb; first | (simp at hm; done) | (simp only [List.mem_singleton] at hm; omega))
  refine DL.nil ?_
  show DC _ _ _ _ _ _
  refine DC.seq ?_
  refine DC.seq ?_
  refine DC.region ?_
  refine DL.y rfl rfl (Y.move) ?_
  refine DL.y rfl rfl (Y.asIfNo (by kernel_rfl) F.z73 rfl) ?_
  refine DL.y rfl rfl (Y.move) ?_
  refine DL.y rfl rfl (Y.extract rfl rfl) ?_
  refine DL.y rfl rfl (Y.extract rfl rfl) ?_
  refine DL.y rfl rfl (Y.assign) ?_
  refine DL.y rfl rfl (Y.assign) ?_
  refine DL.nil ?_
  show DC _ _ _ _ _ _
  refine DC.seq ?_
  refine DC.region ?_
  refine DL.y rfl rfl (Y.move) ?_
  refine DL.nil ?_
  show DC _ _ _ _ _ _
  refine DC.condF rfl ?_
  refine DC.skip ?_
  show DC _ _ _ _ _ _
  refine DC.seq ?_
  refine DC.region ?_
  refine DL.y rfl rfl (Y.move) ?_
  obtain ⟨lo, hlo⟩ : ∃ lo, lo = w1.heap.size := ⟨_, rfl⟩
  have hb2lo : b2 < lo := by omega
  have hwlo : w.heap.size ≤ lo := by have := FR.size; omega
  refine DL.call rfl rfl F.nm43 rfl (fromGo_list (V.nodesL l) (fromGo_any _) l xs a c D _ (Nat.le_refl _) hm2 hby hg hin (fun b hb => by have := hD b hb; have := FR.size; omega)) ?_
  rintro _ w3 f4 ⟨ce, rfl, hce⟩
  replace FR := FR.tr0 f4
  replace hin := hin.fr f4 (by intro b hb hm; have := hD b hb; first | (simp at hm; done) | (simp only [List.mem_singleton] at hm; omega))
  replace hb2 := f4.blk0 hb2
  replace hi2 := Nat.lt_of_lt_of_le hi2 f4.size
  obtain ⟨hi, hhi⟩ : ∃ hi, hi = w3.heap.size := ⟨_, rfl⟩
  rw [← hlo, ← hhi] at hce
  have hle := Nat.le_of_eq hhi
  obtain ⟨la, lc, ka, kc, va, vc, hcs⟩ := hce.shape
  subst hcs
  refine DL.y rfl rfl (Y.move) ?_
  refine DL.y rfl rfl (Y.extract rfl rfl) ?_
  refine DL.y rfl rfl (Y.extract rfl rfl) ?_
  refine DL.alloc rfl rfl F.z26 rfl ?_
  intro b5 w5 f6 lo5 hi5 hb5
  have lt_b2_b5 : b2 < b5 := Nat.lt_of_lt_of_le hi2 lo5
  have le_hi_b5 : hi ≤ b5 := Nat.le_trans hle lo5
  replace lo5 := Nat.le_trans FR.size lo5
  replace FR := FR.tr0 f6
  replace hin := hin.fr f6 (by intro b hb hm; have := hD b hb; first | (simp at hm; done) | (simp only [List.mem_singleton] at hm; omega))
  replace hb2 := f6.blk0 hb2
  replace hi2 := Nat.lt_of_lt_of_le hi2 f6.size
  replace hce := hce.fr f6 (by intro b hb hm; first | (simp at hm; done) | (simp only [List.mem_singleton] at hm; omega))
  replace hle := Nat.le_trans hle f6.size
  refine DL.storeA rfl F.ag26 rfl rfl rfl (by kernel_rfl) hb5 rfl ?_
  intro w7 f8 hs9 hb5'
  replace FR := FR.put f8 (by intro i hi; simp only [List.mem_cons, List.mem_singleton, List.not_mem_nil, or_false] at hi; rcases hi with rfl; all_goals (first | (left; simp; done) | (right; omega)))
  replace hin := hin.fr f8 (by intro b hb hm; have := hD b hb; first | (simp at hm; done) | (simp only [List.mem_singleton] at hm; omega))
  replace hb2 := f8.blk hb2 (by simp only [List.mem_cons, List.not_mem_nil, or_false, not_or]; omega)
  replace hi2 := Nat.lt_of_lt_of_le hi2 f8.size
  replace hce := hce.fr f8 (by intro b hb hm; first | (simp at hm; done) | (simp only [List.mem_singleton] at hm; omega))
  replace hle := Nat.le_trans hle f8.size
  replace hi5 := Nat.lt_of_lt_of_le hi5 f8.size
  replace hb5 := hb5'
  refine DL.y rfl rfl (Y.assign) ?_
  refine DL.nil ?_
  show DC _ _ _ _ _ _
  refine DC.seq ?_
  refine DC.seq ?_
  refine DC.region ?_
  refine DL.y rfl rfl (Y.move) ?_
  refine DL.y rfl rfl (Y.not rfl) ?_
  refine DL.nil ?_
  show DC _ _ _ _ _ _
  refine DC.condF rfl ?_
  refine DC.skip ?_
  show DC _ _ _ _ _ _
  refine DC.seq ?_
  refine DC.region ?_
  refine DL.y rfl rfl (Y.loadW rfl hb5 F.ag26) ?_
  refine DL.y rfl rfl (Y.build (cs := #[.int .i64 5, .int .i64 0, .string ⟨#[]⟩, .slice la l.length lc, .slice ka ([] : List ByteArray).length kc, .slice va ([] : List V).length vc, .int .i64 0]) (by kernel_rfl)) ?_
  refine DL.storeA rfl F.ag34 rfl rfl rfl (by kernel_rfl) hb2 rfl ?_
  intro w10 f11 hs12 hb2'
  replace FR := FR.put f11 (by intro i hi; simp only [List.mem_cons, List.mem_singleton, List.not_mem_nil, or_false] at hi; rcases hi with rfl; all_goals (first | (left; simp; done) | (right; omega)))
  replace hin := hin.fr f11 (by intro b hb hm; have := hD b hb; first | (simp at hm; done) | (simp only [List.mem_singleton] at hm; omega))
  replace hi2 := Nat.lt_of_lt_of_le hi2 f11.size
  replace hce := hce.fr f11 (by intro b hb hm; first | (simp at hm; done) | (simp only [List.mem_singleton] at hm; omega))
  replace hle := Nat.le_trans hle f11.size
  replace hi5 := Nat.lt_of_lt_of_le hi5 f11.size
  replace hb5 := f11.blk hb5 (by simp only [List.mem_cons, List.not_mem_nil, or_false, not_or]; omega)
  replace hb2 := hb2'
  refine DL.nil ?_
  show DC _ _ _ _ _ _
  refine DC.ret ?_
  exact FinQ.retC rfl (cs := #[.int .i64 5, .int .i64 0, .string ⟨#[]⟩, .slice la l.length lc, .slice ka ([] : List ByteArray).length kc, .slice va ([] : List V).length vc, .int .i64 0]) F.ag34 (.ofBlk hb2) (Ret.mk FR ⟨#[.int .i64 5, .int .i64 0, .string ⟨#[]⟩, .slice la l.length lc, .slice ka ([] : List ByteArray).length kc, .slice va ([] : List V).length vc], rfl, hce.mono (fun b hb => ⟨by omega, by omega⟩)⟩)

theorem result_int (z : Int) (h : -9007199254740992 ≤ z ∧ z ≤ 9007199254740992) (w : World) : Calls Tryd.prog 28 #[.iface 3 (.int .i64 z)] w (Ret w [] fun v _ => v = .agg (((valC 3 (2 * z) ⟨#[]⟩).push (.int .i64 0)))) := by
  refine calls_of Tryd.func28 rfl rfl rfl rfl ?_
  have FR := Fr.refl [] w
  refine DC.seq ?_
  refine DC.region ?_
  refine DL.alloc rfl rfl F.z34 rfl ?_
  intro b2 w1 f2 lo2 hi2 hb2
  replace lo2 := Nat.le_trans FR.size lo2
  replace FR := FR.tr0 f2
  refine DL.nil ?_
  show DC _ _ _ _ _ _
  refine DC.seq ?_
  refine DC.seq ?_
  refine DC.region ?_
  refine DL.y rfl rfl (Y.move) ?_
  refine DL.y rfl rfl (Y.asIfNo (by kernel_rfl) F.z73 rfl) ?_
  refine DL.y rfl rfl (Y.move) ?_
  refine DL.y rfl rfl (Y.extract rfl rfl) ?_
  refine DL.y rfl rfl (Y.extract rfl rfl) ?_
  refine DL.y rfl rfl (Y.assign) ?_
  refine DL.y rfl rfl (Y.assign) ?_
  refine DL.nil ?_
  show DC _ _ _ _ _ _
  refine DC.seq ?_
  refine DC.region ?_
  refine DL.y rfl rfl (Y.move) ?_
  refine DL.nil ?_
  show DC _ _ _ _ _ _
  refine DC.condF rfl ?_
  refine DC.skip ?_
  show DC _ _ _ _ _ _
  refine DC.seq ?_
  refine DC.region ?_
  refine DL.y rfl rfl (Y.move) ?_
  refine DL.call rfl rfl F.nm43 rfl (fromGo_int z h _) ?_
  rintro _ w3 f4 rfl
  replace FR := FR.tr0 f4
  replace hb2 := f4.blk0 hb2
  replace hi2 := Nat.lt_of_lt_of_le hi2 f4.size
  refine DL.y rfl rfl (Y.move) ?_
  refine DL.y rfl rfl (Y.extract rfl rfl) ?_
  refine DL.y rfl rfl (Y.extract rfl rfl) ?_
  refine DL.alloc rfl rfl F.z26 rfl ?_
  intro b5 w5 f6 lo5 hi5 hb5
  have lt_b2_b5 : b2 < b5 := Nat.lt_of_lt_of_le hi2 lo5
  replace lo5 := Nat.le_trans FR.size lo5
  replace FR := FR.tr0 f6
  replace hb2 := f6.blk0 hb2
  replace hi2 := Nat.lt_of_lt_of_le hi2 f6.size
  refine DL.storeA rfl F.ag26 rfl rfl rfl (by kernel_rfl) hb5 rfl ?_
  intro w7 f8 hs9 hb5'
  replace FR := FR.put f8 (by intro i hi; simp only [List.mem_cons, List.mem_singleton, List.not_mem_nil, or_false] at hi; rcases hi with rfl; all_goals (first | (left; simp; done) | (right; omega)))
  replace hb2 := f8.blk hb2 (by simp only [List.mem_cons, List.not_mem_nil, or_false, not_or]; omega)
  replace hi2 := Nat.lt_of_lt_of_le hi2 f8.size
  replace hi5 := Nat.lt_of_lt_of_le hi5 f8.size
  replace hb5 := hb5'
  refine DL.y rfl rfl (Y.assign) ?_
  refine DL.nil ?_
  show DC _ _ _ _ _ _
  refine DC.seq ?_
  refine DC.seq ?_
  refine DC.region ?_
  refine DL.y rfl rfl (Y.move) ?_
  refine DL.y rfl rfl (Y.not rfl) ?_
  refine DL.nil ?_
  show DC _ _ _ _ _ _
  refine DC.condF rfl ?_
  refine DC.skip ?_
  show DC _ _ _ _ _ _
  refine DC.seq ?_
  refine DC.region ?_
  refine DL.y rfl rfl (Y.loadW rfl hb5 F.ag26) ?_
  refine DL.y rfl rfl (Y.build (cs := #[.int .i64 3, .int .i64 (2 * z), .string ⟨#[]⟩, .slice none 0 0, .slice none 0 0, .slice none 0 0, .int .i64 0]) (by kernel_rfl)) ?_
  refine DL.storeA rfl F.ag34 rfl rfl rfl (by kernel_rfl) hb2 rfl ?_
  intro w10 f11 hs12 hb2'
  replace FR := FR.put f11 (by intro i hi; simp only [List.mem_cons, List.mem_singleton, List.not_mem_nil, or_false] at hi; rcases hi with rfl; all_goals (first | (left; simp; done) | (right; omega)))
  replace hi2 := Nat.lt_of_lt_of_le hi2 f11.size
  replace hi5 := Nat.lt_of_lt_of_le hi5 f11.size
  replace hb5 := f11.blk hb5 (by simp only [List.mem_cons, List.not_mem_nil, or_false, not_or]; omega)
  replace hb2 := hb2'
  refine DL.nil ?_
  show DC _ _ _ _ _ _
  refine DC.ret ?_
  exact FinQ.retC rfl (cs := #[.int .i64 3, .int .i64 (2 * z), .string ⟨#[]⟩, .slice none 0 0, .slice none 0 0, .slice none 0 0, .int .i64 0]) F.ag34 (.ofBlk hb2) (Ret.mk FR rfl)

end Go.Proofs.YtmbleojlnaofjaaDoor
