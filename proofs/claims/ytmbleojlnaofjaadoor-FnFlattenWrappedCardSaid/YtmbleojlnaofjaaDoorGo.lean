/- The walks of impl.toGo, listToGo, mapToGo: a right value becomes the program's own. -/
import Derived.Test.YtmbleojlnaofjaaDoorRK
import Derived.Test.YtmbleojlnaofjaaDoorFitV
import Derived.Test.YtmbleojlnaofjaaDoorO2
namespace Go.Proofs.YtmbleojlnaofjaaDoor
open Go Go.RowKit D
set_option linter.unusedVariables false
set_option linter.unusedSimpArgs false


/-! ### A value of the program's own, an interface value -/
/-- The bits of a half: what float64(half) / 2 gives. -/
def halfBits (h : Int) : Nat := (Ieee.double.div (FloatKind.f64.nearest h) 4611686018427387904).getD 0
def RowD (w : World) (D : Nat → Prop) (a : Option Addr) (n sz : Nat) (cl : Nat → Array Value) : Prop :=
  ∀ i, i < n → ∃ b o, a = some ⟨b, o, none⟩ ∧ D b ∧ CellsAt w b (o + i * sz) (cl i) ∧ (cl i).size = sz
inductive GV (w : World) (D : Nat → Prop) : V → Value → Prop
  | null {half text list keys vals} : GV w D (.mk 0 half text list keys vals) .nilIface
  | fls {half text list keys vals} : GV w D (.mk 1 half text list keys vals) (.iface 4 (.bool false))
  | tru {half text list keys vals} : GV w D (.mk 2 half text list keys vals) (.iface 4 (.bool true))
  | whole {half text list keys vals} (h : half.tmod 2 = 0) : GV w D (.mk 3 half text list keys vals) (.iface 3 (.int .i64 (half.tdiv 2)))
  | frac {half text list keys vals} (h : ¬ half.tmod 2 = 0) : GV w D (.mk 3 half text list keys vals) (.iface 64 (.float .f64 (halfBits half)))
  | text {half text list keys vals} : GV w D (.mk 4 half text list keys vals) (.iface 9 (.string text))
  | list {half text list keys vals a c} (xs : Nat → Value) (hr : RowD w D a list.length 1 (fun i => #[xs i])) (hx : ∀ (i : Nat) (h : i < list.length), GV w D list[i] (xs i)) :
      GV w D (.mk 5 half text list keys vals) (.iface 60 (.slice a list.length c))
  | map {half text list keys vals r} (es : Array MapEntry) (xs : Nat → Value) (hd : D r) (hr : w.heap[r]? = some (.map es keys.length)) (hs : es.size = keys.length)
      (he : ∀ (i : Nat) (h : i < keys.length), es[i]? = some ⟨.string keys[i], xs i, i⟩) (hx : ∀ (i : Nat) (h : i < vals.length), GV w D vals[i] (xs i)) :
      GV w D (.mk 6 half text list keys vals) (.iface 66 (.map (some r)))
theorem RowD.fr {S : List Nat} {w w' : World} {D : Nat → Prop} {a : Option Addr} {n sz : Nat} {cl : Nat → Array Value} (h : RowD w D a n sz cl) (f : Fr S w w') (hs : ∀ b, D b → b ∉ S) : RowD w' D a n sz cl :=
  fun i hi => let ⟨b, o, h1, h2, h3, h4⟩ := h i hi; ⟨b, o, h1, h2, h3.fr f (hs b h2), h4⟩
theorem GV.fr {S : List Nat} {w w' : World} {D : Nat → Prop} {v : V} {x : Value} (h : GV w D v x) (f : Fr S w w') (hs : ∀ b, D b → b ∉ S) : GV w' D v x := by
  induction h with
  | null => exact .null
  | fls => exact .fls
  | tru => exact .tru
  | whole h => exact .whole h
  | frac h => exact .frac h
  | text => exact .text
  | list xs hr hx ih => exact .list xs (hr.fr f hs) ih
  | map es xs hd hr hsz he hx ih => exact .map es xs hd (f.blk hr (hs _ hd)) hsz he ih
theorem GV.mono {w : World} {D D' : Nat → Prop} {v : V} {x : Value} (h : GV w D v x) (hd : ∀ b, D b → D' b) : GV w D' v x := by
  induction h with
  | null => exact .null
  | fls => exact .fls
  | tru => exact .tru
  | whole h => exact .whole h
  | frac h => exact .frac h
  | text => exact .text
  | list xs hr hx ih => exact .list xs (fun i hi => let ⟨b, o, h1, h2, h3, h4⟩ := hr i hi; ⟨b, o, h1, hd b h2, h3, h4⟩) ih
  | map es xs hD hr hsz he hx ih => exact .map es xs (hd _ hD) hr hsz he ih
theorem GV.one {w : World} {D : Nat → Prop} {v : V} {x : Value} (h : GV w D v x) : x.oneCell' = true := by cases h <;> rfl
theorem RV.one {w : World} {B : Nat} {v : V} {cs : Array Value} (h : RV w B v cs) : cs.all (·.oneCell') = true := by cases h; simp [Value.oneCell']
theorem halfBits_eq (h : Int) : floatBits .quo .f64 (FloatKind.f64.nearest h) 4611686018427387904 = some (halfBits h) := by
  have key : (Ieee.double.div (FloatKind.f64.nearest h) 4611686018427387904).isSome = true := by
    have h2 : Ieee.double.read 4611686018427387904 = .number false 4503599627370496 (-51) := by decide +kernel
    have h3 : (Ieee.double.read (FloatKind.f64.nearest h)).isNaN = false := by
      have hw : ∀ (neg : Bool) (rung : Nat), rung ≤ Ieee.double.infRung → (Ieee.double.read (Ieee.double.word neg rung)).isNaN = false := by
        intro neg rung hr
        have hi : Ieee.double.infRung = 9218868437227405312 := by decide +kernel
        have hs : Ieee.double.signWeight = 9223372036854775808 := by decide +kernel
        have hm : (Ieee.double.word neg rung) % Ieee.double.signWeight = rung := by
          unfold Ieee.Format.word
          rw [hs]; rw [hi] at hr
          cases neg <;> simp <;> omega
        unfold Ieee.Format.read
        simp only [hm]
        by_cases c1 : rung < Ieee.double.binade
        · rw [if_pos c1]; rfl
        · rw [if_neg c1]
          by_cases c2 : rung < Ieee.double.infRung
          · rw [if_pos c2]; rfl
          · rw [if_neg c2, if_pos (by omega)]; rfl
      show (Ieee.double.read (Ieee.double.nearest _ _ _)).isNaN = false
      unfold Ieee.Format.nearest
      split
      · exact hw _ _ (Nat.zero_le _)
      · exact hw _ _ (Nat.min_le_right _ _)
    unfold Ieee.Format.div
    rw [h2]
    cases hr : Ieee.double.read (FloatKind.f64.nearest h) with
    | nan s t => rw [hr] at h3; cases h3
    | infinity s => rfl
    | number s m i => rfl
  unfold floatBits halfBits
  show Ieee.double.div _ _ = _
  cases hd : Ieee.double.div (FloatKind.f64.nearest h) 4611686018427387904 with
  | none => rw [hd] at key; cases key
  | some r => rfl
/-- A slice of values that lies below B. -/
theorem RVL.lt {w : World} {B : Nat} {a : Option Addr} {list : List V} (h : RVL w B a list) {B' : Nat} (hb : B ≤ B') : RVL w B' a list := by
  have mono : ∀ {v : V} {cs : Array Value}, RV w B v cs → RV w B' v cs := by
    intro v cs h
    induction h with
    | mk cl cv hk hh ht ln kn vn ks hl rl hks hv rv ih1 ih2 =>
      have up : ∀ {a : Option Addr} {n sz : Nat} {cl : Nat → Array Value}, Row w B a n sz cl → Row w B' a n sz cl := fun h i hi => let ⟨b, o, h1, h2, h3, h4⟩ := h i hi; ⟨b, o, h1, Nat.lt_of_lt_of_le h2 hb, h3, h4⟩
      exact .mk cl cv hk hh ht ln kn vn ks (up hl) ih1 (up hks) (up hv) ih2
  exact fun k hk => let ⟨b, o, cl, h1, h2, h3, h4, h5⟩ := h k hk; ⟨b, o, cl, h1, Nat.lt_of_lt_of_le h2 hb, h3, h4, mono h5⟩
def ToC (m : Nat) : Prop := ∀ (v : V) (cs : Array Value) (B : Nat) (w : World), v.nodes ≤ m → v.nodes ≤ 1000000 → Good v → RV w B v cs → B ≤ w.heap.size →
  Calls Tryd.prog 24 #[.agg cs] w (Ret w [] fun r w' => ∃ x, r = .tuple #[x, .bool true] ∧ GV w' (fun j => w.heap.size ≤ j ∧ j < w'.heap.size) v x)
theorem el_any : elemT Tryd.prog 60 20 .nilIface 16 := ⟨Tryd.underlying60, by kernel_rfl⟩


theorem gs_fr {S : List Nat} {w0 w w' : World} {list : List V} {k bo : Nat} {c : Nat → Value → Prop} (h : ∀ i (h : i < list.length), i < k → ∃ x, c i x ∧ GV w (fun j => j ≠ bo ∧ (w0.heap.size ≤ j ∧ j < w.heap.size)) list[i] x) (f : Fr S w w') (hs : ∀ b, b ∈ S → b = bo ∨ w.heap.size ≤ b ∨ b < w0.heap.size) :
    ∀ i (h : i < list.length), i < k → ∃ x, c i x ∧ GV w' (fun j => j ≠ bo ∧ (w0.heap.size ≤ j ∧ j < w'.heap.size)) list[i] x := by
  intro i hi hk
  obtain ⟨x, h1, h2⟩ := h i hi hk
  exact ⟨x, h1, (h2.fr f (fun b hb hm => by rcases hs b hm with h | h | h <;> omega)).mono (fun b hb => ⟨hb.1, hb.2.1, Nat.lt_of_lt_of_le hb.2.2 f.size⟩)⟩
theorem gx_fr {S : List Nat} {w0 w w' : World} {v : V} {x : Value} {bo : Nat} (h : GV w (fun j => j ≠ bo ∧ (w0.heap.size ≤ j ∧ j < w.heap.size)) v x) (f : Fr S w w') (hs : ∀ b, b ∈ S → b = bo ∨ w.heap.size ≤ b ∨ b < w0.heap.size) : GV w' (fun j => j ≠ bo ∧ (w0.heap.size ≤ j ∧ j < w'.heap.size)) v x :=
  (h.fr f (fun b hb hm => by rcases hs b hm with h | h | h <;> omega)).mono (fun b hb => ⟨hb.1, hb.2.1, Nat.lt_of_lt_of_le hb.2.2 f.size⟩)
theorem gx_of {w0 w w' : World} {v : V} {x : Value} {bo : Nat} (h : GV w' (fun j => w.heap.size ≤ j ∧ j < w'.heap.size) v x) (hb : bo < w.heap.size) (h0 : w0.heap.size ≤ w.heap.size) : GV w' (fun j => j ≠ bo ∧ (w0.heap.size ≤ j ∧ j < w'.heap.size)) v x :=
  h.mono (fun j hj => ⟨by omega, by omega, hj.2⟩)


theorem tdiv2 {h : Int} (h1 : -18014398509481984 ≤ h) (h2 : h ≤ 18014398509481984) : -18014398509481984 ≤ h.tdiv 2 ∧ h.tdiv 2 ≤ 18014398509481984 := by
  rcases Int.le_total 0 h with h0 | h0
  · rw [Int.tdiv_eq_ediv_of_nonneg h0]; omega
  · have : h = -(-h) := by omega
    rw [this, Int.neg_tdiv, Int.tdiv_eq_ediv_of_nonneg (by omega)]; omega
theorem RowD.mono {w : World} {D D' : Nat → Prop} {a : Option Addr} {n sz : Nat} {cl : Nat → Array Value} (h : RowD w D a n sz cl) (hd : ∀ b, D b → D' b) : RowD w D' a n sz cl :=
  fun i hi => let ⟨b, o, h1, h2, h3, h4⟩ := h i hi; ⟨b, o, h1, hd b h2, h3, h4⟩
theorem RV.elems {w : World} {B : Nat} {kind half : Int} {text : ByteArray} {list : List V} {keys : List ByteArray} {vals : List V} {la ka va : Option Addr} {ln kn vn lc kc vc : Nat} (h : RV w B (.mk kind half text list keys vals) #[.int .i64 kind, .int .i64 half, .string text, .slice la ln lc, .slice ka kn kc, .slice va vn vc]) : RVL w B la list :=
  fun k hk => h.elem hk

theorem listToGo_step (m : Nat) (ih : ToC m) (list : List V) (a : Option Addr) (lc B : Nat) (w : World) (hn : V.nodesL list ≤ m) (hn2 : V.nodesL list ≤ 1000000) (hg : ∀ i (h : i < list.length), Good list[i]) (hR : RVL w B a list) (hB : B ≤ w.heap.size) :
    Calls Tryd.prog 35 #[.slice a list.length lc] w (Ret w [] fun r w' => ∃ (a' : Option Addr) (c' : Nat) (xs : Nat → Value), r = .tuple #[.slice a' list.length c', .bool true] ∧ RowD w' (fun j => w.heap.size ≤ j ∧ j < w'.heap.size) a' list.length 1 (fun i => #[xs i]) ∧ (∀ i (h : i < list.length), GV w' (fun j => w.heap.size ≤ j ∧ j < w'.heap.size) list[i] (xs i))) := by
  have hll := length_le_nodesL list
  refine calls_of Tryd.func35 rfl rfl rfl rfl ?_
  have FR := Fr.refl [] w
  refine DC.seq ?_
  refine DC.region ?_
  refine DL.y rfl rfl (Y.assign) ?_
  refine DL.y rfl rfl (Y.assign) ?_
  refine DL.nil ?_
  show DC _ _ _ _ _ _
  refine DC.seq ?_
  refine DC.region ?_
  refine DL.y rfl rfl (Y.move) ?_
  refine DL.y rfl rfl (Y.lenS Tryd.underlying23 rfl) ?_
  refine DL.makeS rfl rfl el_any rfl rfl rfl (by omega) (by omega) ?_
  intro bo w1 c0 f2 loo hio hbo hcs hc0
  replace loo := Nat.le_trans FR.size loo
  replace FR := FR.tr0 f2
  replace hR := hR.fr f2 (by intro x hx; simp <;> omega)
  refine DL.y rfl rfl (Y.assign) ?_
  refine DL.nil ?_
  show DC _ _ _ _ _ _
  refine DC.seq ?_
  refine DC.seq ?_
  refine DC.region ?_
  refine DL.y rfl rfl (Y.move) ?_
  refine DL.y rfl rfl (Y.lenS Tryd.underlying23 rfl) ?_
  refine DL.y rfl rfl (Y.move) ?_
  refine DL.nil ?_
  show DC _ _ _ _ _ _
  refine DC.block ?_
  refine DC.loop (σ := Nat × Array Value) [(2, 3), (5, 8), (14, 30)] (fun (k, _) => [(14, .int .i64 (k : Int))]) (fun sg wl => Fr [bo] w1 wl ∧ (fun (k, c) w' => k ≤ list.length ∧ w'.heap[bo]? = some (.cells c 20 (0, 0)) ∧ c.size = list.length ∧ (∀ i (h : i < list.length), i < k → ∃ x, c[i]? = some x ∧ GV w' (fun j => j ≠ bo ∧ (w.heap.size ≤ j ∧ j < w'.heap.size)) list[i] x)) sg wl) (fun (k, _) => list.length - k) ((0, c0)) rfl ?_ ?_ ?_
  · exact rfl
  · exact ⟨Fr.refl _ _, Nat.zero_le _, hbo, hcs, fun i h hi => by omega⟩
  · rintro ⟨k, c⟩ j w3 ⟨f4, hk0, hbo, hc, hgs⟩
    replace FR := FR.put f4 (by intro i hi; simp only [List.mem_cons, List.mem_singleton, List.not_mem_nil, or_false] at hi; rcases hi with rfl; all_goals (first | (left; simp; done) | (right; omega)))
    replace hR := hR.fr f4 (by intro x hx; simp <;> omega)
    replace hio := Nat.lt_of_lt_of_le hio f4.size
    have G5 := f4
    have HG5 := Fr.refl [bo] w3
    refine DC.seq ?_
    refine DC.region ?_
    refine DL.if rfl rfl (Y.lt rfl rfl) (fun c15 => ?_) (fun c15 => ?_)
    · have hk : k < list.length := by omega
      refine DL.nil ?_
      show DC _ _ _ _ _ _
      refine DC.seq ?_
      refine DC.condT rfl ?_
      refine DC.skip ?_
      show DC _ _ _ _ _ _
      refine DC.seq ?_
      refine DC.block ?_
      refine DC.seq ?_
      refine DC.region ?_
      refine DL.y rfl rfl (Y.move) ?_
      obtain ⟨ba, oa, cl, rfl, hba, hcl, hcs1, hRi⟩ := hR k (by omega)
      refine DL.y rfl rfl (Y.index F.sl23 rfl rfl (rfl) (hk)) ?_
      refine DL.y rfl rfl (Y.loadAn hcs1 F.ag26 rfl hcl) ?_
      refine DL.alloc rfl rfl F.z26 rfl ?_
      intro b6 w6 f7 lo6 hi6 hb6
      have lt_bo_b6 : bo < b6 := Nat.lt_of_lt_of_le hio lo6
      have lo6G5 := Nat.le_trans G5.size lo6
      have lo6HG5 := Nat.le_trans HG5.size lo6
      replace lo6 := Nat.le_trans FR.size lo6
      replace FR := FR.tr0 f7
      replace G5 := G5.tr0 f7
      replace HG5 := HG5.tr0 f7
      replace hR := hR.fr f7 (by intro x hx; simp <;> omega)
      replace hio := Nat.lt_of_lt_of_le hio f7.size
      replace hbo := f7.blk0 hbo
      replace hRi := hRi.fr f7 (by intro x hx; simp <;> omega)
      refine DL.y rfl rfl (Y.assign) ?_
      refine DL.storeA rfl F.ag26 rfl rfl hcs1 hRi.one hb6 rfl ?_
      intro w8 f9 hsz hb6'
      replace FR := FR.put f9 (by intro i hi; simp only [List.mem_cons, List.mem_singleton, List.not_mem_nil, or_false] at hi; rcases hi with rfl; all_goals (first | (left; simp; done) | (right; omega)))
      replace G5 := G5.put f9 (by intro i hi; simp only [List.mem_cons, List.mem_singleton, List.not_mem_nil, or_false] at hi; rcases hi with rfl; all_goals (first | (left; simp; done) | (right; omega)))
      replace HG5 := HG5.put f9 (by intro i hi; simp only [List.mem_cons, List.mem_singleton, List.not_mem_nil, or_false] at hi; rcases hi with rfl; all_goals (first | (left; simp; done) | (right; omega)))
      replace hR := hR.fr f9 (by intro x hx; simp <;> omega)
      replace hio := Nat.lt_of_lt_of_le hio f9.size
      replace hbo := f9.blk hbo (by simp only [List.mem_cons, List.not_mem_nil, or_false, not_or]; omega)
      replace hRi := hRi.fr f9 (by intro x hx; simp <;> omega)
      replace hi6 := Nat.lt_of_lt_of_le hi6 f9.size
      replace hb6 := hb6'
      refine DL.nil ?_
      show DC _ _ _ _ _ _
      refine DC.seq ?_
      refine DC.region ?_
      refine DL.y rfl rfl (Y.loadAn hcs1 F.ag26 rfl (.ofBlk hb6)) ?_
      have hsz0 := FR.size
      have hio0 := hio
      refine DL.call rfl rfl F.nm24 rfl (ih _ _ B _ (by have := nodes_le hk; omega) (by have := nodes_le hk; omega) (hg k hk) hRi (by have := FR.size; omega)) ?_
      rintro _ w10 f11 ⟨x, rfl, hgx⟩
      replace FR := FR.tr0 f11
      replace G5 := G5.tr0 f11
      replace HG5 := HG5.tr0 f11
      replace hR := hR.fr f11 (by intro x hx; simp <;> omega)
      replace hio := Nat.lt_of_lt_of_le hio f11.size
      replace hbo := f11.blk0 hbo
      replace hRi := hRi.fr f11 (by intro x hx; simp <;> omega)
      replace hi6 := Nat.lt_of_lt_of_le hi6 f11.size
      replace hb6 := f11.blk0 hb6
      replace hgx := gx_of (w0 := w) (bo := bo) hgx hio0 hsz0
      refine DL.y rfl rfl (Y.move) ?_
      refine DL.y rfl rfl (Y.extract rfl rfl) ?_
      refine DL.y rfl rfl (Y.extract rfl rfl) ?_
      refine DL.y rfl rfl (Y.assign) ?_
      refine DL.y rfl rfl (Y.assign) ?_
      refine DL.nil ?_
      show DC _ _ _ _ _ _
      refine DC.seq ?_
      refine DC.seq ?_
      refine DC.region ?_
      refine DL.y rfl rfl (Y.move) ?_
      refine DL.y rfl rfl (Y.not rfl) ?_
      refine DL.nil ?_
      show DC _ _ _ _ _ _
      refine DC.condF rfl ?_
      refine DC.skip ?_
      show DC _ _ _ _ _ _
      refine DC.region ?_
      refine DL.y rfl rfl (Y.move) ?_
      refine DL.y rfl rfl (Y.move) ?_
      refine DL.y rfl rfl (Y.move) ?_
      refine DL.y rfl rfl (Y.index F.sl60 rfl rfl rfl hk) ?_
      refine DL.storeP rfl F.co20 F.in20 rfl rfl hgx.one hbo (by omega) ?_
      intro w12 f13 hsz2 hbo'
      replace FR := FR.put f13 (by intro i hi; simp only [List.mem_cons, List.mem_singleton, List.not_mem_nil, or_false] at hi; rcases hi with rfl; all_goals (first | (left; simp; done) | (right; omega)))
      replace G5 := G5.put f13 (by intro i hi; simp only [List.mem_cons, List.mem_singleton, List.not_mem_nil, or_false] at hi; rcases hi with rfl; all_goals (first | (left; simp; done) | (right; omega)))
      replace HG5 := HG5.put f13 (by intro i hi; simp only [List.mem_cons, List.mem_singleton, List.not_mem_nil, or_false] at hi; rcases hi with rfl; all_goals (first | (left; simp; done) | (right; omega)))
      replace hR := hR.fr f13 (by intro x hx; simp <;> omega)
      replace hio := Nat.lt_of_lt_of_le hio f13.size
      replace hRi := hRi.fr f13 (by intro x hx; simp <;> omega)
      replace hi6 := Nat.lt_of_lt_of_le hi6 f13.size
      replace hb6 := f13.blk hb6 (by simp only [List.mem_cons, List.not_mem_nil, or_false, not_or]; omega)
      replace hgx := gx_fr hgx f13 (by simp <;> omega)
      replace hbo := hbo'
      refine DL.nil ?_
      show DC _ _ _ _ _ _
      refine DC.region ?_
      refine DL.y rfl rfl (Y.addI (c := ((k + 1 : Nat) : Int)) rfl rfl (by omega) (by omega) (by omega)) ?_
      refine DL.y rfl rfl (Y.move) ?_
      refine DL.nil ?_
      refine ⟨(k + 1, c.setIfInBounds (0 + k * 1) x), ⟨G5, by omega, hbo, by simpa using hc, fun i hi hik => ?_⟩, by show list.length - (k + 1) < list.length - k; omega, rfl⟩
      by_cases h' : i = k
      · subst h'; exact ⟨x, by simp [hc, hi], hgx⟩
      · obtain ⟨y, h1, h2⟩ := gs_fr (c := fun i x => c[i]? = some x) hgs HG5 (by simp) i hi (by omega)
        exact ⟨y, by rw [Array.getElem?_setIfInBounds_ne (by omega)]; exact h1, h2⟩
    · refine DL.nil ?_
      show DC _ _ _ _ _ _
      refine DC.seq ?_
      refine DC.condF rfl ?_
      refine DC.exit ?_
      show DC _ _ _ _ _ _
      refine DC.seq ?_
      refine DC.region ?_
      refine DL.y rfl rfl (Y.move) ?_
      refine DL.y rfl rfl (Y.assign) ?_
      refine DL.y rfl rfl (Y.assign) ?_
      refine DL.nil ?_
      show DC _ _ _ _ _ _
      refine DC.ret ?_
      refine FinQ.ret2 rfl rfl (Ret.mk FR ⟨_, _, fun i => c.getD i undef, rfl, fun i hi => ?_, fun i hi => ?_⟩)
      · obtain ⟨x, h1, h2⟩ := hgs i hi (by omega)
        refine ⟨bo, 0, rfl, ⟨by omega, by omega⟩, fun q hq => ?_, rfl⟩
        have hq0 : q = 0 := by simpa using hq
        subst hq0
        have e : (fun i => #[(fun i => c.getD i undef) i] : Nat → Array Value) i = #[x] := by simp [h1]
        show _ = ((fun i => #[(fun i => c.getD i undef) i] : Nat → Array Value) i)[0]?
        rw [e]
        exact cell_of_blk hbo (by simpa using h1)
      · obtain ⟨x, h1, h2⟩ := hgs i hi (by omega)
        have e : (fun i => c.getD i undef) i = x := by simp [h1]
        show GV _ _ list[i] ((fun i => c.getD i undef) i)
        rw [e]
        exact h2.mono (fun j hj => hj.2)

theorem mapToGo_step (m : Nat) (ih : ToC m) {kind half : Int} {text : ByteArray} {list : List V} {keys : List ByteArray} {vals : List V} {la ka va : Option Addr} {lc kc vc : Nat} (B : Nat) (w : World) (hn : V.nodesL vals ≤ m) (hn2 : V.nodesL vals ≤ 1000000) (hg : ∀ i (h : i < vals.length), Good vals[i]) (hkv : keys.length = vals.length)
    (hrise : ∀ i (h : i + 1 < keys.length), Op.bytesLess keys[i].toList keys[i + 1].toList = true) (hR : RV w B (.mk kind half text list keys vals) #[.int .i64 kind, .int .i64 half, .string text, .slice la list.length lc, .slice ka keys.length kc, .slice va vals.length vc]) (hB : B ≤ w.heap.size) :
    Calls Tryd.prog 38 #[.agg #[.int .i64 kind, .int .i64 half, .string text, .slice la list.length lc, .slice ka keys.length kc, .slice va vals.length vc]] w (Ret w [] fun r w' => ∃ (rm : Nat) (es : Array MapEntry) (xs : Nat → Value), r = .tuple #[.map (some rm), .bool true] ∧ (w.heap.size ≤ rm ∧ rm < w'.heap.size) ∧ w'.heap[rm]? = some (.map es keys.length) ∧ es.size = keys.length ∧
      (∀ (i : Nat) (h : i < keys.length), es[i]? = some ⟨.string keys[i], xs i, i⟩) ∧ (∀ i (h : i < vals.length), GV w' (fun j => w.heap.size ≤ j ∧ j < w'.heap.size) vals[i] (xs i))) := by
  have hll := length_le_nodesL vals
  obtain ⟨bt, bl, bk, bv, bkind, bhalf⟩ := hR.bounds
  refine calls_of Tryd.func38 rfl rfl rfl rfl ?_
  have FR := Fr.refl [] w
  refine DC.seq ?_
  refine DC.region ?_
  refine DL.boxA rfl rfl rfl ?_
  intro b1 w1 f2 lo1 hi1 hb1
  replace lo1 := Nat.le_trans FR.size lo1
  replace FR := FR.tr0 f2
  replace hR := hR.fr f2 (by intro x hx; simp <;> omega)
  refine DL.y rfl rfl (Y.assign) ?_
  refine DL.y rfl rfl (Y.assign) ?_
  refine DL.nil ?_
  show DC _ _ _ _ _ _
  refine DC.seq ?_
  refine DC.seq ?_
  refine DC.region ?_
  refine DL.y rfl rfl (Y.field F.fd26_4 rfl) ?_
  refine DL.y rfl rfl (Y.loadB F.sc24 rfl hb1 rfl) ?_
  refine DL.y rfl rfl (Y.lenS Tryd.underlying24 rfl) ?_
  refine DL.y rfl rfl (Y.field F.fd26_5 rfl) ?_
  refine DL.y rfl rfl (Y.loadB F.sc23 rfl hb1 rfl) ?_
  refine DL.y rfl rfl (Y.lenS Tryd.underlying23 rfl) ?_
  refine DL.if rfl rfl (Y.ne rfl rfl) (fun c15 => ?_) (fun c15 => ?_)
  · exfalso; omega
  · refine DL.nil ?_
    show DC _ _ _ _ _ _
    refine DC.condF rfl ?_
    refine DC.skip ?_
    show DC _ _ _ _ _ _
    refine DC.seq ?_
    refine DC.region ?_
    refine DL.y rfl rfl (Y.field F.fd26_4 rfl) ?_
    refine DL.y rfl rfl (Y.loadB F.sc24 rfl hb1 rfl) ?_
    refine DL.y rfl rfl (Y.lenS Tryd.underlying24 rfl) ?_
    refine DL.makeM rfl rfl Tryd.underlying66 rfl ?_
    intro br w3 f4 lor hir hbr
    have lt_b1_br : b1 < br := Nat.lt_of_lt_of_le hi1 lor
    replace lor := Nat.le_trans FR.size lor
    replace FR := FR.tr0 f4
    replace hR := hR.fr f4 (by intro x hx; simp <;> omega)
    replace hb1 := f4.blk0 hb1
    replace hi1 := Nat.lt_of_lt_of_le hi1 f4.size
    refine DL.y rfl rfl (Y.assign) ?_
    refine DL.nil ?_
    show DC _ _ _ _ _ _
    refine DC.seq ?_
    refine DC.seq ?_
    refine DC.region ?_
    refine DL.y rfl rfl (Y.field F.fd26_4 rfl) ?_
    refine DL.y rfl rfl (Y.loadB F.sc24 rfl hb1 rfl) ?_
    refine DL.y rfl rfl (Y.lenS Tryd.underlying24 rfl) ?_
    refine DL.y rfl rfl (Y.move) ?_
    refine DL.nil ?_
    show DC _ _ _ _ _ _
    refine DC.block ?_
    refine DC.loop (σ := Nat × Array MapEntry) [(2, 3), (5, 8), (23, 54)] (fun (k, _) => [(23, .int .i64 (k : Int))]) (fun sg wl => Fr [br] w3 wl ∧ (fun (k, es) w' => k ≤ keys.length ∧ w'.heap[br]? = some (.map es k) ∧ es.size = k ∧ (∀ i (h : i < vals.length), i < k → ∃ x, (fun i x => ∃ h : i < keys.length, es[i]? = some ⟨.string keys[i], x, i⟩) i x ∧ GV w' (fun j => j ≠ br ∧ (w.heap.size ≤ j ∧ j < w'.heap.size)) vals[i] x)) sg wl) (fun (k, _) => keys.length - k) ((0, #[])) rfl ?_ ?_ ?_
    · exact rfl
    · exact ⟨Fr.refl _ _, Nat.zero_le _, hbr, rfl, fun i h hi => by omega⟩
    · rintro ⟨k, es⟩ j w5 ⟨f6, hk0, hbr, hes, hgs⟩
      replace FR := FR.put f6 (by intro i hi; simp only [List.mem_cons, List.mem_singleton, List.not_mem_nil, or_false] at hi; rcases hi with rfl; all_goals (first | (left; simp; done) | (right; omega)))
      replace hR := hR.fr f6 (by intro x hx; simp <;> omega)
      replace hb1 := f6.blk hb1 (by simp only [List.mem_cons, List.not_mem_nil, or_false, not_or]; omega)
      replace hi1 := Nat.lt_of_lt_of_le hi1 f6.size
      replace hir := Nat.lt_of_lt_of_le hir f6.size
      have G7 := f6
      have HG7 := Fr.refl [br] w5
      refine DC.seq ?_
      refine DC.region ?_
      refine DL.if rfl rfl (Y.lt rfl rfl) (fun c24 => ?_) (fun c24 => ?_)
      · have hk : k < keys.length := by omega
        refine DL.nil ?_
        show DC _ _ _ _ _ _
        refine DC.seq ?_
        refine DC.condT rfl ?_
        refine DC.skip ?_
        show DC _ _ _ _ _ _
        refine DC.seq ?_
        refine DC.block ?_
        refine DC.seq ?_
        refine DC.region ?_
        refine DL.y rfl rfl (Y.move) ?_
        obtain ⟨bs, os, rfl, hbs, hkc, hks⟩ := hR.keyAt hk
        refine DL.y rfl rfl (Y.index F.sl24 rfl rfl (rfl) (hk)) ?_
        refine DL.y rfl rfl (Y.load F.sc9 rfl hkc) ?_
        refine DL.y rfl rfl (Y.assign) ?_
        refine DL.y rfl rfl (Y.assign) ?_
        refine DL.nil ?_
        show DC _ _ _ _ _ _
        refine DC.seq ?_
        refine DC.seq ?_
        refine DC.region ?_
        refine DL.cut 12 [(28, 39)] 39 (.bool false) (fun w' => w' = w5) rfl ?_ ?_
        · refine DL.y rfl rfl (Y.move) ?_
          refine DL.if rfl rfl (Y.gt rfl rfl) (fun c29 => ?_) (fun c29 => ?_)
          · refine DL.y rfl rfl (Y.move) ?_
            refine DL.y rfl rfl (Y.field F.fd26_4 rfl) ?_
            refine DL.y rfl rfl (Y.loadB F.sc24 rfl hb1 rfl) ?_
            refine DL.y rfl rfl (Y.move) ?_
            refine DL.y rfl rfl (Y.subI (c := (k : Int) - 1) rfl rfl (by omega) (by omega) (by omega)) ?_
            have hi3 : (k : Int) - 1 = ((k - 1 : Nat) : Int) := by omega
            have hk3 : k - 1 < keys.length := by omega
            obtain ⟨bs', os', hsome, _, hkc1, _⟩ := hR.keyAt hk3
            simp only [Option.some.injEq, Addr.mk.injEq, and_true] at hsome
            obtain ⟨rfl, rfl⟩ := hsome
            refine DL.y rfl rfl (Y.index F.sl24 rfl rfl (hi3) (hk3)) ?_
            refine DL.y rfl rfl (Y.load F.sc9 rfl hkc1) ?_
            refine DL.y rfl rfl (Y.move) ?_
            have hlt : Op.bytesLess (keys[k - 1]'hk3).toList (keys[k]'hk).toList = true := by
              have h1 := hrise (k - 1) (by omega)
              have e : k - 1 + 1 = k := by omega
              simp only [e] at h1; exact h1
            refine DL.ifb rfl rfl (Y.sge rfl rfl) (fun c38 => ?_) (fun c38 => ?_)
            · exact absurd c38 (by rw [hlt]; decide)
            · refine DL.y rfl rfl (Y.pickT rfl) ?_
              exact DL.nil ⟨by rfl, rfl⟩
          · refine DL.y rfl rfl (Y.move) ?_
            refine DL.skip rfl rfl ?_
            refine DL.skip rfl rfl ?_
            refine DL.skip rfl rfl ?_
            refine DL.skip rfl rfl ?_
            refine DL.skip rfl rfl ?_
            refine DL.skip rfl rfl ?_
            refine DL.skip rfl rfl ?_
            refine DL.skip rfl rfl ?_
            refine DL.y rfl rfl (Y.pickF rfl) ?_
            exact DL.nil ⟨by rfl, rfl⟩
        · rintro j _ hcut; obtain rfl := hcut.symm
          refine DL.nil ?_
          show DC _ _ _ _ _ _
          refine DC.condF rfl ?_
          refine DC.skip ?_
          show DC _ _ _ _ _ _
          refine DC.seq ?_
          refine DC.region ?_
          refine DL.y rfl rfl (Y.field F.fd26_5 rfl) ?_
          refine DL.y rfl rfl (Y.loadB F.sc23 rfl hb1 rfl) ?_
          refine DL.y rfl rfl (Y.move) ?_
          have hv : k < vals.length := by omega
          obtain ⟨bv', ov, cl, rfl, hbv, hcl, hcs1, hRi⟩ := hR.valAt hv
          refine DL.y rfl rfl (Y.index F.sl23 rfl rfl (rfl) (hv)) ?_
          refine DL.y rfl rfl (Y.loadAn hcs1 F.ag26 rfl hcl) ?_
          have hsz0 := FR.size
          have hir0 := hir
          refine DL.call rfl rfl F.nm24 rfl (ih _ _ B _ (by have := nodes_le hv; omega) (by have := nodes_le hv; omega) (hg k hv) hRi (by have := FR.size; omega)) ?_
          rintro _ w9 f10 ⟨x, rfl, hgx⟩
          replace FR := FR.tr0 f10
          replace G7 := G7.tr0 f10
          replace HG7 := HG7.tr0 f10
          replace hR := hR.fr f10 (by intro x hx; simp <;> omega)
          replace hb1 := f10.blk0 hb1
          replace hi1 := Nat.lt_of_lt_of_le hi1 f10.size
          replace hir := Nat.lt_of_lt_of_le hir f10.size
          replace hbr := f10.blk0 hbr
          replace hkc := f10.cell hkc (by simp <;> omega)
          replace hRi := hRi.fr f10 (by intro x hx; simp <;> omega)
          replace hgx := gx_of (w0 := w) (bo := br) hgx hir0 hsz0
          refine DL.y rfl rfl (Y.move) ?_
          refine DL.y rfl rfl (Y.extract rfl rfl) ?_
          refine DL.y rfl rfl (Y.extract rfl rfl) ?_
          refine DL.y rfl rfl (Y.assign) ?_
          refine DL.y rfl rfl (Y.assign) ?_
          refine DL.nil ?_
          show DC _ _ _ _ _ _
          refine DC.seq ?_
          refine DC.seq ?_
          refine DC.region ?_
          refine DL.y rfl rfl (Y.move) ?_
          refine DL.y rfl rfl (Y.not rfl) ?_
          refine DL.nil ?_
          show DC _ _ _ _ _ _
          refine DC.condF rfl ?_
          refine DC.skip ?_
          show DC _ _ _ _ _ _
          refine DC.region ?_
          refine DL.y rfl rfl (Y.move) ?_
          refine DL.y rfl rfl (Y.move) ?_
          refine DL.y rfl rfl (Y.move) ?_
          have hnew : ∀ z ∈ es.toList, ∃ u : ByteArray, z.key = .string u ∧ u ≠ keys[k]'hk := by
            intro z hz
            obtain ⟨i, hi, he⟩ := List.getElem_of_mem hz
            have hik : i < k := by simpa [hes] using hi
            obtain ⟨y, ⟨h0, h1⟩, _⟩ := hgs i (by omega) hik
            have h3 : es[i]? = some z := by rw [← he]; simp [Array.getElem?_eq_getElem (show i < es.size by omega)]
            rw [h3] at h1
            simp only [Option.some.injEq] at h1
            exact ⟨_, by rw [h1], rise_ne hrise hik hk⟩
          refine DL.mapNew rfl Tryd.underlying66 Tryd.underlying9 rfl rfl rfl hbr hnew ?_
          intro w11 f12 hsz2 hbr'
          replace FR := FR.put f12 (by intro i hi; simp only [List.mem_cons, List.mem_singleton, List.not_mem_nil, or_false] at hi; rcases hi with rfl; all_goals (first | (left; simp; done) | (right; omega)))
          replace G7 := G7.put f12 (by intro i hi; simp only [List.mem_cons, List.mem_singleton, List.not_mem_nil, or_false] at hi; rcases hi with rfl; all_goals (first | (left; simp; done) | (right; omega)))
          replace HG7 := HG7.put f12 (by intro i hi; simp only [List.mem_cons, List.mem_singleton, List.not_mem_nil, or_false] at hi; rcases hi with rfl; all_goals (first | (left; simp; done) | (right; omega)))
          replace hR := hR.fr f12 (by intro x hx; simp <;> omega)
          replace hb1 := f12.blk hb1 (by simp only [List.mem_cons, List.not_mem_nil, or_false, not_or]; omega)
          replace hi1 := Nat.lt_of_lt_of_le hi1 f12.size
          replace hir := Nat.lt_of_lt_of_le hir f12.size
          replace hkc := f12.cell hkc (by simp <;> omega)
          replace hRi := hRi.fr f12 (by intro x hx; simp <;> omega)
          replace hgx := gx_fr hgx f12 (by simp <;> omega)
          replace hbr := hbr'
          refine DL.nil ?_
          show DC _ _ _ _ _ _
          refine DC.region ?_
          refine DL.y rfl rfl (Y.addI (c := ((k + 1 : Nat) : Int)) rfl rfl (by omega) (by omega) (by omega)) ?_
          refine DL.y rfl rfl (Y.move) ?_
          refine DL.nil ?_
          refine ⟨(k + 1, es.push ⟨.string (keys[k]'hk), x, k⟩), ⟨G7, by omega, hbr, by simp [hes], fun i hi hik => ?_⟩, by show keys.length - (k + 1) < keys.length - k; omega, rfl⟩
          by_cases h' : i = k
          · subst h'; exact ⟨x, ⟨hk, by rw [Array.getElem?_push, if_pos hes.symm]⟩, hgx⟩
          · obtain ⟨y, ⟨h0, h1⟩, h2⟩ := gs_fr (c := fun i x => ∃ h : i < keys.length, es[i]? = some ⟨.string keys[i], x, i⟩) hgs HG7 (by simp) i hi (by omega)
            exact ⟨y, ⟨h0, by rw [Array.getElem?_push, if_neg (by omega)]; exact h1⟩, h2⟩
      · refine DL.nil ?_
        show DC _ _ _ _ _ _
        refine DC.seq ?_
        refine DC.condF rfl ?_
        refine DC.exit ?_
        show DC _ _ _ _ _ _
        refine DC.seq ?_
        refine DC.region ?_
        refine DL.y rfl rfl (Y.move) ?_
        refine DL.y rfl rfl (Y.assign) ?_
        refine DL.y rfl rfl (Y.assign) ?_
        refine DL.nil ?_
        show DC _ _ _ _ _ _
        refine DC.ret ?_
        have hke : k = keys.length := by omega
        subst hke
        refine FinQ.ret2 rfl rfl (Ret.mk FR ⟨br, es, fun i => (es[i]?.map (·.val)).getD undef, rfl, ⟨by omega, by omega⟩, hbr, hes, fun i hi => ?_, fun i hi => ?_⟩)
        · obtain ⟨x, ⟨h0, h1⟩, h2⟩ := hgs i (by omega) hi
          have e : (fun i => (es[i]?.map (·.val)).getD undef : Nat → Value) i = x := by simp only [h1]; rfl
          show es[i]? = some ⟨.string keys[i], (fun i => (es[i]?.map (·.val)).getD undef : Nat → Value) i, i⟩
          rw [e, h1]
        · obtain ⟨x, ⟨h0, h1⟩, h2⟩ := hgs i hi (by omega)
          have e : (fun i => (es[i]?.map (·.val)).getD undef : Nat → Value) i = x := by simp [h1]
          show GV _ _ vals[i] ((fun i => (es[i]?.map (·.val)).getD undef : Nat → Value) i)
          rw [e]
          exact h2.mono (fun j hj => hj.2)

theorem toGo_step (m : Nat) (ih : ToC m) : ToC (m + 1) := by
  intro v cs B w hm hm2 hG hR hB
  obtain ⟨kind, half, text, list, keys, vals⟩ := v
  obtain ⟨la, lc, ka, kc, va, vc, rfl⟩ := hR.shape
  obtain ⟨bt, bl, bk, bv, bkind, bhalf⟩ := hR.bounds
  obtain ⟨⟨⟨hk1, hk2⟩, hz1, hz2, hz3, hz4, hkv, ⟨hb1', hb2'⟩, hodd, hv1, hv2, hrise⟩, hgl, hgv⟩ := hG
  simp only [V.nodes] at hm hm2
  have htd := tdiv2 hb1' hb2'
  refine calls_of Tryd.func24 rfl rfl rfl rfl ?_
  have FR := Fr.refl [] w
  refine DC.seq ?_
  refine DC.region ?_
  refine DL.boxA rfl rfl rfl ?_
  intro b1 w1 f2 lo1 hi1 hb1
  replace lo1 := Nat.le_trans FR.size lo1
  replace FR := FR.tr0 f2
  replace hR := hR.fr f2 (by intro x hx; simp <;> omega)
  refine DL.y rfl rfl (Y.assign) ?_
  refine DL.y rfl rfl (Y.assign) ?_
  refine DL.nil ?_
  show DC _ _ _ _ _ _
  refine DC.seq ?_
  refine DC.seq ?_
  refine DC.region ?_
  refine DL.y rfl rfl (Y.field F.fd26_0 rfl) ?_
  refine DL.y rfl rfl (Y.loadB F.sc22 rfl hb1 rfl) ?_
  refine DL.nil ?_
  show DC _ _ _ _ _ _
  refine DC.block ?_
  refine DC.seq ?_
  refine DC.region ?_
  refine DL.if rfl rfl (Y.eq rfl rfl) (fun c7 => ?_) (fun c7 => ?_)
  · refine DL.y rfl rfl (Y.assign) ?_
    refine DL.nil ?_
    show DC _ _ _ _ _ _
    refine DC.condT rfl ?_
    refine DC.seq ?_
    refine DC.region ?_
    refine DL.y rfl rfl (Y.assign) ?_
    refine DL.y rfl rfl (Y.assign) ?_
    refine DL.nil ?_
    show DC _ _ _ _ _ _
    refine DC.ret ?_
    subst c7
    exact FinQ.ret2 rfl rfl (Ret.mk FR ⟨_, rfl, .null⟩)
  · refine DL.y rfl rfl (Y.assign) ?_
    refine DL.nil ?_
    show DC _ _ _ _ _ _
    refine DC.condF rfl ?_
    refine DC.seq ?_
    refine DC.region ?_
    refine DL.if rfl rfl (Y.eq rfl rfl) (fun c9 => ?_) (fun c9 => ?_)
    · refine DL.y rfl rfl (Y.assign) ?_
      refine DL.nil ?_
      show DC _ _ _ _ _ _
      refine DC.condT rfl ?_
      refine DC.seq ?_
      refine DC.region ?_
      refine DL.y rfl rfl (Y.mkI F.if4) ?_
      refine DL.y rfl rfl (Y.assign) ?_
      refine DL.y rfl rfl (Y.assign) ?_
      refine DL.nil ?_
      show DC _ _ _ _ _ _
      refine DC.ret ?_
      subst c9
      exact FinQ.ret2 rfl rfl (Ret.mk FR ⟨_, rfl, .fls⟩)
    · refine DL.y rfl rfl (Y.assign) ?_
      refine DL.nil ?_
      show DC _ _ _ _ _ _
      refine DC.condF rfl ?_
      refine DC.seq ?_
      refine DC.region ?_
      refine DL.if rfl rfl (Y.eq rfl rfl) (fun c12 => ?_) (fun c12 => ?_)
      · refine DL.y rfl rfl (Y.assign) ?_
        refine DL.nil ?_
        show DC _ _ _ _ _ _
        refine DC.condT rfl ?_
        refine DC.seq ?_
        refine DC.region ?_
        refine DL.y rfl rfl (Y.mkI F.if4) ?_
        refine DL.y rfl rfl (Y.assign) ?_
        refine DL.y rfl rfl (Y.assign) ?_
        refine DL.nil ?_
        show DC _ _ _ _ _ _
        refine DC.ret ?_
        subst c12
        exact FinQ.ret2 rfl rfl (Ret.mk FR ⟨_, rfl, .tru⟩)
      · refine DL.y rfl rfl (Y.assign) ?_
        refine DL.nil ?_
        show DC _ _ _ _ _ _
        refine DC.condF rfl ?_
        refine DC.seq ?_
        refine DC.region ?_
        refine DL.if rfl rfl (Y.eq rfl rfl) (fun c15 => ?_) (fun c15 => ?_)
        · refine DL.y rfl rfl (Y.assign) ?_
          refine DL.nil ?_
          show DC _ _ _ _ _ _
          refine DC.condT rfl ?_
          refine DC.seq ?_
          refine DC.seq ?_
          refine DC.region ?_
          refine DL.y rfl rfl (Y.field F.fd26_1 rfl) ?_
          refine DL.y rfl rfl (Y.loadB F.sc3 rfl hb1 rfl) ?_
          refine DL.y rfl rfl (Y.rem rfl rfl (by decide)) ?_
          refine DL.if rfl rfl (Y.eq rfl rfl) (fun c19 => ?_) (fun c19 => ?_)
          · refine DL.nil ?_
            show DC _ _ _ _ _ _
            refine DC.condT rfl ?_
            refine DC.seq ?_
            refine DC.region ?_
            refine DL.y rfl rfl (Y.field F.fd26_1 rfl) ?_
            refine DL.y rfl rfl (Y.loadB F.sc3 rfl hb1 rfl) ?_
            refine DL.y rfl rfl (Y.quoI rfl rfl (by decide) (wrap_i64 (by omega) (by omega))) ?_
            refine DL.y rfl rfl (Y.mkI F.if3) ?_
            refine DL.y rfl rfl (Y.assign) ?_
            refine DL.y rfl rfl (Y.assign) ?_
            refine DL.nil ?_
            show DC _ _ _ _ _ _
            refine DC.ret ?_
            subst c15
            exact FinQ.ret2 rfl rfl (Ret.mk FR ⟨_, rfl, .whole c19⟩)
          · refine DL.nil ?_
            show DC _ _ _ _ _ _
            refine DC.condF rfl ?_
            refine DC.skip ?_
            show DC _ _ _ _ _ _
            refine DC.seq ?_
            refine DC.region ?_
            refine DL.y rfl rfl (Y.field F.fd26_1 rfl) ?_
            refine DL.y rfl rfl (Y.loadB F.sc3 rfl hb1 rfl) ?_
            refine DL.y rfl rfl (Y.convIF F.us3 Tryd.underlying64 rfl) ?_
            refine DL.y rfl rfl (Y.farith rfl rfl (halfBits_eq half)) ?_
            refine DL.y rfl rfl (Y.mkI F.if64) ?_
            refine DL.y rfl rfl (Y.assign) ?_
            refine DL.y rfl rfl (Y.assign) ?_
            refine DL.nil ?_
            show DC _ _ _ _ _ _
            refine DC.ret ?_
            subst c15
            exact FinQ.ret2 rfl rfl (Ret.mk FR ⟨_, rfl, .frac c19⟩)
        · refine DL.y rfl rfl (Y.assign) ?_
          refine DL.nil ?_
          show DC _ _ _ _ _ _
          refine DC.condF rfl ?_
          refine DC.seq ?_
          refine DC.region ?_
          refine DL.if rfl rfl (Y.eq rfl rfl) (fun c30 => ?_) (fun c30 => ?_)
          · refine DL.y rfl rfl (Y.assign) ?_
            refine DL.nil ?_
            show DC _ _ _ _ _ _
            refine DC.condT rfl ?_
            refine DC.seq ?_
            refine DC.region ?_
            refine DL.y rfl rfl (Y.field F.fd26_2 rfl) ?_
            refine DL.y rfl rfl (Y.loadB F.sc9 rfl hb1 rfl) ?_
            refine DL.y rfl rfl (Y.mkI F.if9) ?_
            refine DL.y rfl rfl (Y.assign) ?_
            refine DL.y rfl rfl (Y.assign) ?_
            refine DL.nil ?_
            show DC _ _ _ _ _ _
            refine DC.ret ?_
            subst c30
            exact FinQ.ret2 rfl rfl (Ret.mk FR ⟨_, rfl, .text⟩)
          · refine DL.y rfl rfl (Y.assign) ?_
            refine DL.nil ?_
            show DC _ _ _ _ _ _
            refine DC.condF rfl ?_
            refine DC.seq ?_
            refine DC.region ?_
            refine DL.if rfl rfl (Y.eq rfl rfl) (fun c35 => ?_) (fun c35 => ?_)
            · refine DL.y rfl rfl (Y.assign) ?_
              refine DL.nil ?_
              show DC _ _ _ _ _ _
              refine DC.condT rfl ?_
              refine DC.seq ?_
              refine DC.region ?_
              refine DL.y rfl rfl (Y.field F.fd26_3 rfl) ?_
              refine DL.y rfl rfl (Y.loadB F.sc23 rfl hb1 rfl) ?_
              have hsz0 := FR.size
              refine DL.call rfl rfl F.nm35 rfl (listToGo_step m ih list la lc B _ (by omega) (by omega) hgl hR.elems (by have := FR.size; omega)) ?_
              rintro _ w3 f4 ⟨a', c', xs, rfl, hrow, hgxs⟩
              replace FR := FR.tr0 f4
              replace hR := hR.fr f4 (by intro x hx; simp <;> omega)
              replace hb1 := f4.blk0 hb1
              replace hi1 := Nat.lt_of_lt_of_le hi1 f4.size
              replace hrow := hrow.mono (D' := fun j => w.heap.size ≤ j ∧ j < w3.heap.size) (fun j hj => ⟨by omega, hj.2⟩)
              replace hgxs := fun i h => (hgxs i h).mono (D' := fun j => w.heap.size ≤ j ∧ j < w3.heap.size) (fun j hj => ⟨by omega, hj.2⟩)
              refine DL.y rfl rfl (Y.extract rfl rfl) ?_
              refine DL.y rfl rfl (Y.extract rfl rfl) ?_
              refine DL.y rfl rfl (Y.mkI F.if60) ?_
              refine DL.y rfl rfl (Y.assign) ?_
              refine DL.y rfl rfl (Y.assign) ?_
              refine DL.nil ?_
              show DC _ _ _ _ _ _
              refine DC.ret ?_
              subst c35
              exact FinQ.ret2 rfl rfl (Ret.mk FR ⟨_, rfl, .list xs hrow hgxs⟩)
            · refine DL.y rfl rfl (Y.assign) ?_
              refine DL.nil ?_
              show DC _ _ _ _ _ _
              refine DC.condF rfl ?_
              refine DC.seq ?_
              refine DC.region ?_
              refine DL.if rfl rfl (Y.eq rfl rfl) (fun c43 => ?_) (fun c43 => ?_)
              · refine DL.y rfl rfl (Y.assign) ?_
                refine DL.nil ?_
                show DC _ _ _ _ _ _
                refine DC.condT rfl ?_
                refine DC.seq ?_
                refine DC.region ?_
                refine DL.y rfl rfl (Y.loadW rfl hb1 F.ag26) ?_
                have hsz0 := FR.size
                refine DL.call rfl rfl F.nm38 rfl (mapToGo_step m ih B _ (by omega) (by omega) hgv hkv hrise hR (by have := FR.size; omega)) ?_
                rintro _ w5 f6 ⟨rm, es, xs, rfl, hrm, hmap, hes, hent, hgxs⟩
                replace FR := FR.tr0 f6
                replace hR := hR.fr f6 (by intro x hx; simp <;> omega)
                replace hb1 := f6.blk0 hb1
                replace hi1 := Nat.lt_of_lt_of_le hi1 f6.size
                replace hrm : w.heap.size ≤ rm ∧ rm < w5.heap.size := ⟨by omega, hrm.2⟩
                replace hgxs := fun i h => (hgxs i h).mono (D' := fun j => w.heap.size ≤ j ∧ j < w5.heap.size) (fun j hj => ⟨by omega, hj.2⟩)
                refine DL.y rfl rfl (Y.extract rfl rfl) ?_
                refine DL.y rfl rfl (Y.extract rfl rfl) ?_
                refine DL.y rfl rfl (Y.mkI F.if66) ?_
                refine DL.y rfl rfl (Y.assign) ?_
                refine DL.y rfl rfl (Y.assign) ?_
                refine DL.nil ?_
                show DC _ _ _ _ _ _
                refine DC.ret ?_
                subst c43
                exact FinQ.ret2 rfl rfl (Ret.mk FR ⟨_, rfl, .map es xs hrm hmap hes hent hgxs⟩)
              · exfalso; omega


theorem toGo_any : ∀ m, ToC m
  | 0 => fun v cs B w hm => by have := nodes_pos v; omega
  | m + 1 => toGo_step m (toGo_any m)

end Go.Proofs.YtmbleojlnaofjaaDoor
