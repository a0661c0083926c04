/- Own texts, merged: Go, Same, RD, O10, O9. -/
import Derived.Test.YtmbleojlnaofjaaGreatDoorMu01
import Derived.Test.YtmbleojlnaofjaaGreatDoorMu03
import Derived.Test.YtmbleojlnaofjaaGreatDoorMu02
import Derived.Maps.AppendAt
import Derived.Laws.OwnMore
/- The walks of impl.toGo, listToGo, mapToGo: a right value becomes the program's own. -/
namespace Go.Proofs.YtmbleojlnaofjaaGreatDoor
open Go Go.RowKit D
set_option linter.unusedVariables false
set_option linter.unusedSimpArgs false


/-! ### A value of the program's own, an interface value -/
/-- The bits of a half: what float64(half) / 2 gives. -/
def halfBits (h : Int) : Nat := (Ieee.double.div (FloatKind.f64.nearest h) 4611686018427387904).getD 0
def RowD (w : World) (D : Nat → Prop) (a : Option Addr) (n sz : Nat) (cl : Nat → Array Value) : Prop :=
 ∀ i, i < n → ∃ b o, a = some ⟨b, o, none⟩ ∧ D b ∧ CellsAt w b (o + i * sz) (cl i) ∧ (cl i).size = sz
inductive GV (w : World) (D : Nat → Prop) : V → Value → Prop
 | null {half text list keys vals} : GV w D (.mk 0 half text list keys vals) .nilIface
 | fls {half text list keys vals} : GV w D (.mk 1 half text list keys vals) (.iface 4 (.bool false))
 | tru {half text list keys vals} : GV w D (.mk 2 half text list keys vals) (.iface 4 (.bool true))
 | whole {half text list keys vals} (h : half.tmod 2 = 0) : GV w D (.mk 3 half text list keys vals) (.iface 3 (.int .i64 (half.tdiv 2)))
 | frac {half text list keys vals} (h : ¬ half.tmod 2 = 0) : GV w D (.mk 3 half text list keys vals) (.iface 79 (.float .f64 (halfBits half)))
 | text {half text list keys vals} : GV w D (.mk 4 half text list keys vals) (.iface 9 (.string text))
 | list {half text list keys vals a c} (xs : Nat → Value) (hr : RowD w D a list.length 1 (fun i => #[xs i])) (hx : ∀ (i : Nat) (h : i < list.length), GV w D list[i] (xs i)) :
   GV w D (.mk 5 half text list keys vals) (.iface 80 (.slice a list.length c))
 | map {half text list keys vals r} (es : Array MapEntry) (xs : Nat → Value) (hd : D r) (hr : w.heap[r]? = some (.map es keys.length)) (hs : es.size = keys.length)
   (he : ∀ (i : Nat) (h : i < keys.length), es[i]? = some ⟨.string keys[i], xs i, i⟩) (hx : ∀ (i : Nat) (h : i < vals.length), GV w D vals[i] (xs i)) :
   GV w D (.mk 6 half text list keys vals) (.iface 83 (.map (some r)))
theorem RowD.fr {S : List Nat} {w w' : World} {D : Nat → Prop} {a : Option Addr} {n sz : Nat} {cl : Nat → Array Value} (h : RowD w D a n sz cl) (f : Fr S w w') (hs : ∀ b, D b → b ∉ S) : RowD w' D a n sz cl :=
 fun i hi => let ⟨b, o, h1, h2, h3, h4⟩ := h i hi; ⟨b, o, h1, h2, h3.fr f (hs b h2), h4⟩
theorem GV.fr {S : List Nat} {w w' : World} {D : Nat → Prop} {v : V} {x : Value} (h : GV w D v x) (f : Fr S w w') (hs : ∀ b, D b → b ∉ S) : GV w' D v x := by
 induction h with
 | null => exact .null
 | fls => exact .fls
 | tru => exact .tru
 | whole h => exact .whole h
 | frac h => exact .frac h
 | text => exact .text
 | list xs hr hx ih => exact .list xs (hr.fr f hs) ih
 | map es xs hd hr hsz he hx ih => exact .map es xs hd (f.blk hr (hs _ hd)) hsz he ih
theorem GV.mono {w : World} {D D' : Nat → Prop} {v : V} {x : Value} (h : GV w D v x) (hd : ∀ b, D b → D' b) : GV w D' v x := by
 induction h with
 | null => exact .null
 | fls => exact .fls
 | tru => exact .tru
 | whole h => exact .whole h
 | frac h => exact .frac h
 | text => exact .text
 | list xs hr hx ih => exact .list xs (fun i hi => let ⟨b, o, h1, h2, h3, h4⟩ := hr i hi; ⟨b, o, h1, hd b h2, h3, h4⟩) ih
 | map es xs hD hr hsz he hx ih => exact .map es xs (hd _ hD) hr hsz he ih
theorem GV.one {w : World} {D : Nat → Prop} {v : V} {x : Value} (h : GV w D v x) : x.oneCell' = true := by cases h <;> rfl
theorem RV.one {w : World} {B : Nat} {v : V} {cs : Array Value} (h : RV w B v cs) : cs.all (·.oneCell') = true := by cases h; simp [Value.oneCell']
theorem halfBits_eq (h : Int) : floatBits .quo .f64 (FloatKind.f64.nearest h) 4611686018427387904 = some (halfBits h) := by
 have key : (Ieee.double.div (FloatKind.f64.nearest h) 4611686018427387904).isSome = true := by
  have h2 : Ieee.double.read 4611686018427387904 = .number false 4503599627370496 (-51) := by decide +kernel
  have h3 : (Ieee.double.read (FloatKind.f64.nearest h)).isNaN = false := by
   have hw : ∀ (neg : Bool) (rung : Nat), rung ≤ Ieee.double.infRung → (Ieee.double.read (Ieee.double.word neg rung)).isNaN = false := by
    intro neg rung hr
    have hi : Ieee.double.infRung = 9218868437227405312 := by decide +kernel
    have hs : Ieee.double.signWeight = 9223372036854775808 := by decide +kernel
    have hm : (Ieee.double.word neg rung) % Ieee.double.signWeight = rung := by
     unfold Ieee.Format.word
     rw [hs]; rw [hi] at hr
     cases neg <;> simp <;> omega
    unfold Ieee.Format.read
    simp only [hm]
    by_cases c1 : rung < Ieee.double.binade
    ·rw [if_pos c1]; rfl
    ·rw [if_neg c1]
     by_cases c2 : rung < Ieee.double.infRung
     ·rw [if_pos c2]; rfl
     ·rw [if_neg c2, if_pos (by omega)]; rfl
   show (Ieee.double.read (Ieee.double.nearest _ _ _)).isNaN = false
   unfold Ieee.Format.nearest
   split
   ·exact hw _ _ (Nat.zero_le _)
   ·exact hw _ _ (Nat.min_le_right _ _)
  unfold Ieee.Format.div
  rw [h2]
  cases hr : Ieee.double.read (FloatKind.f64.nearest h) with
  | nan s t => rw [hr] at h3; cases h3
  | infinity s => rfl
  | number s m i => rfl
 unfold floatBits halfBits
 show Ieee.double.div _ _ = _
 cases hd : Ieee.double.div (FloatKind.f64.nearest h) 4611686018427387904 with
 | none => rw [hd] at key; cases key
 | some r => rfl
/-- A slice of values that lies below B. -/
theorem RVL.lt {w : World} {B : Nat} {a : Option Addr} {list : List V} (h : RVL w B a list) {B' : Nat} (hb : B ≤ B') : RVL w B' a list := by
 have mono : ∀ {v : V} {cs : Array Value}, RV w B v cs → RV w B' v cs := by
  intro v cs h
  induction h with
  | mk cl cv hk hh ht ln kn vn ks hl rl hks hv rv ih1 ih2 =>
   have up : ∀ {a : Option Addr} {n sz : Nat} {cl : Nat → Array Value}, Row w B a n sz cl → Row w B' a n sz cl := fun h i hi => let ⟨b, o, h1, h2, h3, h4⟩ := h i hi; ⟨b, o, h1, Nat.lt_of_lt_of_le h2 hb, h3, h4⟩
   exact .mk cl cv hk hh ht ln kn vn ks (up hl) ih1 (up hks) (up hv) ih2
 exact fun k hk => let ⟨b, o, cl, h1, h2, h3, h4, h5⟩ := h k hk; ⟨b, o, cl, h1, Nat.lt_of_lt_of_le h2 hb, h3, h4, mono h5⟩
def ToC (m : Nat) : Prop := ∀ (v : V) (cs : Array Value) (B : Nat) (w : World), v.nodes ≤ m → v.nodes ≤ 1000000 → Good v → RV w B v cs → B ≤ w.heap.size →
 Calls Tryz.prog 36 #[.agg cs] w (Ret w [] fun r w' => ∃ x, r = .tuple #[x, .bool true] ∧ GV w' (fun j => w.heap.size ≤ j ∧ j < w'.heap.size) v x)
theorem el_any : elemT Tryz.prog 80 20 .nilIface 16 := ⟨Tryz.underlying80, by kernel_rfl⟩


theorem gs_fr {S : List Nat} {w0 w w' : World} {list : List V} {k bo : Nat} {c : Nat → Value → Prop} (h : ∀ i (h : i < list.length), i < k → ∃ x, c i x ∧ GV w (fun j => j ≠ bo ∧ (w0.heap.size ≤ j ∧ j < w.heap.size)) list[i] x) (f : Fr S w w') (hs : ∀ b, b ∈ S → b = bo ∨ w.heap.size ≤ b ∨ b < w0.heap.size) :
  ∀ i (h : i < list.length), i < k → ∃ x, c i x ∧ GV w' (fun j => j ≠ bo ∧ (w0.heap.size ≤ j ∧ j < w'.heap.size)) list[i] x := by
 intro i hi hk
 obtain ⟨x, h1, h2⟩ := h i hi hk
 exact ⟨x, h1, (h2.fr f (fun b hb hm => by rcases hs b hm with h | h | h <;> omega)).mono (fun b hb => ⟨hb.1, hb.2.1, Nat.lt_of_lt_of_le hb.2.2 f.size⟩)⟩
theorem gx_fr {S : List Nat} {w0 w w' : World} {v : V} {x : Value} {bo : Nat} (h : GV w (fun j => j ≠ bo ∧ (w0.heap.size ≤ j ∧ j < w.heap.size)) v x) (f : Fr S w w') (hs : ∀ b, b ∈ S → b = bo ∨ w.heap.size ≤ b ∨ b < w0.heap.size) : GV w' (fun j => j ≠ bo ∧ (w0.heap.size ≤ j ∧ j < w'.heap.size)) v x :=
 (h.fr f (fun b hb hm => by rcases hs b hm with h | h | h <;> omega)).mono (fun b hb => ⟨hb.1, hb.2.1, Nat.lt_of_lt_of_le hb.2.2 f.size⟩)
theorem gx_of {w0 w w' : World} {v : V} {x : Value} {bo : Nat} (h : GV w' (fun j => w.heap.size ≤ j ∧ j < w'.heap.size) v x) (hb : bo < w.heap.size) (h0 : w0.heap.size ≤ w.heap.size) : GV w' (fun j => j ≠ bo ∧ (w0.heap.size ≤ j ∧ j < w'.heap.size)) v x :=
 h.mono (fun j hj => ⟨by omega, by omega, hj.2⟩)


theorem tdiv2 {h : Int} (h1 : -18014398509481984 ≤ h) (h2 : h ≤ 18014398509481984) : -18014398509481984 ≤ h.tdiv 2 ∧ h.tdiv 2 ≤ 18014398509481984 := by
 rcases Int.le_total 0 h with h0 | h0
 ·rw [Int.tdiv_eq_ediv_of_nonneg h0]; omega
 ·have : h = -(-h) := by omega
  rw [this, Int.neg_tdiv, Int.tdiv_eq_ediv_of_nonneg (by omega)]; omega
theorem RowD.mono {w : World} {D D' : Nat → Prop} {a : Option Addr} {n sz : Nat} {cl : Nat → Array Value} (h : RowD w D a n sz cl) (hd : ∀ b, D b → D' b) : RowD w D' a n sz cl :=
 fun i hi => let ⟨b, o, h1, h2, h3, h4⟩ := h i hi; ⟨b, o, h1, hd b h2, h3, h4⟩
theorem RV.elems {w : World} {B : Nat} {kind half : Int} {text : ByteArray} {list : List V} {keys : List ByteArray} {vals : List V} {la ka va : Option Addr} {ln kn vn lc kc vc : Nat} (h : RV w B (.mk kind half text list keys vals) #[.int .i64 kind, .int .i64 half, .string text, .slice la ln lc, .slice ka kn kc, .slice va vn vc]) : RVL w B la list :=
 fun k hk => h.elem hk

theorem listToGo_step (m : Nat) (ih : ToC m) (list : List V) (a : Option Addr) (lc B : Nat) (w : World) (hn : V.nodesL list ≤ m) (hn2 : V.nodesL list ≤ 1000000) (hg : ∀ i (h : i < list.length), Good list[i]) (hR : RVL w B a list) (hB : B ≤ w.heap.size) :
  Calls Tryz.prog 70 #[.slice a list.length lc] w (Ret w [] fun r w' => ∃ (a' : Option Addr) (c' : Nat) (xs : Nat → Value), r = .tuple #[.slice a' list.length c', .bool true] ∧ RowD w' (fun j => w.heap.size ≤ j ∧ j < w'.heap.size) a' list.length 1 (fun i => #[xs i]) ∧ (∀ i (h : i < list.length), GV w' (fun j => w.heap.size ≤ j ∧ j < w'.heap.size) list[i] (xs i))) := by
 have hll := length_le_nodesL list
 refine calls_of Tryz.func70 rfl rfl rfl rfl ?_
 have FR := Fr.refl [] w
 refine DC.seq ?_
 refine DC.region ?_
 refine DL.y rfl rfl (Y.assign) ?_
 refine DL.y rfl rfl (Y.assign) ?_
 refine DL.nil ?_
 show DC _ _ _ _ _ _
 refine DC.seq ?_
 refine DC.region ?_
 refine DL.y rfl rfl (Y.move) ?_
 refine DL.y rfl rfl (Y.lenS Tryz.underlying23 rfl) ?_
 refine DL.makeS rfl rfl el_any rfl rfl rfl (by omega) (by omega) ?_
 intro bo w1 c0 f2 loo hio hbo hcs hc0
 replace loo := Nat.le_trans FR.size loo
 replace FR := FR.tr0 f2
 replace hR := hR.fr f2 (by intro x hx; simp <;> omega)
 refine DL.y rfl rfl (Y.assign) ?_
 refine DL.nil ?_
 show DC _ _ _ _ _ _
 refine DC.seq ?_
 refine DC.seq ?_
 refine DC.region ?_
 refine DL.y rfl rfl (Y.move) ?_
 refine DL.y rfl rfl (Y.lenS Tryz.underlying23 rfl) ?_
 refine DL.y rfl rfl (Y.move) ?_
 refine DL.nil ?_
 show DC _ _ _ _ _ _
 refine DC.block ?_
 refine DC.loop (σ := Nat × Array Value) [(2, 3), (5, 8), (14, 30)] (fun (k, _) => [(14, .int .i64 (k : Int))]) (fun sg wl => Fr [bo] w1 wl ∧ (fun (k, c) w' => k ≤ list.length ∧ w'.heap[bo]? = some (.cells c 20 (0, 0)) ∧ c.size = list.length ∧ (∀ i (h : i < list.length), i < k → ∃ x, c[i]? = some x ∧ GV w' (fun j => j ≠ bo ∧ (w.heap.size ≤ j ∧ j < w'.heap.size)) list[i] x)) sg wl) (fun (k, _) => list.length - k) ((0, c0)) rfl ?_ ?_ ?_
 ·exact rfl
 ·exact ⟨Fr.refl _ _, Nat.zero_le _, hbo, hcs, fun i h hi => by omega⟩
 ·rintro ⟨k, c⟩ j w3 ⟨f4, hk0, hbo, hc, hgs⟩
  replace FR := FR.put f4 (by intro i hi; simp only [List.mem_cons, List.mem_singleton, List.not_mem_nil, or_false] at hi; rcases hi with rfl; all_goals (first | (left; simp; done) | (right; omega)))
  replace hR := hR.fr f4 (by intro x hx; simp <;> omega)
  replace hio := Nat.lt_of_lt_of_le hio f4.size
  have G5 := f4
  have HG5 := Fr.refl [bo] w3
  refine DC.seq ?_
  refine DC.region ?_
  refine DL.if rfl rfl (Y.lt rfl rfl) (fun c15 => ?_) (fun c15 => ?_)
  ·have hk : k < list.length := by omega
   refine DL.nil ?_
   show DC _ _ _ _ _ _
   refine DC.seq ?_
   refine DC.condT rfl ?_
   refine DC.skip ?_
   show DC _ _ _ _ _ _
   refine DC.seq ?_
   refine DC.block ?_
   refine DC.seq ?_
   refine DC.region ?_
   refine DL.y rfl rfl (Y.move) ?_
   obtain ⟨ba, oa, cl, rfl, hba, hcl, hcs1, hRi⟩ := hR k (by omega)
   refine DL.y rfl rfl (Y.index F.sl23 rfl rfl (rfl) (hk)) ?_
   refine DL.y rfl rfl (Y.loadAn hcs1 F.ag26 rfl hcl) ?_
   refine DL.alloc rfl rfl F.z26 rfl ?_
   intro b6 w6 f7 lo6 hi6 hb6
   have lt_bo_b6 : bo < b6 := Nat.lt_of_lt_of_le hio lo6
   have lo6G5 := Nat.le_trans G5.size lo6
   have lo6HG5 := Nat.le_trans HG5.size lo6
   replace lo6 := Nat.le_trans FR.size lo6
   replace FR := FR.tr0 f7
   replace G5 := G5.tr0 f7
   replace HG5 := HG5.tr0 f7
   replace hR := hR.fr f7 (by intro x hx; simp <;> omega)
   replace hio := Nat.lt_of_lt_of_le hio f7.size
   replace hbo := f7.blk0 hbo
   replace hRi := hRi.fr f7 (by intro x hx; simp <;> omega)
   refine DL.y rfl rfl (Y.assign) ?_
   refine DL.storeA rfl F.ag26 rfl rfl hcs1 hRi.one hb6 rfl ?_
   intro w8 f9 hsz hb6'
   replace FR := FR.put f9 (by intro i hi; simp only [List.mem_cons, List.mem_singleton, List.not_mem_nil, or_false] at hi; rcases hi with rfl; all_goals (first | (left; simp; done) | (right; omega)))
   replace G5 := G5.put f9 (by intro i hi; simp only [List.mem_cons, List.mem_singleton, List.not_mem_nil, or_false] at hi; rcases hi with rfl; all_goals (first | (left; simp; done) | (right; omega)))
   replace HG5 := HG5.put f9 (by intro i hi; simp only [List.mem_cons, List.mem_singleton, List.not_mem_nil, or_false] at hi; rcases hi with rfl; all_goals (first | (left; simp; done) | (right; omega)))
   replace hR := hR.fr f9 (by intro x hx; simp <;> omega)
   replace hio := Nat.lt_of_lt_of_le hio f9.size
   replace hbo := f9.blk hbo (by simp only [List.mem_cons, List.not_mem_nil, or_false, not_or]; omega)
   replace hRi := hRi.fr f9 (by intro x hx; simp <;> omega)
   replace hi6 := Nat.lt_of_lt_of_le hi6 f9.size
   replace hb6 := hb6'
   refine DL.nil ?_
   show DC _ _ _ _ _ _
   refine DC.seq ?_
   refine DC.region ?_
   refine DL.y rfl rfl (Y.loadAn hcs1 F.ag26 rfl (.ofBlk hb6)) ?_
   have hsz0 := FR.size
   have hio0 := hio
   refine DL.call rfl rfl F.nm36 rfl (ih _ _ B _ (by have := nodes_le hk; omega) (by have := nodes_le hk; omega) (hg k hk) hRi (by have := FR.size; omega)) ?_
   rintro _ w10 f11 ⟨x, rfl, hgx⟩
   replace FR := FR.tr0 f11
   replace G5 := G5.tr0 f11
   replace HG5 := HG5.tr0 f11
   replace hR := hR.fr f11 (by intro x hx; simp <;> omega)
   replace hio := Nat.lt_of_lt_of_le hio f11.size
   replace hbo := f11.blk0 hbo
   replace hRi := hRi.fr f11 (by intro x hx; simp <;> omega)
   replace hi6 := Nat.lt_of_lt_of_le hi6 f11.size
   replace hb6 := f11.blk0 hb6
   replace hgx := gx_of (w0 := w) (bo := bo) hgx hio0 hsz0
   refine DL.y rfl rfl (Y.move) ?_
   refine DL.y rfl rfl (Y.extract rfl rfl) ?_
   refine DL.y rfl rfl (Y.extract rfl rfl) ?_
   refine DL.y rfl rfl (Y.assign) ?_
   refine DL.y rfl rfl (Y.assign) ?_
   refine DL.nil ?_
   show DC _ _ _ _ _ _
   refine DC.seq ?_
   refine DC.seq ?_
   refine DC.region ?_
   refine DL.y rfl rfl (Y.move) ?_
   refine DL.y rfl rfl (Y.not rfl) ?_
   refine DL.nil ?_
   show DC _ _ _ _ _ _
   refine DC.condF rfl ?_
   refine DC.skip ?_
   show DC _ _ _ _ _ _
   refine DC.region ?_
   refine DL.y rfl rfl (Y.move) ?_
   refine DL.y rfl rfl (Y.move) ?_
   refine DL.y rfl rfl (Y.move) ?_
   refine DL.y rfl rfl (Y.index F.sl80 rfl rfl rfl hk) ?_
   refine DL.storeP rfl F.co20 F.in20 rfl rfl hgx.one hbo (by omega) ?_
   intro w12 f13 hsz2 hbo'
   replace FR := FR.put f13 (by intro i hi; simp only [List.mem_cons, List.mem_singleton, List.not_mem_nil, or_false] at hi; rcases hi with rfl; all_goals (first | (left; simp; done) | (right; omega)))
   replace G5 := G5.put f13 (by intro i hi; simp only [List.mem_cons, List.mem_singleton, List.not_mem_nil, or_false] at hi; rcases hi with rfl; all_goals (first | (left; simp; done) | (right; omega)))
   replace HG5 := HG5.put f13 (by intro i hi; simp only [List.mem_cons, List.mem_singleton, List.not_mem_nil, or_false] at hi; rcases hi with rfl; all_goals (first | (left; simp; done) | (right; omega)))
   replace hR := hR.fr f13 (by intro x hx; simp <;> omega)
   replace hio := Nat.lt_of_lt_of_le hio f13.size
   replace hRi := hRi.fr f13 (by intro x hx; simp <;> omega)
   replace hi6 := Nat.lt_of_lt_of_le hi6 f13.size
   replace hb6 := f13.blk hb6 (by simp only [List.mem_cons, List.not_mem_nil, or_false, not_or]; omega)
   replace hgx := gx_fr hgx f13 (by simp <;> omega)
   replace hbo := hbo'
   refine DL.nil ?_
   show DC _ _ _ _ _ _
   refine DC.region ?_
   refine DL.y rfl rfl (Y.addI (c := ((k + 1 : Nat) : Int)) rfl rfl (by omega) (by omega) (by omega)) ?_
   refine DL.y rfl rfl (Y.move) ?_
   refine DL.nil ?_
   refine ⟨(k + 1, c.setIfInBounds (0 + k * 1) x), ⟨G5, by omega, hbo, by simpa using hc, fun i hi hik => ?_⟩, by show list.length - (k + 1) < list.length - k; omega, rfl⟩
   by_cases h' : i = k
   ·subst h'; exact ⟨x, by simp [hc, hi], hgx⟩
   ·obtain ⟨y, h1, h2⟩ := gs_fr (c := fun i x => c[i]? = some x) hgs HG5 (by simp) i hi (by omega)
    exact ⟨y, by rw [Array.getElem?_setIfInBounds_ne (by omega)]; exact h1, h2⟩
  ·refine DL.nil ?_
   show DC _ _ _ _ _ _
   refine DC.seq ?_
   refine DC.condF rfl ?_
   refine DC.exit ?_
   show DC _ _ _ _ _ _
   refine DC.seq ?_
   refine DC.region ?_
   refine DL.y rfl rfl (Y.move) ?_
   refine DL.y rfl rfl (Y.assign) ?_
   refine DL.y rfl rfl (Y.assign) ?_
   refine DL.nil ?_
   show DC _ _ _ _ _ _
   refine DC.ret ?_
   refine FinQ.ret2 rfl rfl (Ret.mk FR ⟨_, _, fun i => c.getD i undef, rfl, fun i hi => ?_, fun i hi => ?_⟩)
   ·obtain ⟨x, h1, h2⟩ := hgs i hi (by omega)
    refine ⟨bo, 0, rfl, ⟨by omega, by omega⟩, fun q hq => ?_, rfl⟩
    have hq0 : q = 0 := by simpa using hq
    subst hq0
    have e : (fun i => #[(fun i => c.getD i undef) i] : Nat → Array Value) i = #[x] := by simp [h1]
    show _ = ((fun i => #[(fun i => c.getD i undef) i] : Nat → Array Value) i)[0]?
    rw [e]
    exact cell_of_blk hbo (by simpa using h1)
   ·obtain ⟨x, h1, h2⟩ := hgs i hi (by omega)
    have e : (fun i => c.getD i undef) i = x := by simp [h1]
    show GV _ _ list[i] ((fun i => c.getD i undef) i)
    rw [e]
    exact h2.mono (fun j hj => hj.2)

theorem mapToGo_step (m : Nat) (ih : ToC m) {kind half : Int} {text : ByteArray} {list : List V} {keys : List ByteArray} {vals : List V} {la ka va : Option Addr} {lc kc vc : Nat} (B : Nat) (w : World) (hn : V.nodesL vals ≤ m) (hn2 : V.nodesL vals ≤ 1000000) (hg : ∀ i (h : i < vals.length), Good vals[i]) (hkv : keys.length = vals.length)
  (hrise : ∀ i (h : i + 1 < keys.length), Op.bytesLess keys[i].toList keys[i + 1].toList = true) (hR : RV w B (.mk kind half text list keys vals) #[.int .i64 kind, .int .i64 half, .string text, .slice la list.length lc, .slice ka keys.length kc, .slice va vals.length vc]) (hB : B ≤ w.heap.size) :
  Calls Tryz.prog 71 #[.agg #[.int .i64 kind, .int .i64 half, .string text, .slice la list.length lc, .slice ka keys.length kc, .slice va vals.length vc]] w (Ret w [] fun r w' => ∃ (rm : Nat) (es : Array MapEntry) (xs : Nat → Value), r = .tuple #[.map (some rm), .bool true] ∧ (w.heap.size ≤ rm ∧ rm < w'.heap.size) ∧ w'.heap[rm]? = some (.map es keys.length) ∧ es.size = keys.length ∧
   (∀ (i : Nat) (h : i < keys.length), es[i]? = some ⟨.string keys[i], xs i, i⟩) ∧ (∀ i (h : i < vals.length), GV w' (fun j => w.heap.size ≤ j ∧ j < w'.heap.size) vals[i] (xs i))) := by
 have hll := length_le_nodesL vals
 obtain ⟨bt, bl, bk, bv, bkind, bhalf⟩ := hR.bounds
 refine calls_of Tryz.func71 rfl rfl rfl rfl ?_
 have FR := Fr.refl [] w
 refine DC.seq ?_
 refine DC.region ?_
 refine DL.boxA rfl rfl rfl ?_
 intro b1 w1 f2 lo1 hi1 hb1
 replace lo1 := Nat.le_trans FR.size lo1
 replace FR := FR.tr0 f2
 replace hR := hR.fr f2 (by intro x hx; simp <;> omega)
 refine DL.y rfl rfl (Y.assign) ?_
 refine DL.y rfl rfl (Y.assign) ?_
 refine DL.nil ?_
 show DC _ _ _ _ _ _
 refine DC.seq ?_
 refine DC.seq ?_
 refine DC.region ?_
 refine DL.y rfl rfl (Y.field F.fd26_4 rfl) ?_
 refine DL.y rfl rfl (Y.loadB F.sc24 rfl hb1 rfl) ?_
 refine DL.y rfl rfl (Y.lenS Tryz.underlying24 rfl) ?_
 refine DL.y rfl rfl (Y.field F.fd26_5 rfl) ?_
 refine DL.y rfl rfl (Y.loadB F.sc23 rfl hb1 rfl) ?_
 refine DL.y rfl rfl (Y.lenS Tryz.underlying23 rfl) ?_
 refine DL.if rfl rfl (Y.ne rfl rfl) (fun c15 => ?_) (fun c15 => ?_)
 ·exfalso; omega
 ·refine DL.nil ?_
  show DC _ _ _ _ _ _
  refine DC.condF rfl ?_
  refine DC.skip ?_
  show DC _ _ _ _ _ _
  refine DC.seq ?_
  refine DC.region ?_
  refine DL.y rfl rfl (Y.field F.fd26_4 rfl) ?_
  refine DL.y rfl rfl (Y.loadB F.sc24 rfl hb1 rfl) ?_
  refine DL.y rfl rfl (Y.lenS Tryz.underlying24 rfl) ?_
  refine DL.makeM rfl rfl Tryz.underlying83 rfl ?_
  intro br w3 f4 lor hir hbr
  have lt_b1_br : b1 < br := Nat.lt_of_lt_of_le hi1 lor
  replace lor := Nat.le_trans FR.size lor
  replace FR := FR.tr0 f4
  replace hR := hR.fr f4 (by intro x hx; simp <;> omega)
  replace hb1 := f4.blk0 hb1
  replace hi1 := Nat.lt_of_lt_of_le hi1 f4.size
  refine DL.y rfl rfl (Y.assign) ?_
  refine DL.nil ?_
  show DC _ _ _ _ _ _
  refine DC.seq ?_
  refine DC.seq ?_
  refine DC.region ?_
  refine DL.y rfl rfl (Y.field F.fd26_4 rfl) ?_
  refine DL.y rfl rfl (Y.loadB F.sc24 rfl hb1 rfl) ?_
  refine DL.y rfl rfl (Y.lenS Tryz.underlying24 rfl) ?_
  refine DL.y rfl rfl (Y.move) ?_
  refine DL.nil ?_
  show DC _ _ _ _ _ _
  refine DC.block ?_
  refine DC.loop (σ := Nat × Array MapEntry) [(2, 3), (5, 8), (23, 54)] (fun (k, _) => [(23, .int .i64 (k : Int))]) (fun sg wl => Fr [br] w3 wl ∧ (fun (k, es) w' => k ≤ keys.length ∧ w'.heap[br]? = some (.map es k) ∧ es.size = k ∧ (∀ i (h : i < vals.length), i < k → ∃ x, (fun i x => ∃ h : i < keys.length, es[i]? = some ⟨.string keys[i], x, i⟩) i x ∧ GV w' (fun j => j ≠ br ∧ (w.heap.size ≤ j ∧ j < w'.heap.size)) vals[i] x)) sg wl) (fun (k, _) => keys.length - k) ((0, #[])) rfl ?_ ?_ ?_
  ·exact rfl
  ·exact ⟨Fr.refl _ _, Nat.zero_le _, hbr, rfl, fun i h hi => by omega⟩
  ·rintro ⟨k, es⟩ j w5 ⟨f6, hk0, hbr, hes, hgs⟩
   replace FR := FR.put f6 (by intro i hi; simp only [List.mem_cons, List.mem_singleton, List.not_mem_nil, or_false] at hi; rcases hi with rfl; all_goals (first | (left; simp; done) | (right; omega)))
   replace hR := hR.fr f6 (by intro x hx; simp <;> omega)
   replace hb1 := f6.blk hb1 (by simp only [List.mem_cons, List.not_mem_nil, or_false, not_or]; omega)
   replace hi1 := Nat.lt_of_lt_of_le hi1 f6.size
   replace hir := Nat.lt_of_lt_of_le hir f6.size
   have G7 := f6
   have HG7 := Fr.refl [br] w5
   refine DC.seq ?_
   refine DC.region ?_
   refine DL.if rfl rfl (Y.lt rfl rfl) (fun c24 => ?_) (fun c24 => ?_)
   ·have hk : k < keys.length := by omega
    refine DL.nil ?_
    show DC _ _ _ _ _ _
    refine DC.seq ?_
    refine DC.condT rfl ?_
    refine DC.skip ?_
    show DC _ _ _ _ _ _
    refine DC.seq ?_
    refine DC.block ?_
    refine DC.seq ?_
    refine DC.region ?_
    refine DL.y rfl rfl (Y.move) ?_
    obtain ⟨bs, os, rfl, hbs, hkc, hks⟩ := hR.keyAt hk
    refine DL.y rfl rfl (Y.index F.sl24 rfl rfl (rfl) (hk)) ?_
    refine DL.y rfl rfl (Y.load F.sc9 rfl hkc) ?_
    refine DL.y rfl rfl (Y.assign) ?_
    refine DL.y rfl rfl (Y.assign) ?_
    refine DL.nil ?_
    show DC _ _ _ _ _ _
    refine DC.seq ?_
    refine DC.seq ?_
    refine DC.region ?_
    refine DL.cut 12 [(28, 39)] 39 (.bool false) (fun w' => w' = w5) rfl ?_ ?_
    ·refine DL.y rfl rfl (Y.move) ?_
     refine DL.if rfl rfl (Y.gt rfl rfl) (fun c29 => ?_) (fun c29 => ?_)
     ·refine DL.y rfl rfl (Y.move) ?_
      refine DL.y rfl rfl (Y.field F.fd26_4 rfl) ?_
      refine DL.y rfl rfl (Y.loadB F.sc24 rfl hb1 rfl) ?_
      refine DL.y rfl rfl (Y.move) ?_
      refine DL.y rfl rfl (Y.subI (c := (k : Int) - 1) rfl rfl (by omega) (by omega) (by omega)) ?_
      have hi3 : (k : Int) - 1 = ((k - 1 : Nat) : Int) := by omega
      have hk3 : k - 1 < keys.length := by omega
      obtain ⟨bs', os', hsome, _, hkc1, _⟩ := hR.keyAt hk3
      simp only [Option.some.injEq, Addr.mk.injEq, and_true] at hsome
      obtain ⟨rfl, rfl⟩ := hsome
      refine DL.y rfl rfl (Y.index F.sl24 rfl rfl (hi3) (hk3)) ?_
      refine DL.y rfl rfl (Y.load F.sc9 rfl hkc1) ?_
      refine DL.y rfl rfl (Y.move) ?_
      have hlt : Op.bytesLess (keys[k - 1]'hk3).toList (keys[k]'hk).toList = true := by
       have h1 := hrise (k - 1) (by omega)
       have e : k - 1 + 1 = k := by omega
       simp only [e] at h1; exact h1
      refine DL.ifb rfl rfl (Y.sge rfl rfl) (fun c38 => ?_) (fun c38 => ?_)
      ·exact absurd c38 (by rw [hlt]; decide)
      ·refine DL.y rfl rfl (Y.pickT rfl) ?_
       exact DL.nil ⟨by rfl, rfl⟩
     ·refine DL.y rfl rfl (Y.move) ?_
      refine DL.skip rfl rfl ?_
      refine DL.skip rfl rfl ?_
      refine DL.skip rfl rfl ?_
      refine DL.skip rfl rfl ?_
      refine DL.skip rfl rfl ?_
      refine DL.skip rfl rfl ?_
      refine DL.skip rfl rfl ?_
      refine DL.skip rfl rfl ?_
      refine DL.y rfl rfl (Y.pickF rfl) ?_
      exact DL.nil ⟨by rfl, rfl⟩
    ·rintro j _ hcut; obtain rfl := hcut.symm
     refine DL.nil ?_
     show DC _ _ _ _ _ _
     refine DC.condF rfl ?_
     refine DC.skip ?_
     show DC _ _ _ _ _ _
     refine DC.seq ?_
     refine DC.region ?_
     refine DL.y rfl rfl (Y.field F.fd26_5 rfl) ?_
     refine DL.y rfl rfl (Y.loadB F.sc23 rfl hb1 rfl) ?_
     refine DL.y rfl rfl (Y.move) ?_
     have hv : k < vals.length := by omega
     obtain ⟨bv', ov, cl, rfl, hbv, hcl, hcs1, hRi⟩ := hR.valAt hv
     refine DL.y rfl rfl (Y.index F.sl23 rfl rfl (rfl) (hv)) ?_
     refine DL.y rfl rfl (Y.loadAn hcs1 F.ag26 rfl hcl) ?_
     have hsz0 := FR.size
     have hir0 := hir
     refine DL.call rfl rfl F.nm36 rfl (ih _ _ B _ (by have := nodes_le hv; omega) (by have := nodes_le hv; omega) (hg k hv) hRi (by have := FR.size; omega)) ?_
     rintro _ w9 f10 ⟨x, rfl, hgx⟩
     replace FR := FR.tr0 f10
     replace G7 := G7.tr0 f10
     replace HG7 := HG7.tr0 f10
     replace hR := hR.fr f10 (by intro x hx; simp <;> omega)
     replace hb1 := f10.blk0 hb1
     replace hi1 := Nat.lt_of_lt_of_le hi1 f10.size
     replace hir := Nat.lt_of_lt_of_le hir f10.size
     replace hbr := f10.blk0 hbr
     replace hkc := f10.cell hkc (by simp <;> omega)
     replace hRi := hRi.fr f10 (by intro x hx; simp <;> omega)
     replace hgx := gx_of (w0 := w) (bo := br) hgx hir0 hsz0
     refine DL.y rfl rfl (Y.move) ?_
     refine DL.y rfl rfl (Y.extract rfl rfl) ?_
     refine DL.y rfl rfl (Y.extract rfl rfl) ?_
     refine DL.y rfl rfl (Y.assign) ?_
     refine DL.y rfl rfl (Y.assign) ?_
     refine DL.nil ?_
     show DC _ _ _ _ _ _
     refine DC.seq ?_
     refine DC.seq ?_
     refine DC.region ?_
     refine DL.y rfl rfl (Y.move) ?_
     refine DL.y rfl rfl (Y.not rfl) ?_
     refine DL.nil ?_
     show DC _ _ _ _ _ _
     refine DC.condF rfl ?_
     refine DC.skip ?_
     show DC _ _ _ _ _ _
     refine DC.region ?_
     refine DL.y rfl rfl (Y.move) ?_
     refine DL.y rfl rfl (Y.move) ?_
     refine DL.y rfl rfl (Y.move) ?_
     have hnew : ∀ z ∈ es.toList, ∃ u : ByteArray, z.key = .string u ∧ u ≠ keys[k]'hk := by
      intro z hz
      obtain ⟨i, hi, he⟩ := List.getElem_of_mem hz
      have hik : i < k := by simpa [hes] using hi
      obtain ⟨y, ⟨h0, h1⟩, _⟩ := hgs i (by omega) hik
      have h3 : es[i]? = some z := by rw [← he]; simp [Array.getElem?_eq_getElem (show i < es.size by omega)]
      rw [h3] at h1
      simp only [Option.some.injEq] at h1
      exact ⟨_, by rw [h1], rise_ne hrise hik hk⟩
     refine DL.mapNew rfl Tryz.underlying83 Tryz.underlying9 rfl rfl rfl hbr hnew ?_
     intro w11 f12 hsz2 hbr'
     replace FR := FR.put f12 (by intro i hi; simp only [List.mem_cons, List.mem_singleton, List.not_mem_nil, or_false] at hi; rcases hi with rfl; all_goals (first | (left; simp; done) | (right; omega)))
     replace G7 := G7.put f12 (by intro i hi; simp only [List.mem_cons, List.mem_singleton, List.not_mem_nil, or_false] at hi; rcases hi with rfl; all_goals (first | (left; simp; done) | (right; omega)))
     replace HG7 := HG7.put f12 (by intro i hi; simp only [List.mem_cons, List.mem_singleton, List.not_mem_nil, or_false] at hi; rcases hi with rfl; all_goals (first | (left; simp; done) | (right; omega)))
     replace hR := hR.fr f12 (by intro x hx; simp <;> omega)
     replace hb1 := f12.blk hb1 (by simp only [List.mem_cons, List.not_mem_nil, or_false, not_or]; omega)
     replace hi1 := Nat.lt_of_lt_of_le hi1 f12.size
     replace hir := Nat.lt_of_lt_of_le hir f12.size
     replace hkc := f12.cell hkc (by simp <;> omega)
     replace hRi := hRi.fr f12 (by intro x hx; simp <;> omega)
     replace hgx := gx_fr hgx f12 (by simp <;> omega)
     replace hbr := hbr'
     refine DL.nil ?_
     show DC _ _ _ _ _ _
     refine DC.region ?_
     refine DL.y rfl rfl (Y.addI (c := ((k + 1 : Nat) : Int)) rfl rfl (by omega) (by omega) (by omega)) ?_
     refine DL.y rfl rfl (Y.move) ?_
     refine DL.nil ?_
     refine ⟨(k + 1, es.push ⟨.string (keys[k]'hk), x, k⟩), ⟨G7, by omega, hbr, by simp [hes], fun i hi hik => ?_⟩, by show keys.length - (k + 1) < keys.length - k; omega, rfl⟩
     by_cases h' : i = k
     ·subst h'; exact ⟨x, ⟨hk, by rw [Array.getElem?_push, if_pos hes.symm]⟩, hgx⟩
     ·obtain ⟨y, ⟨h0, h1⟩, h2⟩ := gs_fr (c := fun i x => ∃ h : i < keys.length, es[i]? = some ⟨.string keys[i], x, i⟩) hgs HG7 (by simp) i hi (by omega)
      exact ⟨y, ⟨h0, by rw [Array.getElem?_push, if_neg (by omega)]; exact h1⟩, h2⟩
   ·refine DL.nil ?_
    show DC _ _ _ _ _ _
    refine DC.seq ?_
    refine DC.condF rfl ?_
    refine DC.exit ?_
    show DC _ _ _ _ _ _
    refine DC.seq ?_
    refine DC.region ?_
    refine DL.y rfl rfl (Y.move) ?_
    refine DL.y rfl rfl (Y.assign) ?_
    refine DL.y rfl rfl (Y.assign) ?_
    refine DL.nil ?_
    show DC _ _ _ _ _ _
    refine DC.ret ?_
    have hke : k = keys.length := by omega
    subst hke
    refine FinQ.ret2 rfl rfl (Ret.mk FR ⟨br, es, fun i => (es[i]?.map (·.val)).getD undef, rfl, ⟨by omega, by omega⟩, hbr, hes, fun i hi => ?_, fun i hi => ?_⟩)
    ·obtain ⟨x, ⟨h0, h1⟩, h2⟩ := hgs i (by omega) hi
     have e : (fun i => (es[i]?.map (·.val)).getD undef : Nat → Value) i = x := by simp only [h1]; rfl
     show es[i]? = some ⟨.string keys[i], (fun i => (es[i]?.map (·.val)).getD undef : Nat → Value) i, i⟩
     rw [e, h1]
    ·obtain ⟨x, ⟨h0, h1⟩, h2⟩ := hgs i hi (by omega)
     have e : (fun i => (es[i]?.map (·.val)).getD undef : Nat → Value) i = x := by simp [h1]
     show GV _ _ vals[i] ((fun i => (es[i]?.map (·.val)).getD undef : Nat → Value) i)
     rw [e]
     exact h2.mono (fun j hj => hj.2)

theorem toGo_step (m : Nat) (ih : ToC m) : ToC (m + 1) := by
 intro v cs B w hm hm2 hG hR hB
 obtain ⟨kind, half, text, list, keys, vals⟩ := v
 obtain ⟨la, lc, ka, kc, va, vc, rfl⟩ := hR.shape
 obtain ⟨bt, bl, bk, bv, bkind, bhalf⟩ := hR.bounds
 obtain ⟨⟨⟨hk1, hk2⟩, hz1, hz2, hz3, hz4, hkv, ⟨hb1', hb2'⟩, hodd, hv1, hv2, hrise⟩, hgl, hgv⟩ := hG
 simp only [V.nodes] at hm hm2
 have htd := tdiv2 hb1' hb2'
 refine calls_of Tryz.func36 rfl rfl rfl rfl ?_
 have FR := Fr.refl [] w
 refine DC.seq ?_
 refine DC.region ?_
 refine DL.boxA rfl rfl rfl ?_
 intro b1 w1 f2 lo1 hi1 hb1
 replace lo1 := Nat.le_trans FR.size lo1
 replace FR := FR.tr0 f2
 replace hR := hR.fr f2 (by intro x hx; simp <;> omega)
 refine DL.y rfl rfl (Y.assign) ?_
 refine DL.y rfl rfl (Y.assign) ?_
 refine DL.nil ?_
 show DC _ _ _ _ _ _
 refine DC.seq ?_
 refine DC.seq ?_
 refine DC.region ?_
 refine DL.y rfl rfl (Y.field F.fd26_0 rfl) ?_
 refine DL.y rfl rfl (Y.loadB F.sc22 rfl hb1 rfl) ?_
 refine DL.nil ?_
 show DC _ _ _ _ _ _
 refine DC.block ?_
 refine DC.seq ?_
 refine DC.region ?_
 refine DL.if rfl rfl (Y.eq rfl rfl) (fun c7 => ?_) (fun c7 => ?_)
 ·refine DL.y rfl rfl (Y.assign) ?_
  refine DL.nil ?_
  show DC _ _ _ _ _ _
  refine DC.condT rfl ?_
  refine DC.seq ?_
  refine DC.region ?_
  refine DL.y rfl rfl (Y.assign) ?_
  refine DL.y rfl rfl (Y.assign) ?_
  refine DL.nil ?_
  show DC _ _ _ _ _ _
  refine DC.ret ?_
  subst c7
  exact FinQ.ret2 rfl rfl (Ret.mk FR ⟨_, rfl, .null⟩)
 ·refine DL.y rfl rfl (Y.assign) ?_
  refine DL.nil ?_
  show DC _ _ _ _ _ _
  refine DC.condF rfl ?_
  refine DC.seq ?_
  refine DC.region ?_
  refine DL.if rfl rfl (Y.eq rfl rfl) (fun c9 => ?_) (fun c9 => ?_)
  ·refine DL.y rfl rfl (Y.assign) ?_
   refine DL.nil ?_
   show DC _ _ _ _ _ _
   refine DC.condT rfl ?_
   refine DC.seq ?_
   refine DC.region ?_
   refine DL.y rfl rfl (Y.mkI F.if4) ?_
   refine DL.y rfl rfl (Y.assign) ?_
   refine DL.y rfl rfl (Y.assign) ?_
   refine DL.nil ?_
   show DC _ _ _ _ _ _
   refine DC.ret ?_
   subst c9
   exact FinQ.ret2 rfl rfl (Ret.mk FR ⟨_, rfl, .fls⟩)
  ·refine DL.y rfl rfl (Y.assign) ?_
   refine DL.nil ?_
   show DC _ _ _ _ _ _
   refine DC.condF rfl ?_
   refine DC.seq ?_
   refine DC.region ?_
   refine DL.if rfl rfl (Y.eq rfl rfl) (fun c12 => ?_) (fun c12 => ?_)
   ·refine DL.y rfl rfl (Y.assign) ?_
    refine DL.nil ?_
    show DC _ _ _ _ _ _
    refine DC.condT rfl ?_
    refine DC.seq ?_
    refine DC.region ?_
    refine DL.y rfl rfl (Y.mkI F.if4) ?_
    refine DL.y rfl rfl (Y.assign) ?_
    refine DL.y rfl rfl (Y.assign) ?_
    refine DL.nil ?_
    show DC _ _ _ _ _ _
    refine DC.ret ?_
    subst c12
    exact FinQ.ret2 rfl rfl (Ret.mk FR ⟨_, rfl, .tru⟩)
   ·refine DL.y rfl rfl (Y.assign) ?_
    refine DL.nil ?_
    show DC _ _ _ _ _ _
    refine DC.condF rfl ?_
    refine DC.seq ?_
    refine DC.region ?_
    refine DL.if rfl rfl (Y.eq rfl rfl) (fun c15 => ?_) (fun c15 => ?_)
    ·refine DL.y rfl rfl (Y.assign) ?_
     refine DL.nil ?_
     show DC _ _ _ _ _ _
     refine DC.condT rfl ?_
     refine DC.seq ?_
     refine DC.seq ?_
     refine DC.region ?_
     refine DL.y rfl rfl (Y.field F.fd26_1 rfl) ?_
     refine DL.y rfl rfl (Y.loadB F.sc3 rfl hb1 rfl) ?_
     refine DL.y rfl rfl (Y.rem rfl rfl (by decide)) ?_
     refine DL.if rfl rfl (Y.eq rfl rfl) (fun c19 => ?_) (fun c19 => ?_)
     ·refine DL.nil ?_
      show DC _ _ _ _ _ _
      refine DC.condT rfl ?_
      refine DC.seq ?_
      refine DC.region ?_
      refine DL.y rfl rfl (Y.field F.fd26_1 rfl) ?_
      refine DL.y rfl rfl (Y.loadB F.sc3 rfl hb1 rfl) ?_
      refine DL.y rfl rfl (Y.quoI rfl rfl (by decide) (wrap_i64 (by omega) (by omega))) ?_
      refine DL.y rfl rfl (Y.mkI F.if3) ?_
      refine DL.y rfl rfl (Y.assign) ?_
      refine DL.y rfl rfl (Y.assign) ?_
      refine DL.nil ?_
      show DC _ _ _ _ _ _
      refine DC.ret ?_
      subst c15
      exact FinQ.ret2 rfl rfl (Ret.mk FR ⟨_, rfl, .whole c19⟩)
     ·refine DL.nil ?_
      show DC _ _ _ _ _ _
      refine DC.condF rfl ?_
      refine DC.skip ?_
      show DC _ _ _ _ _ _
      refine DC.seq ?_
      refine DC.region ?_
      refine DL.y rfl rfl (Y.field F.fd26_1 rfl) ?_
      refine DL.y rfl rfl (Y.loadB F.sc3 rfl hb1 rfl) ?_
      refine DL.y rfl rfl (Y.convIF F.us3 Tryz.underlying79 rfl) ?_
      refine DL.y rfl rfl (Y.farith rfl rfl (halfBits_eq half)) ?_
      refine DL.y rfl rfl (Y.mkI F.if79) ?_
      refine DL.y rfl rfl (Y.assign) ?_
      refine DL.y rfl rfl (Y.assign) ?_
      refine DL.nil ?_
      show DC _ _ _ _ _ _
      refine DC.ret ?_
      subst c15
      exact FinQ.ret2 rfl rfl (Ret.mk FR ⟨_, rfl, .frac c19⟩)
    ·refine DL.y rfl rfl (Y.assign) ?_
     refine DL.nil ?_
     show DC _ _ _ _ _ _
     refine DC.condF rfl ?_
     refine DC.seq ?_
     refine DC.region ?_
     refine DL.if rfl rfl (Y.eq rfl rfl) (fun c30 => ?_) (fun c30 => ?_)
     ·refine DL.y rfl rfl (Y.assign) ?_
      refine DL.nil ?_
      show DC _ _ _ _ _ _
      refine DC.condT rfl ?_
      refine DC.seq ?_
      refine DC.region ?_
      refine DL.y rfl rfl (Y.field F.fd26_2 rfl) ?_
      refine DL.y rfl rfl (Y.loadB F.sc9 rfl hb1 rfl) ?_
      refine DL.y rfl rfl (Y.mkI F.if9) ?_
      refine DL.y rfl rfl (Y.assign) ?_
      refine DL.y rfl rfl (Y.assign) ?_
      refine DL.nil ?_
      show DC _ _ _ _ _ _
      refine DC.ret ?_
      subst c30
      exact FinQ.ret2 rfl rfl (Ret.mk FR ⟨_, rfl, .text⟩)
     ·refine DL.y rfl rfl (Y.assign) ?_
      refine DL.nil ?_
      show DC _ _ _ _ _ _
      refine DC.condF rfl ?_
      refine DC.seq ?_
      refine DC.region ?_
      refine DL.if rfl rfl (Y.eq rfl rfl) (fun c35 => ?_) (fun c35 => ?_)
      ·refine DL.y rfl rfl (Y.assign) ?_
       refine DL.nil ?_
       show DC _ _ _ _ _ _
       refine DC.condT rfl ?_
       refine DC.seq ?_
       refine DC.region ?_
       refine DL.y rfl rfl (Y.field F.fd26_3 rfl) ?_
       refine DL.y rfl rfl (Y.loadB F.sc23 rfl hb1 rfl) ?_
       have hsz0 := FR.size
       refine DL.call rfl rfl F.nm70 rfl (listToGo_step m ih list la lc B _ (by omega) (by omega) hgl hR.elems (by have := FR.size; omega)) ?_
       rintro _ w3 f4 ⟨a', c', xs, rfl, hrow, hgxs⟩
       replace FR := FR.tr0 f4
       replace hR := hR.fr f4 (by intro x hx; simp <;> omega)
       replace hb1 := f4.blk0 hb1
       replace hi1 := Nat.lt_of_lt_of_le hi1 f4.size
       replace hrow := hrow.mono (D' := fun j => w.heap.size ≤ j ∧ j < w3.heap.size) (fun j hj => ⟨by omega, hj.2⟩)
       replace hgxs := fun i h => (hgxs i h).mono (D' := fun j => w.heap.size ≤ j ∧ j < w3.heap.size) (fun j hj => ⟨by omega, hj.2⟩)
       refine DL.y rfl rfl (Y.extract rfl rfl) ?_
       refine DL.y rfl rfl (Y.extract rfl rfl) ?_
       refine DL.y rfl rfl (Y.mkI F.if80) ?_
       refine DL.y rfl rfl (Y.assign) ?_
       refine DL.y rfl rfl (Y.assign) ?_
       refine DL.nil ?_
       show DC _ _ _ _ _ _
       refine DC.ret ?_
       subst c35
       exact FinQ.ret2 rfl rfl (Ret.mk FR ⟨_, rfl, .list xs hrow hgxs⟩)
      ·refine DL.y rfl rfl (Y.assign) ?_
       refine DL.nil ?_
       show DC _ _ _ _ _ _
       refine DC.condF rfl ?_
       refine DC.seq ?_
       refine DC.region ?_
       refine DL.if rfl rfl (Y.eq rfl rfl) (fun c43 => ?_) (fun c43 => ?_)
       ·refine DL.y rfl rfl (Y.assign) ?_
        refine DL.nil ?_
        show DC _ _ _ _ _ _
        refine DC.condT rfl ?_
        refine DC.seq ?_
        refine DC.region ?_
        refine DL.y rfl rfl (Y.loadW rfl hb1 F.ag26) ?_
        have hsz0 := FR.size
        refine DL.call rfl rfl F.nm71 rfl (mapToGo_step m ih B _ (by omega) (by omega) hgv hkv hrise hR (by have := FR.size; omega)) ?_
        rintro _ w5 f6 ⟨rm, es, xs, rfl, hrm, hmap, hes, hent, hgxs⟩
        replace FR := FR.tr0 f6
        replace hR := hR.fr f6 (by intro x hx; simp <;> omega)
        replace hb1 := f6.blk0 hb1
        replace hi1 := Nat.lt_of_lt_of_le hi1 f6.size
        replace hrm : w.heap.size ≤ rm ∧ rm < w5.heap.size := ⟨by omega, hrm.2⟩
        replace hgxs := fun i h => (hgxs i h).mono (D' := fun j => w.heap.size ≤ j ∧ j < w5.heap.size) (fun j hj => ⟨by omega, hj.2⟩)
        refine DL.y rfl rfl (Y.extract rfl rfl) ?_
        refine DL.y rfl rfl (Y.extract rfl rfl) ?_
        refine DL.y rfl rfl (Y.mkI F.if83) ?_
        refine DL.y rfl rfl (Y.assign) ?_
        refine DL.y rfl rfl (Y.assign) ?_
        refine DL.nil ?_
        show DC _ _ _ _ _ _
        refine DC.ret ?_
        subst c43
        exact FinQ.ret2 rfl rfl (Ret.mk FR ⟨_, rfl, .map es xs hrm hmap hes hent hgxs⟩)
       ·exfalso; omega


theorem toGo_any : ∀ m, ToC m
 | 0 => fun v cs B w hm => by have := nodes_pos v; omega
 | m + 1 => toGo_step m (toGo_any m)

end Go.Proofs.YtmbleojlnaofjaaGreatDoor

/- Same values are the same: spec.Cmp, spec.Same. -/
namespace Go.Proofs.YtmbleojlnaofjaaGreatDoor
open Go Go.RowKit D
set_option linter.unusedVariables false
set_option linter.unusedSimpArgs false

theorem sign_zero (w : World) : Calls Tryz.prog 116 #[.int .i64 0] w (Ret w [] fun v _ => v = .int .i64 0) := by
 refine calls_of Tryz.func116 rfl rfl rfl rfl ?_
 have FR := Fr.refl [] w
 refine DC.seq ?_
 refine DC.region ?_
 refine DL.y rfl rfl (Y.assign) ?_
 refine DL.nil ?_
 show DC _ _ _ _ _ _
 refine DC.seq ?_
 refine DC.block ?_
 refine DC.seq ?_
 refine DC.region ?_
 refine DL.y rfl rfl (Y.move) ?_
 refine DL.if rfl rfl (Y.lt rfl rfl) (fun c5 => ?_) (fun c5 => ?_)
 ·exfalso; omega
 ·refine DL.y rfl rfl (Y.assign) ?_
  refine DL.nil ?_
  show DC _ _ _ _ _ _
  refine DC.condF rfl ?_
  refine DC.seq ?_
  refine DC.region ?_
  refine DL.y rfl rfl (Y.move) ?_
  refine DL.if rfl rfl (Y.gt rfl rfl) (fun c8 => ?_) (fun c8 => ?_)
  ·exfalso; omega
  ·refine DL.y rfl rfl (Y.assign) ?_
   refine DL.nil ?_
   show DC _ _ _ _ _ _
   refine DC.condF rfl ?_
   refine DC.skip ?_
   show DC _ _ _ _ _ _
   refine DC.seq ?_
   refine DC.region ?_
   refine DL.y rfl rfl (Y.assign) ?_
   refine DL.nil ?_
   show DC _ _ _ _ _ _
   refine DC.ret ?_
   exact FinQ.ret1 rfl (Ret.mk FR rfl)

theorem texts_same (s : ByteArray) (w : World) : Calls Tryz.prog 117 #[.string s, .string s] w (Ret w [] fun v _ => v = .int .i64 0) := by
 refine calls_of Tryz.func117 rfl rfl rfl rfl ?_
 have FR := Fr.refl [] w
 refine DC.seq ?_
 refine DC.region ?_
 refine DL.y rfl rfl (Y.assign) ?_
 refine DL.nil ?_
 show DC _ _ _ _ _ _
 refine DC.seq ?_
 refine DC.block ?_
 refine DC.seq ?_
 refine DC.region ?_
 refine DL.y rfl rfl (Y.move) ?_
 refine DL.y rfl rfl (Y.move) ?_
 refine DL.ifb rfl rfl (Y.slt rfl rfl) (fun c8 => ?_) (fun c8 => ?_)
 ·exact absurd c8 (by rw [less_irr s.toList]; simp)
 ·refine DL.y rfl rfl (Y.assign) ?_
  refine DL.nil ?_
  show DC _ _ _ _ _ _
  refine DC.condF rfl ?_
  refine DC.seq ?_
  refine DC.region ?_
  refine DL.y rfl rfl (Y.move) ?_
  refine DL.y rfl rfl (Y.move) ?_
  refine DL.ifb rfl rfl (Y.sgt rfl rfl) (fun c12 => ?_) (fun c12 => ?_)
  ·exact absurd c12 (by simp)
  ·refine DL.y rfl rfl (Y.assign) ?_
   refine DL.nil ?_
   show DC _ _ _ _ _ _
   refine DC.condF rfl ?_
   refine DC.skip ?_
   show DC _ _ _ _ _ _
   refine DC.seq ?_
   refine DC.region ?_
   refine DL.y rfl rfl (Y.assign) ?_
   refine DL.nil ?_
   show DC _ _ _ _ _ _
   refine DC.ret ?_
   exact FinQ.ret1 rfl (Ret.mk FR rfl)

theorem keys_same (keys : List ByteArray) (a b : Option Addr) (ca cb B : Nat) (w : World) (hA : RVK w B a keys) (hB : RVK w B b keys) (hn : keys.length ≤ 140737488351232) :
  Calls Tryz.prog 118 #[.slice a keys.length ca, .slice b keys.length cb] w (Ret w [] fun v _ => v = .int .i64 0) := by
 refine calls_of Tryz.func118 rfl rfl rfl rfl ?_
 have FR := Fr.refl [] w
 refine DC.seq ?_
 refine DC.region ?_
 refine DL.y rfl rfl (Y.assign) ?_
 refine DL.nil ?_
 show DC _ _ _ _ _ _
 refine DC.seq ?_
 refine DC.seq ?_
 refine DC.region ?_
 refine DL.y rfl rfl (Y.assign) ?_
 refine DL.nil ?_
 show DC _ _ _ _ _ _
 refine DC.block ?_
 refine DC.loop (σ := Nat) [(4, 30)] (fun k => [(5, .int .i64 (k : Int))]) (fun sg wl => Fr [] w wl ∧ (fun k w' => k ≤ keys.length) sg wl) (fun k => keys.length - k) (0) rfl ?_ ?_ ?_
 ·exact rfl
 ·exact ⟨Fr.refl _ _, Nat.zero_le _⟩
 ·rintro k j w1 ⟨f2, hk0⟩
  replace FR := FR.tr0 f2
  replace hA := hA.fr f2 (by intro x hx; simp <;> omega)
  replace hB := hB.fr f2 (by intro x hx; simp <;> omega)
  have G3 := f2
  have HG3 := Fr.refl [] w1
  refine DC.seq ?_
  refine DC.seq ?_
  refine DC.region ?_
  refine DL.y rfl rfl (Y.move) ?_
  refine DL.y rfl rfl (Y.move) ?_
  refine DL.y rfl rfl (Y.lenS Tryz.underlying24 rfl) ?_
  refine DL.if rfl rfl (Y.lt rfl rfl) (fun c10 => ?_) (fun c10 => ?_)
  ·have hk : k < keys.length := by omega
   obtain ⟨b1, o1, rfl, hb1, hkc1, hks1⟩ := hA k hk
   obtain ⟨b2, o2, rfl, hb2, hkc2, hks2⟩ := hB k hk
   refine DL.y rfl rfl (Y.move) ?_
   refine DL.y rfl rfl (Y.move) ?_
   refine DL.y rfl rfl (Y.move) ?_
   refine DL.y rfl rfl (Y.lenS Tryz.underlying24 rfl) ?_
   refine DL.if rfl rfl (Y.lt rfl rfl) (fun c15 => ?_) (fun c15 => ?_)
   ·refine DL.y rfl rfl (Y.pickT rfl) ?_
    refine DL.nil ?_
    show DC _ _ _ _ _ _
    refine DC.condT rfl ?_
    refine DC.skip ?_
    show DC _ _ _ _ _ _
    refine DC.seq ?_
    refine DC.block ?_
    refine DC.seq ?_
    refine DC.quiet F.mixed (by kernel_rfl) ?_
    refine DQ.y rfl rfl (fun wq fq => Y.move) ?_
    refine DQ.y rfl rfl (fun wq fq => Y.move) ?_
    refine DQ.y rfl rfl (fun wq fq => Y.index F.sl24 rfl rfl (rfl) (hk)) ?_
    refine DQ.y rfl rfl (fun wq fq => Y.load F.sc9 rfl (fq.cell hkc1 (by simp))) ?_
    refine DQ.y rfl rfl (fun wq fq => Y.move) ?_
    refine DQ.y rfl rfl (fun wq fq => Y.move) ?_
    refine DQ.y rfl rfl (fun wq fq => Y.index F.sl24 rfl rfl (rfl) (hk)) ?_
    refine DQ.y rfl rfl (fun wq fq => Y.load F.sc9 rfl (fq.cell hkc2 (by simp))) ?_
    refine DQ.call rfl rfl F.nm117 rfl (fun wq fq => texts_same _ wq) ?_
    refine DQ.y rfl rfl (fun wq fq => Y.assign) ?_
    refine DQ.nil ?_
    intro w4 f5
    replace FR := FR.tr0 f5
    replace G3 := G3.tr0 f5
    replace HG3 := HG3.tr0 f5
    replace hA := hA.fr f5 (by intro x hx; simp <;> omega)
    replace hB := hB.fr f5 (by intro x hx; simp <;> omega)
    show DC _ _ _ _ _ _
    refine DC.seq ?_
    refine DC.region ?_
    refine DL.y rfl rfl (Y.move) ?_
    refine DL.if rfl rfl (Y.ne rfl rfl) (fun c29 => ?_) (fun c29 => ?_)
    ·exfalso; omega
    ·refine DL.nil ?_
     show DC _ _ _ _ _ _
     refine DC.condF rfl ?_
     refine DC.skip ?_
     show DC _ _ _ _ _ _
     refine DC.region ?_
     refine DL.y rfl rfl (Y.move) ?_
     refine DL.y rfl rfl (Y.addI (c := ((k + 1 : Nat) : Int)) rfl rfl (by omega) (by omega) (by omega)) ?_
     refine DL.y rfl rfl (Y.assign) ?_
     refine DL.nil ?_
     exact ⟨k + 1, ⟨G3, hk⟩, by show keys.length - (k + 1) < keys.length - k; omega, rfl⟩
   ·exfalso; omega
  ·refine DL.y rfl rfl (Y.move) ?_
   refine DL.skip rfl rfl ?_
   refine DL.skip rfl rfl ?_
   refine DL.skip rfl rfl ?_
   refine DL.skip rfl rfl ?_
   refine DL.y rfl rfl (Y.pickF rfl) ?_
   refine DL.nil ?_
   show DC _ _ _ _ _ _
   refine DC.condF rfl ?_
   refine DC.exit ?_
   show DC _ _ _ _ _ _
   refine DC.seq ?_
   refine DC.region ?_
   refine DL.y rfl rfl (Y.move) ?_
   refine DL.y rfl rfl (Y.lenS Tryz.underlying24 rfl) ?_
   refine DL.y rfl rfl (Y.move) ?_
   refine DL.y rfl rfl (Y.lenS Tryz.underlying24 rfl) ?_
   refine DL.y rfl rfl (Y.subI (c := 0) rfl rfl (by omega) (by omega) (by omega)) ?_
   refine DL.y rfl rfl (Y.assign) ?_
   refine DL.nil ?_
   show DC _ _ _ _ _ _
   refine DC.ret ?_
   exact FinQ.ret1 rfl (Ret.mk FR rfl)


def CmpC (m : Nat) : Prop := ∀ (v : V) (ca cb : Array Value) (B : Nat) (w : World), v.nodes ≤ m → RV w B v ca → RV w B v cb →
  Calls Tryz.prog 69 #[.agg ca, .agg cb] w (Ret w [] fun r _ => r = .int .i64 0)

theorem lists_same (m : Nat) (ih : CmpC m) (list : List V) (a b : Option Addr) (ca cb B : Nat) (w : World) (hm : V.nodesL list ≤ m) (hA : RVL w B a list) (hB : RVL w B b list) (hn : list.length ≤ 140737488351232) :
  Calls Tryz.prog 109 #[.slice a list.length ca, .slice b list.length cb] w (Ret w [] fun v _ => v = .int .i64 0) := by
 refine calls_of Tryz.func109 rfl rfl rfl rfl ?_
 have FR := Fr.refl [] w
 refine DC.seq ?_
 refine DC.region ?_
 refine DL.y rfl rfl (Y.assign) ?_
 refine DL.nil ?_
 show DC _ _ _ _ _ _
 refine DC.seq ?_
 refine DC.seq ?_
 refine DC.region ?_
 refine DL.y rfl rfl (Y.assign) ?_
 refine DL.nil ?_
 show DC _ _ _ _ _ _
 refine DC.block ?_
 refine DC.loop (σ := Nat) [(4, 30)] (fun k => [(5, .int .i64 (k : Int))]) (fun sg wl => Fr [] w wl ∧ (fun k w' => k ≤ list.length) sg wl) (fun k => list.length - k) (0) rfl ?_ ?_ ?_
 ·exact rfl
 ·exact ⟨Fr.refl _ _, Nat.zero_le _⟩
 ·rintro k j w1 ⟨f2, hk0⟩
  replace FR := FR.tr0 f2
  replace hA := hA.fr f2 (by intro x hx; simp <;> omega)
  replace hB := hB.fr f2 (by intro x hx; simp <;> omega)
  have G3 := f2
  have HG3 := Fr.refl [] w1
  refine DC.seq ?_
  refine DC.seq ?_
  refine DC.region ?_
  refine DL.y rfl rfl (Y.move) ?_
  refine DL.y rfl rfl (Y.move) ?_
  refine DL.y rfl rfl (Y.lenS Tryz.underlying23 rfl) ?_
  refine DL.if rfl rfl (Y.lt rfl rfl) (fun c10 => ?_) (fun c10 => ?_)
  ·have hk : k < list.length := by omega
   obtain ⟨b1, o1, cl1, rfl, hb1, hc1, hz1, hr1⟩ := hA k hk
   obtain ⟨b2, o2, cl2, rfl, hb2, hc2, hz2, hr2⟩ := hB k hk
   have hle : list[k].nodes ≤ m := by have := nodes_le hk; omega
   refine DL.y rfl rfl (Y.move) ?_
   refine DL.y rfl rfl (Y.move) ?_
   refine DL.y rfl rfl (Y.move) ?_
   refine DL.y rfl rfl (Y.lenS Tryz.underlying23 rfl) ?_
   refine DL.if rfl rfl (Y.lt rfl rfl) (fun c15 => ?_) (fun c15 => ?_)
   ·refine DL.y rfl rfl (Y.pickT rfl) ?_
    refine DL.nil ?_
    show DC _ _ _ _ _ _
    refine DC.condT rfl ?_
    refine DC.skip ?_
    show DC _ _ _ _ _ _
    refine DC.seq ?_
    refine DC.block ?_
    refine DC.seq ?_
    refine DC.quiet F.mixed (by kernel_rfl) ?_
    refine DQ.y rfl rfl (fun wq fq => Y.move) ?_
    refine DQ.y rfl rfl (fun wq fq => Y.move) ?_
    refine DQ.y rfl rfl (fun wq fq => Y.index F.sl23 rfl rfl (rfl) (hk)) ?_
    refine DQ.y rfl rfl (fun wq fq => Y.loadAn hz1 F.ag26 rfl (hc1.fr fq (by simp))) ?_
    refine DQ.y rfl rfl (fun wq fq => Y.move) ?_
    refine DQ.y rfl rfl (fun wq fq => Y.move) ?_
    refine DQ.y rfl rfl (fun wq fq => Y.index F.sl23 rfl rfl (rfl) (hk)) ?_
    refine DQ.y rfl rfl (fun wq fq => Y.loadAn hz2 F.ag26 rfl (hc2.fr fq (by simp))) ?_
    refine DQ.call rfl rfl F.nm69 rfl (fun wq fq => ih list[k] cl1 cl2 B wq hle (hr1.fr fq (by intro x hx; simp)) (hr2.fr fq (by intro x hx; simp))) ?_
    refine DQ.y rfl rfl (fun wq fq => Y.assign) ?_
    refine DQ.nil ?_
    intro w4 f5
    replace FR := FR.tr0 f5
    replace G3 := G3.tr0 f5
    replace HG3 := HG3.tr0 f5
    replace hA := hA.fr f5 (by intro x hx; simp <;> omega)
    replace hB := hB.fr f5 (by intro x hx; simp <;> omega)
    show DC _ _ _ _ _ _
    refine DC.seq ?_
    refine DC.region ?_
    refine DL.y rfl rfl (Y.move) ?_
    refine DL.if rfl rfl (Y.ne rfl rfl) (fun c29 => ?_) (fun c29 => ?_)
    ·exfalso; omega
    ·refine DL.nil ?_
     show DC _ _ _ _ _ _
     refine DC.condF rfl ?_
     refine DC.skip ?_
     show DC _ _ _ _ _ _
     refine DC.region ?_
     refine DL.y rfl rfl (Y.move) ?_
     refine DL.y rfl rfl (Y.addI (c := ((k + 1 : Nat) : Int)) rfl rfl (by omega) (by omega) (by omega)) ?_
     refine DL.y rfl rfl (Y.assign) ?_
     refine DL.nil ?_
     exact ⟨k + 1, ⟨G3, hk⟩, by show list.length - (k + 1) < list.length - k; omega, rfl⟩
   ·exfalso; omega
  ·refine DL.y rfl rfl (Y.move) ?_
   refine DL.skip rfl rfl ?_
   refine DL.skip rfl rfl ?_
   refine DL.skip rfl rfl ?_
   refine DL.skip rfl rfl ?_
   refine DL.y rfl rfl (Y.pickF rfl) ?_
   refine DL.nil ?_
   show DC _ _ _ _ _ _
   refine DC.condF rfl ?_
   refine DC.exit ?_
   show DC _ _ _ _ _ _
   refine DC.seq ?_
   refine DC.region ?_
   refine DL.y rfl rfl (Y.move) ?_
   refine DL.y rfl rfl (Y.lenS Tryz.underlying23 rfl) ?_
   refine DL.y rfl rfl (Y.move) ?_
   refine DL.y rfl rfl (Y.lenS Tryz.underlying23 rfl) ?_
   refine DL.y rfl rfl (Y.subI (c := 0) rfl rfl (by omega) (by omega) (by omega)) ?_
   refine DL.y rfl rfl (Y.assign) ?_
   refine DL.nil ?_
   show DC _ _ _ _ _ _
   refine DC.ret ?_
   exact FinQ.ret1 rfl (Ret.mk FR rfl)

set_option maxHeartbeats 1000000 in
theorem cmp_step (m : Nat) (ih : CmpC m) : CmpC (m + 1) := by
 intro v ca cb B w hm hA hB
 obtain ⟨kind, half, text, list, keys, vals⟩ := v
 obtain ⟨la, lc, ka, kc, va, vc, rfl⟩ := hA.shape
 obtain ⟨lb, ld, kb, kd, vb, vd, rfl⟩ := hB.shape
 obtain ⟨bt, bl, bk, bv, bkind, bhalf⟩ := hA.bounds
 have hl : V.nodesL list ≤ m := by simp only [V.nodes] at hm; omega
 have hv : V.nodesL vals ≤ m := by simp only [V.nodes] at hm; omega
 refine calls_of Tryz.func69 rfl rfl rfl rfl ?_
 have FR := Fr.refl [] w
 refine DC.seq ?_
 refine DC.region ?_
 refine DL.boxA rfl rfl rfl ?_
 intro b2 w1 f2 lo2 hi2 hb2
 replace lo2 := Nat.le_trans FR.size lo2
 replace FR := FR.tr0 f2
 replace hA := hA.fr f2 (by intro x hx; simp <;> omega)
 replace hB := hB.fr f2 (by intro x hx; simp <;> omega)
 refine DL.boxA rfl rfl rfl ?_
 intro b3 w3 f4 lo3 hi3 hb3
 have lt_b2_b3 : b2 < b3 := Nat.lt_of_lt_of_le hi2 lo3
 replace lo3 := Nat.le_trans FR.size lo3
 replace FR := FR.tr0 f4
 replace hA := hA.fr f4 (by intro x hx; simp <;> omega)
 replace hB := hB.fr f4 (by intro x hx; simp <;> omega)
 replace hb2 := f4.blk0 hb2
 replace hi2 := Nat.lt_of_lt_of_le hi2 f4.size
 refine DL.y rfl rfl (Y.assign) ?_
 refine DL.nil ?_
 show DC _ _ _ _ _ _
 refine DC.seq ?_
 refine DC.block ?_
 refine DC.seq ?_
 refine DC.region ?_
 refine DL.y rfl rfl (Y.field F.fd26_0 rfl) ?_
 refine DL.y rfl rfl (Y.loadB F.sc22 rfl hb2 rfl) ?_
 refine DL.y rfl rfl (Y.field F.fd26_0 rfl) ?_
 refine DL.y rfl rfl (Y.loadB F.sc22 rfl hb3 rfl) ?_
 refine DL.if rfl rfl (Y.ne rfl rfl) (fun c11 => ?_) (fun c11 => ?_)
 ·exact absurd rfl c11
 ·refine DL.y rfl rfl (Y.assign) ?_
  refine DL.nil ?_
  show DC _ _ _ _ _ _
  refine DC.condF rfl ?_
  refine DC.seq ?_
  refine DC.region ?_
  refine DL.y rfl rfl (Y.field F.fd26_0 rfl) ?_
  refine DL.y rfl rfl (Y.loadB F.sc22 rfl hb2 rfl) ?_
  refine DL.if rfl rfl (Y.eq rfl rfl) (fun c21 => ?_) (fun c21 => ?_)
  ·refine DL.y rfl rfl (Y.assign) ?_
   refine DL.nil ?_
   show DC _ _ _ _ _ _
   refine DC.condT rfl ?_
   refine DC.seq ?_
   refine DC.region ?_
   refine DL.y rfl rfl (Y.field F.fd26_1 rfl) ?_
   refine DL.y rfl rfl (Y.loadB F.sc3 rfl hb2 rfl) ?_
   refine DL.y rfl rfl (Y.field F.fd26_1 rfl) ?_
   refine DL.y rfl rfl (Y.loadB F.sc3 rfl hb3 rfl) ?_
   refine DL.y rfl rfl (Y.subI (c := 0) rfl rfl (by omega) (by omega) (by omega)) ?_
   refine DL.call rfl rfl F.nm116 rfl (sign_zero _) ?_
   rintro _ w5 f6 rfl
   replace FR := FR.tr0 f6
   replace hA := hA.fr f6 (by intro x hx; simp <;> omega)
   replace hB := hB.fr f6 (by intro x hx; simp <;> omega)
   replace hb2 := f6.blk0 hb2
   replace hi2 := Nat.lt_of_lt_of_le hi2 f6.size
   replace hb3 := f6.blk0 hb3
   replace hi3 := Nat.lt_of_lt_of_le hi3 f6.size
   refine DL.y rfl rfl (Y.assign) ?_
   refine DL.nil ?_
   show DC _ _ _ _ _ _
   refine DC.ret ?_
   exact FinQ.ret1 rfl (Ret.mk FR rfl)
  ·refine DL.y rfl rfl (Y.assign) ?_
   refine DL.nil ?_
   show DC _ _ _ _ _ _
   refine DC.condF rfl ?_
   refine DC.seq ?_
   refine DC.region ?_
   refine DL.y rfl rfl (Y.field F.fd26_0 rfl) ?_
   refine DL.y rfl rfl (Y.loadB F.sc22 rfl hb2 rfl) ?_
   refine DL.if rfl rfl (Y.eq rfl rfl) (fun c31 => ?_) (fun c31 => ?_)
   ·refine DL.y rfl rfl (Y.assign) ?_
    refine DL.nil ?_
    show DC _ _ _ _ _ _
    refine DC.condT rfl ?_
    refine DC.seq ?_
    refine DC.region ?_
    refine DL.y rfl rfl (Y.field F.fd26_2 rfl) ?_
    refine DL.y rfl rfl (Y.loadB F.sc9 rfl hb2 rfl) ?_
    refine DL.y rfl rfl (Y.field F.fd26_2 rfl) ?_
    refine DL.y rfl rfl (Y.loadB F.sc9 rfl hb3 rfl) ?_
    refine DL.call rfl rfl F.nm117 rfl (texts_same _ _) ?_
    rintro _ w7 f8 rfl
    replace FR := FR.tr0 f8
    replace hA := hA.fr f8 (by intro x hx; simp <;> omega)
    replace hB := hB.fr f8 (by intro x hx; simp <;> omega)
    replace hb2 := f8.blk0 hb2
    replace hi2 := Nat.lt_of_lt_of_le hi2 f8.size
    replace hb3 := f8.blk0 hb3
    replace hi3 := Nat.lt_of_lt_of_le hi3 f8.size
    refine DL.y rfl rfl (Y.assign) ?_
    refine DL.nil ?_
    show DC _ _ _ _ _ _
    refine DC.ret ?_
    exact FinQ.ret1 rfl (Ret.mk FR rfl)
   ·refine DL.y rfl rfl (Y.assign) ?_
    refine DL.nil ?_
    show DC _ _ _ _ _ _
    refine DC.condF rfl ?_
    refine DC.seq ?_
    refine DC.region ?_
    refine DL.y rfl rfl (Y.field F.fd26_0 rfl) ?_
    refine DL.y rfl rfl (Y.loadB F.sc22 rfl hb2 rfl) ?_
    refine DL.if rfl rfl (Y.eq rfl rfl) (fun c40 => ?_) (fun c40 => ?_)
    ·refine DL.y rfl rfl (Y.assign) ?_
     refine DL.nil ?_
     show DC _ _ _ _ _ _
     refine DC.condT rfl ?_
     refine DC.seq ?_
     refine DC.region ?_
     refine DL.y rfl rfl (Y.field F.fd26_3 rfl) ?_
     refine DL.y rfl rfl (Y.loadB F.sc23 rfl hb2 rfl) ?_
     refine DL.y rfl rfl (Y.field F.fd26_3 rfl) ?_
     refine DL.y rfl rfl (Y.loadB F.sc23 rfl hb3 rfl) ?_
     refine DL.call rfl rfl F.nm109 rfl (lists_same m ih list _ _ _ _ B _ hl hA.lists hB.lists bl) ?_
     rintro _ w9 f10 rfl
     replace FR := FR.tr0 f10
     replace hA := hA.fr f10 (by intro x hx; simp <;> omega)
     replace hB := hB.fr f10 (by intro x hx; simp <;> omega)
     replace hb2 := f10.blk0 hb2
     replace hi2 := Nat.lt_of_lt_of_le hi2 f10.size
     replace hb3 := f10.blk0 hb3
     replace hi3 := Nat.lt_of_lt_of_le hi3 f10.size
     refine DL.call rfl rfl F.nm116 rfl (sign_zero _) ?_
     rintro _ w11 f12 rfl
     replace FR := FR.tr0 f12
     replace hA := hA.fr f12 (by intro x hx; simp <;> omega)
     replace hB := hB.fr f12 (by intro x hx; simp <;> omega)
     replace hb2 := f12.blk0 hb2
     replace hi2 := Nat.lt_of_lt_of_le hi2 f12.size
     replace hb3 := f12.blk0 hb3
     replace hi3 := Nat.lt_of_lt_of_le hi3 f12.size
     refine DL.y rfl rfl (Y.assign) ?_
     refine DL.nil ?_
     show DC _ _ _ _ _ _
     refine DC.ret ?_
     exact FinQ.ret1 rfl (Ret.mk FR rfl)
    ·refine DL.y rfl rfl (Y.assign) ?_
     refine DL.nil ?_
     show DC _ _ _ _ _ _
     refine DC.condF rfl ?_
     refine DC.seq ?_
     refine DC.region ?_
     refine DL.y rfl rfl (Y.field F.fd26_0 rfl) ?_
     refine DL.y rfl rfl (Y.loadB F.sc22 rfl hb2 rfl) ?_
     refine DL.if rfl rfl (Y.eq rfl rfl) (fun c50 => ?_) (fun c50 => ?_)
     ·refine DL.y rfl rfl (Y.assign) ?_
      refine DL.nil ?_
      show DC _ _ _ _ _ _
      refine DC.condT rfl ?_
      refine DC.seq ?_
      refine DC.seq ?_
      refine DC.region ?_
      refine DL.y rfl rfl (Y.field F.fd26_4 rfl) ?_
      refine DL.y rfl rfl (Y.loadB F.sc24 rfl hb2 rfl) ?_
      refine DL.y rfl rfl (Y.field F.fd26_4 rfl) ?_
      refine DL.y rfl rfl (Y.loadB F.sc24 rfl hb3 rfl) ?_
      refine DL.call rfl rfl F.nm118 rfl (keys_same keys _ _ _ _ B _ hA.keys hB.keys bk) ?_
      rintro _ w13 f14 rfl
      replace FR := FR.tr0 f14
      replace hA := hA.fr f14 (by intro x hx; simp <;> omega)
      replace hB := hB.fr f14 (by intro x hx; simp <;> omega)
      replace hb2 := f14.blk0 hb2
      replace hi2 := Nat.lt_of_lt_of_le hi2 f14.size
      replace hb3 := f14.blk0 hb3
      replace hi3 := Nat.lt_of_lt_of_le hi3 f14.size
      refine DL.y rfl rfl (Y.assign) ?_
      refine DL.nil ?_
      show DC _ _ _ _ _ _
      refine DC.seq ?_
      refine DC.region ?_
      refine DL.y rfl rfl (Y.move) ?_
      refine DL.if rfl rfl (Y.ne rfl rfl) (fun c57 => ?_) (fun c57 => ?_)
      ·exfalso; omega
      ·refine DL.nil ?_
       show DC _ _ _ _ _ _
       refine DC.condF rfl ?_
       refine DC.skip ?_
       show DC _ _ _ _ _ _
       refine DC.seq ?_
       refine DC.region ?_
       refine DL.y rfl rfl (Y.field F.fd26_5 rfl) ?_
       refine DL.y rfl rfl (Y.loadB F.sc23 rfl hb2 rfl) ?_
       refine DL.y rfl rfl (Y.field F.fd26_5 rfl) ?_
       refine DL.y rfl rfl (Y.loadB F.sc23 rfl hb3 rfl) ?_
       refine DL.call rfl rfl F.nm109 rfl (lists_same m ih vals _ _ _ _ B _ hv hA.valss hB.valss bv) ?_
       rintro _ w15 f16 rfl
       replace FR := FR.tr0 f16
       replace hA := hA.fr f16 (by intro x hx; simp <;> omega)
       replace hB := hB.fr f16 (by intro x hx; simp <;> omega)
       replace hb2 := f16.blk0 hb2
       replace hi2 := Nat.lt_of_lt_of_le hi2 f16.size
       replace hb3 := f16.blk0 hb3
       replace hi3 := Nat.lt_of_lt_of_le hi3 f16.size
       refine DL.call rfl rfl F.nm116 rfl (sign_zero _) ?_
       rintro _ w17 f18 rfl
       replace FR := FR.tr0 f18
       replace hA := hA.fr f18 (by intro x hx; simp <;> omega)
       replace hB := hB.fr f18 (by intro x hx; simp <;> omega)
       replace hb2 := f18.blk0 hb2
       replace hi2 := Nat.lt_of_lt_of_le hi2 f18.size
       replace hb3 := f18.blk0 hb3
       replace hi3 := Nat.lt_of_lt_of_le hi3 f18.size
       refine DL.y rfl rfl (Y.assign) ?_
       refine DL.nil ?_
       show DC _ _ _ _ _ _
       refine DC.ret ?_
       exact FinQ.ret1 rfl (Ret.mk FR rfl)
     ·refine DL.y rfl rfl (Y.assign) ?_
      refine DL.nil ?_
      show DC _ _ _ _ _ _
      refine DC.condF rfl ?_
      refine DC.skip ?_
      show DC _ _ _ _ _ _
      refine DC.seq ?_
      refine DC.region ?_
      refine DL.y rfl rfl (Y.assign) ?_
      refine DL.nil ?_
      show DC _ _ _ _ _ _
      refine DC.ret ?_
      exact FinQ.ret1 rfl (Ret.mk FR rfl)


theorem cmp_any : ∀ m, CmpC m
 | 0 => fun v ca cb B w hm => by have := nodes_pos v; omega
 | m + 1 => cmp_step m (cmp_any m)

theorem same_any (v : V) (ca cb : Array Value) (B : Nat) (w : World) (hA : RV w B v ca) (hB : RV w B v cb) : Calls Tryz.prog 35 #[.agg ca, .agg cb] w (Ret w [] fun r _ => r = .bool true) := by
 have sa := hA.size
 have sb := hB.size
 obtain ⟨kind, half, text, list, keys, vals⟩ := v
 obtain ⟨la, lc, ka, kc, va, vc, rfl⟩ := hA.shape
 obtain ⟨lb, ld, kb, kd, vb, vd, rfl⟩ := hB.shape
 refine calls_of Tryz.func35 rfl rfl rfl rfl ?_
 have FR := Fr.refl [] w
 refine DC.seq ?_
 refine DC.region ?_
 refine DL.boxA rfl rfl rfl ?_
 intro b2 w1 f2 lo2 hi2 hb2
 replace lo2 := Nat.le_trans FR.size lo2
 replace FR := FR.tr0 f2
 replace hA := hA.fr f2 (by intro x hx; simp <;> omega)
 replace hB := hB.fr f2 (by intro x hx; simp <;> omega)
 refine DL.boxA rfl rfl rfl ?_
 intro b3 w3 f4 lo3 hi3 hb3
 have lt_b2_b3 : b2 < b3 := Nat.lt_of_lt_of_le hi2 lo3
 replace lo3 := Nat.le_trans FR.size lo3
 replace FR := FR.tr0 f4
 replace hA := hA.fr f4 (by intro x hx; simp <;> omega)
 replace hB := hB.fr f4 (by intro x hx; simp <;> omega)
 replace hb2 := f4.blk0 hb2
 replace hi2 := Nat.lt_of_lt_of_le hi2 f4.size
 refine DL.y rfl rfl (Y.assign) ?_
 refine DL.nil ?_
 show DC _ _ _ _ _ _
 refine DC.seq ?_
 refine DC.region ?_
 refine DL.y rfl rfl (Y.loadW rfl hb2 F.ag26) ?_
 refine DL.y rfl rfl (Y.loadW rfl hb3 F.ag26) ?_
 refine DL.call rfl rfl F.nm69 rfl (cmp_any _ _ _ _ B _ (Nat.le_refl _) hA hB) ?_
 rintro _ w5 f6 rfl
 replace FR := FR.tr0 f6
 replace hA := hA.fr f6 (by intro x hx; simp <;> omega)
 replace hB := hB.fr f6 (by intro x hx; simp <;> omega)
 replace hb2 := f6.blk0 hb2
 replace hi2 := Nat.lt_of_lt_of_le hi2 f6.size
 replace hb3 := f6.blk0 hb3
 replace hi3 := Nat.lt_of_lt_of_le hi3 f6.size
 refine DL.if rfl rfl (Y.eq rfl rfl) (fun c8 => ?_) (fun c8 => ?_)
 ·refine DL.y rfl rfl (Y.assign) ?_
  refine DL.nil ?_
  show DC _ _ _ _ _ _
  refine DC.ret ?_
  exact FinQ.ret1 rfl (Ret.mk FR rfl)
 ·exfalso; omega

end Go.Proofs.YtmbleojlnaofjaaGreatDoor

/- Trees of values whose blocks lie where a predicate says; rows of them that are collected. -/
namespace Go.Proofs.YtmbleojlnaofjaaGreatDoor
open Go Go.RowKit D
set_option linter.unusedVariables false
set_option linter.unusedSimpArgs false
inductive RVD (w : World) (D : Nat → Prop) : V → Array Value → Prop
 | mk {kind half : Int} {text : ByteArray} {list : List V} {keys : List ByteArray} {vals : List V} {la ka va : Option Addr} {lc kc vc : Nat} (cl cv : Nat → Array Value)
   (hk : -9223372036854775808 ≤ kind ∧ kind ≤ 9223372036854775807) (hh : -9223372036854775808 ≤ half ∧ half ≤ 9223372036854775807) (ht : text.size ≤ 140737488351232)
   (ln : list.length ≤ 140737488351232) (kn : keys.length ≤ 140737488351232) (vn : vals.length ≤ 140737488351232) (ks : ∀ k ∈ keys, k.size ≤ 140737488351232)
   (hl : RowD w D la list.length 6 cl) (rl : ∀ (i : Nat) (h : i < list.length), RVD w D list[i] (cl i))
   (hks : RowD w D ka keys.length 1 (strCells keys))
   (hv : RowD w D va vals.length 6 cv) (rv : ∀ (i : Nat) (h : i < vals.length), RVD w D vals[i] (cv i)) :
   RVD w D (.mk kind half text list keys vals) #[.int .i64 kind, .int .i64 half, .string text, .slice la list.length lc, .slice ka keys.length kc, .slice va vals.length vc]
theorem RVD.fr {S : List Nat} {w w' : World} {D : Nat → Prop} {v : V} {cs : Array Value} (h : RVD w D v cs) (f : Fr S w w') (hs : ∀ b, D b → b ∉ S) : RVD w' D v cs := by
 induction h with
 | mk cl cv hk hh ht ln kn vn ks hl rl hks hv rv ih1 ih2 => exact .mk cl cv hk hh ht ln kn vn ks (hl.fr f hs) ih1 (hks.fr f hs) (hv.fr f hs) ih2
theorem RVD.mono {w : World} {D D' : Nat → Prop} {v : V} {cs : Array Value} (h : RVD w D v cs) (hd : ∀ b, D b → D' b) : RVD w D' v cs := by
 induction h with
 | mk cl cv hk hh ht ln kn vn ks hl rl hks hv rv ih1 ih2 => exact .mk cl cv hk hh ht ln kn vn ks (hl.mono hd) ih1 (hks.mono hd) (hv.mono hd) ih2
theorem RVD.size {w : World} {D : Nat → Prop} {v : V} {cs : Array Value} (h : RVD w D v cs) : cs.size = 6 := by cases h; rfl
theorem RVD.one {w : World} {D : Nat → Prop} {v : V} {cs : Array Value} (h : RVD w D v cs) : cs.all (·.oneCell') = true := by cases h; simp [Value.oneCell']
theorem RowD.toRow {w : World} {D : Nat → Prop} {B : Nat} {a : Option Addr} {n sz : Nat} {cl : Nat → Array Value} (h : RowD w D a n sz cl) (hd : ∀ b, D b → b < B) : Row w B a n sz cl :=
 fun i hi => let ⟨b, o, h1, h2, h3, h4⟩ := h i hi; ⟨b, o, h1, hd b h2, h3, h4⟩
theorem RVD.toRV {w : World} {D : Nat → Prop} {B : Nat} {v : V} {cs : Array Value} (h : RVD w D v cs) (hd : ∀ b, D b → b < B) : RV w B v cs := by
 induction h with
 | mk cl cv hk hh ht ln kn vn ks hl rl hks hv rv ih1 ih2 => exact .mk cl cv hk hh ht ln kn vn ks (hl.toRow hd) ih1 (hks.toRow hd) (hv.toRow hd) ih2
theorem RV.toD {w : World} {B : Nat} {v : V} {cs : Array Value} (h : RV w B v cs) : RVD w (· < B) v cs := by
 induction h with
 | mk cl cv hk hh ht ln kn vn ks hl rl hks hv rv ih1 ih2 => exact .mk cl cv hk hh ht ln kn vn ks hl ih1 hks hv ih2
theorem RV.lt {w : World} {B B' : Nat} {v : V} {cs : Array Value} (h : RV w B v cs) (hb : B ≤ B') : RV w B' v cs := h.toD.toRV (fun b h => Nat.lt_of_lt_of_le h hb)
/-- What lies in a world lies below its end. -/
theorem RVD.live {w : World} {D : Nat → Prop} {v : V} {cs : Array Value} (h : RVD w D v cs) : RV w w.heap.size v cs := by
 have row : ∀ {a : Option Addr} {n sz : Nat} {cl : Nat → Array Value}, 0 < sz → RowD w D a n sz cl → Row w w.heap.size a n sz cl := fun hz h i hi => by
  obtain ⟨b, o, h1, h2, h3, h4⟩ := h i hi
  refine ⟨b, o, h1, ?_, h3, h4⟩
  have := h3.cell 0 (v := (_ : Array Value)[0]'(by rw [h4]; exact hz)) (by simp [h4, hz])
  exact World.block_lt_of_cell? w _ this
 induction h with
 | mk cl cv hk hh ht ln kn vn ks hl rl hks hv rv ih1 ih2 => exact .mk cl cv hk hh ht ln kn vn ks (row (by decide) hl) ih1 (row (by decide) hks) (row (by decide) hv) ih2

/-! ### What is collected: cells of values -/
def flatC (css : List (Array Value)) : List Value := css.flatMap (·.toList)
theorem flatC_snoc (css : List (Array Value)) (c : Array Value) : flatC (css ++ [c]) = flatC css ++ c.toList := by simp [flatC]
theorem flatC_get {sz : Nat} : ∀ {css : List (Array Value)}, (∀ c ∈ css, c.size = sz) → ∀ (i j : Nat) (hi : i < css.length), j < sz → (flatC css)[i * sz + j]? = css[i][j]?
 | [], _, i, j, hi, _ => by cases hi
 | c :: css, h, i, j, hi, hj => by
  have hc : c.size = sz := h c (by simp)
  have hcl : c.toList.length = sz := by simpa using hc
  cases i with
  | zero =>
   simp only [flatC, List.flatMap_cons, Nat.zero_mul, Nat.zero_add, List.getElem_cons_zero]
   rw [List.getElem?_append_left (by omega)]; simp
  | succ i =>
   have := flatC_get (sz := sz) (css := css) (fun c hc => h c (by simp [hc])) i j (by simpa using hi) hj
   simp only [flatC] at this
   simp only [flatC, List.flatMap_cons, List.getElem_cons_succ]
   rw [List.getElem?_append_right (by rw [hcl, Nat.succ_mul]; omega), hcl, ← this]
   congr 1
   rw [Nat.succ_mul]; omega
theorem flatC_len {sz : Nat} : ∀ {css : List (Array Value)}, (∀ c ∈ css, c.size = sz) → (flatC css).length = css.length * sz
 | [], _ => by simp [flatC]
 | c :: css, h => by
  have hc : c.toList.length = sz := by simpa using h c (by simp)
  have := flatC_len (sz := sz) (css := css) (fun c hc => h c (by simp [hc]))
  simp only [flatC] at this
  simp only [flatC, List.flatMap_cons, List.length_append, List.length_cons, this, hc]
  rw [Nat.succ_mul]; omega
/-- A row that is owned is a row. -/
theorem row_of_own {w : World} {B e sz n : Nat} {v : Value} {css : List (Array Value)} (h : w.ownsRow B e sz v n (flatC css)) (hs : ∀ c ∈ css, c.size = sz) (hn : css.length = n) (hz : 0 < sz) :
  ∃ a c, v = .slice a n c ∧ RowD w (fun b => v.ownBlock = some b) a n sz (fun i => css.getD i #[]) := by
 obtain ⟨a, cap, rfl, hl, hc⟩ := own_cells h
 refine ⟨a, cap, rfl, fun i hi => ?_⟩
 obtain ⟨b, rfl, hb1, hb2, hcell⟩ := hc i hi
 have hi' : i < css.length := by omega
 have hci : css[i].size = sz := hs _ (List.getElem_mem hi')
 refine ⟨b, 0, rfl, rfl, fun j hj => ?_, by simp [List.getD_eq_getElem?_getD, hi', hci]⟩
 have hj' : j < sz := by simpa [List.getD_eq_getElem?_getD, hi', hci] using hj
 have := hcell j hj'
 rw [flatC_get hs i j hi' hj'] at this
 simp only [List.getD_eq_getElem?_getD, List.getElem?_eq_getElem hi', Option.getD_some, Nat.zero_add]
 exact this

/-! ### A row of values that is collected -/
/-- The values of l met so far (css: their cells) lie in an own row from B on; all their blocks lie in [B, H), none is the row's own, none is of X. -/
structure ColV (w : World) (VT B H : Nat) (X : Nat → Prop) (l : List V) (k : Nat) (sl : Value) (css : List (Array Value)) : Prop where
 len : css.length = k
 own : w.ownsRow B VT 6 sl k (flatC css)
 lt : ∀ b, sl.ownBlock = some b → b < H ∧ ¬ X b
 six : ∀ c ∈ css, c.size = 6
 rv : ∀ (i : Nat) (h1 : i < css.length) (h2 : i < l.length), RVD w (fun b => B ≤ b ∧ b < H ∧ sl.ownBlock ≠ some b ∧ ¬ X b) l[i] css[i]
section
variable {S : List Nat} {w w' : World} {VT B H k : Nat} {X : Nat → Prop} {l : List V} {sl : Value} {css : List (Array Value)}
theorem ColV.nil (w : World) (VT B H : Nat) (X : Nat → Prop) (l : List V) : ColV w VT B H X l 0 (.slice none 0 0) [] :=
 ⟨rfl, World.ownsRow_nil _ _ _ _, (fun b h => by simp [Value.ownBlock] at h), (fun c h => by cases h), (fun i h => by cases h)⟩
theorem ColV.fr (h : ColV w VT B H X l k sl css) (f : Fr S w w') (hs : ∀ b ∈ S, b < B ∨ H ≤ b ∨ X b) : ColV w' VT B H X l k sl css := by
 refine ⟨h.len, ownsRow_fr h.own f (fun b hb hv => ?_), h.lt, h.six, fun i h1 h2 => (h.rv i h1 h2).fr f (fun b hb hm => ?_)⟩
 ·have h1 := h.lt b hv
  have h2 := (own_ge h.own b (mem_ownL.2 hv)).1
  rcases hs b hb with h | h | h
  ·omega
  ·omega
  ·exact h1.2 h
 ·rcases hs b hm with h | h | h
  ·omega
  ·omega
  ·exact hb.2.2.2 h
theorem ColV.up {H' : Nat} (h : ColV w VT B H X l k sl css) (hh : H ≤ H') : ColV w VT B H' X l k sl css :=
 ⟨h.len, h.own, fun b hb => ⟨Nat.lt_of_lt_of_le (h.lt b hb).1 hh, (h.lt b hb).2⟩, h.six, fun i h1 h2 => (h.rv i h1 h2).mono (fun b hb => ⟨hb.1, Nat.lt_of_lt_of_le hb.2.1 hh, hb.2.2⟩)⟩
theorem ColV.base {B' : Nat} (h : ColV w VT B H X l k sl css) (hh : B' ≤ B) : ColV w VT B' H X l k sl css :=
 ⟨h.len, own_base h.own hh, h.lt, h.six, fun i h1 h2 => (h.rv i h1 h2).mono (fun b hb => ⟨Nat.le_trans hh hb.1, hb.2⟩)⟩
theorem ColV.exch {X' : Nat → Prop} (h : ColV w VT B H X l k sl css) (hx : ∀ b, b < H → ¬ X b → ¬ X' b) : ColV w VT B H X' l k sl css :=
 ⟨h.len, h.own, fun b hb => ⟨(h.lt b hb).1, hx b (h.lt b hb).1 (h.lt b hb).2⟩, h.six, fun i h1 h2 => (h.rv i h1 h2).mono (fun b hb => ⟨hb.1, hb.2.1, hb.2.2.1, hx b hb.2.1 hb.2.2.2⟩)⟩
/-- One more. -/
theorem ColV.snoc {sl' : Value} {ce : Array Value} (h : ColV w VT B H X l k sl css) (hk : k < l.length) (hH : H ≤ w.heap.size)
  (hce : RVD w (fun b => B ≤ b ∧ b < w.heap.size ∧ sl.ownBlock ≠ some b ∧ ¬ X b) l[k] ce) (hX : ¬ X w.heap.size) (f : Fr (ownL sl) w w') (ho : w'.ownsRow B VT 6 sl' (k + 1) (flatC css ++ ce.toList)) (hat : sl'.ownBlock = sl.ownBlock ∨ sl'.ownBlock = some w.heap.size) :
  ColV w' VT B w'.heap.size X l (k + 1) sl' (css ++ [ce]) := by
 have hsz := f.size
 have hnew : ∀ b, b < w.heap.size → sl.ownBlock ≠ some b → sl'.ownBlock ≠ some b := fun b hb hne => by
  rcases hat with h1 | h1
  ·rw [h1]; exact hne
  ·rw [h1]; intro h2; cases h2; omega
 refine ⟨by simp [h.len], by rw [flatC_snoc]; exact ho, fun b hb => ⟨(own_ge ho b (mem_ownL.2 hb)).2, ?_⟩, fun c hc => ?_, fun i h1 h2 => ?_⟩
 ·rcases hat with h1 | h1
  ·exact (h.lt b (h1 ▸ hb)).2
  ·rw [h1] at hb; cases hb; exact hX
 ·rcases List.mem_append.1 hc with hc | hc
  ·exact h.six c hc
  ·rw [List.mem_singleton.1 hc]; exact hce.size
 ·by_cases hi' : i < css.length
  ·have e : (css ++ [ce])[i] = css[i] := List.getElem_append_left hi'
   rw [e]
   refine ((h.rv i hi' h2).fr f (fun b hb hm => hb.2.2.1 (mem_ownL.1 hm))).mono (fun b hb => ⟨hb.1, by omega, hnew b (by omega) hb.2.2.1, hb.2.2.2⟩)
  ·have hik : i = k := by simp only [List.length_append, List.length_singleton] at h1; have := h.len; omega
   subst hik
   have e : (css ++ [ce])[i] = ce := by rw [List.getElem_append_right (by omega)]; simp [h.len]
   rw [e]
   exact (hce.fr f (fun b hb hm => hb.2.2.1 (mem_ownL.1 hm))).mono (fun b hb => ⟨hb.1, by omega, hnew b (by omega) hb.2.2.1, hb.2.2.2⟩)
theorem ColV.done (h : ColV w VT B H X l l.length sl css) :
  ∃ a c, sl = .slice a l.length c ∧ RowD w (fun b => B ≤ b ∧ b < H) a l.length 6 (fun i => css.getD i #[]) ∧ ∀ (i : Nat) (hi : i < l.length), RVD w (fun b => B ≤ b ∧ b < H) l[i] (css.getD i #[]) := by
 obtain ⟨a, c, hv, hr⟩ := row_of_own h.own h.six h.len (by decide)
 refine ⟨a, c, hv, hr.mono (fun b hb => ⟨(own_ge h.own b (mem_ownL.2 hb)).1, (h.lt b hb).1⟩), fun i hi => ?_⟩
 have hi' : i < css.length := by rw [h.len]; exact hi
 have e : css.getD i #[] = css[i] := by simp [List.getD_eq_getElem?_getD, hi']
 rw [e]
 exact (h.rv i hi' hi).mono (fun b hb => ⟨hb.1, hb.2.1⟩)
theorem ColV.one (h : ColV w VT B H X l k sl css) : sl.oneCell' = true := by
 obtain ⟨a, c, rfl, _⟩ := own_cells h.own; rfl
end
/-- Keys and values that are collected side by side. -/
structure KV (w : World) (VT St B H : Nat) (keys : List ByteArray) (k1 : Nat) (slk : Value) (vals : List V) (k2 : Nat) (slv : Value) (css : List (Array Value)) : Prop where
 ko : w.ownsRow B St 1 slk k1 ((keys.take k1).map Value.string)
 kl : ∀ b, slk.ownBlock = some b → b < H
 vo : ColV w VT B H (fun b => slk.ownBlock = some b) vals k2 slv css
section
variable {S : List Nat} {w w' : World} {VT St B H k1 k2 : Nat} {keys : List ByteArray} {slk slv slk' slv' : Value} {vals : List V} {css : List (Array Value)} {ce : Array Value}
theorem KV.nil (w : World) (VT St B H : Nat) (keys : List ByteArray) (vals : List V) : KV w VT St B H keys 0 (.slice none 0 0) vals 0 (.slice none 0 0) [] :=
 ⟨World.ownsRow_nil _ _ _ _, (fun b h => by simp [Value.ownBlock] at h), ColV.nil _ _ _ _ _ _⟩
theorem KV.fr (h : KV w VT St B H keys k1 slk vals k2 slv css) (f : Fr S w w') (hs : ∀ b ∈ S, b < B ∨ H ≤ b) : KV w' VT St B H keys k1 slk vals k2 slv css := by
 refine ⟨ownsRow_fr h.ko f (fun b hb hv => ?_), h.kl, h.vo.fr f (fun b hb => by rcases hs b hb with h | h; exact Or.inl h; exact Or.inr (Or.inl h))⟩
 have h1 := h.kl b hv
 have h2 := (own_ge h.ko b (mem_ownL.2 hv)).1
 have := hs b hb
 omega
theorem KV.up {H' : Nat} (h : KV w VT St B H keys k1 slk vals k2 slv css) (hh : H ≤ H') : KV w VT St B H' keys k1 slk vals k2 slv css :=
 ⟨h.ko, fun b hb => Nat.lt_of_lt_of_le (h.kl b hb) hh, h.vo.up hh⟩
theorem KV.addK (h : KV w VT St B w.heap.size keys k1 slk vals k2 slv css) (hk : k1 < keys.length) (f : Fr (ownL slk) w w') (ho : w'.ownsRow B St 1 slk' (k1 + 1) ((keys.take k1).map Value.string ++ [Value.string keys[k1]])) (hat : slk'.ownBlock = slk.ownBlock ∨ slk'.ownBlock = some w.heap.size) :
  KV w' VT St B w'.heap.size keys (k1 + 1) slk' vals k2 slv css := by
 refine ⟨by rw [List.take_succ_eq_append_getElem hk, List.map_append]; exact ho, fun b hb => (own_ge ho b (mem_ownL.2 hb)).2, ((h.vo.fr f (fun b hb => Or.inr (Or.inr (mem_ownL.1 hb)))).exch (fun b hb hn => ?_)).up f.size⟩
 rcases hat with h1 | h1
 ·rw [h1]; exact hn
 ·rw [h1]; intro h2; cases h2; omega
theorem KV.addV (h : KV w VT St B w.heap.size keys k1 slk vals k2 slv css) (hk : k2 < vals.length) (hce : RVD w (fun b => B ≤ b ∧ b < w.heap.size ∧ slv.ownBlock ≠ some b ∧ ¬ slk.ownBlock = some b) vals[k2] ce) (f : Fr (ownL slv) w w') (ho : w'.ownsRow B VT 6 slv' (k2 + 1) (flatC css ++ ce.toList)) (hat : slv'.ownBlock = slv.ownBlock ∨ slv'.ownBlock = some w.heap.size) :
  KV w' VT St B w'.heap.size keys k1 slk vals (k2 + 1) slv' (css ++ [ce]) := by
 refine ⟨ownsRow_fr h.ko f (fun b hb hv => (h.vo.lt b (mem_ownL.1 hb)).2 hv), fun b hb => Nat.lt_of_lt_of_le (h.kl b hb) f.size, h.vo.snoc hk (Nat.le_refl _) hce (fun hx => Nat.lt_irrefl _ (h.kl _ hx)) f ho hat⟩
/-- An element that waits while the keys grow. -/
theorem off_addK {v : V} (h : RVD w (fun b => B ≤ b ∧ b < w.heap.size ∧ slv.ownBlock ≠ some b ∧ ¬ slk.ownBlock = some b) v ce) (f : Fr (ownL slk) w w') (hat : slk'.ownBlock = slk.ownBlock ∨ slk'.ownBlock = some w.heap.size) :
  RVD w' (fun b => B ≤ b ∧ b < w'.heap.size ∧ slv.ownBlock ≠ some b ∧ ¬ slk'.ownBlock = some b) v ce := by
 have hsz := f.size
 refine (h.fr f (fun b hb hm => hb.2.2.2 (mem_ownL.1 hm))).mono (fun b hb => ⟨hb.1, by omega, hb.2.2.1, ?_⟩)
 rcases hat with h1 | h1
 ·rw [h1]; exact hb.2.2.2
 ·rw [h1]; intro h2; cases h2; omega
theorem off_new {v : V} {a b : Value} (h : RVD w (fun x => B ≤ x ∧ x < w.heap.size ∧ a.ownBlock ≠ some x ∧ ¬ b.ownBlock = some x) v ce) (f : Fr [] w w') : RVD w' (fun x => B ≤ x ∧ x < w'.heap.size ∧ a.ownBlock ≠ some x ∧ ¬ b.ownBlock = some x) v ce :=
 (h.fr f (fun b hb hm => by cases hm)).mono (fun x hx => ⟨hx.1, Nat.lt_of_lt_of_le hx.2.1 f.size, hx.2.2⟩)
end
/-- What is collected of texts. -/
theorem row_keys {w : World} {St B H : Nat} {keys : List ByteArray} {sl : Value} (h : w.ownsRow B St 1 sl keys.length (keys.map Value.string)) (hlt : ∀ b, sl.ownBlock = some b → b < H) :
  ∃ a c, sl = .slice a keys.length c ∧ RowD w (fun b => B ≤ b ∧ b < H) a keys.length 1 (strCells keys) := by
 obtain ⟨a, cap, rfl, hl, hc⟩ := own_cells h
 refine ⟨a, cap, rfl, fun i hi => ?_⟩
 obtain ⟨b, rfl, hb1, hb2, hcell⟩ := hc i hi
 refine ⟨b, 0, rfl, ⟨hb1, hlt b rfl⟩, fun j hj => ?_, rfl⟩
 have hj0 : j = 0 := by have : j < 1 := hj; omega
 subst hj0
 have := hcell 0 (by omega)
 rw [Nat.zero_add]
 rw [this]
 simp [strCells, hi]
/-- What a list of the program's own values is, with what lies behind it. -/
structure InL (w : World) (D : Nat → Prop) (a : Option Addr) (l : List V) (xs : Nat → Value) : Prop where
 row : RowD w D a l.length 1 (fun i => #[xs i])
 gv : ∀ (i : Nat) (h : i < l.length), GV w D l[i] (xs i)
theorem InL.fr {S : List Nat} {w w' : World} {D : Nat → Prop} {a : Option Addr} {l : List V} {xs : Nat → Value} (h : InL w D a l xs) (f : Fr S w w') (hs : ∀ b, D b → b ∉ S) : InL w' D a l xs := ⟨h.row.fr f hs, fun i hi => (h.gv i hi).fr f hs⟩
theorem bytes_le {l : List V} {k : Nat} (h : k < l.length) : l[k].bytes ≤ V.bytesL l := by
 induction l generalizing k with
 | nil => cases h
 | cons v l ih =>
  cases k with
  | zero => simp [V.bytesL]
  | succ k => have := ih (k := k) (by simpa using h); simp only [List.getElem_cons_succ, V.bytesL]; omega
theorem key_le {l : List ByteArray} {s : ByteArray} (h : s ∈ l) : s.size ≤ bytesK l := by
 induction l with
 | nil => cases h
 | cons v l ih =>
  rcases List.mem_cons.1 h with rfl | h
  ·simp [bytesK]
  ·have := ih h; simp only [bytesK, List.map_cons, List.sum_cons] at this ⊢; omega

/-! ### append, with the place of the new slice -/
namespace D
section
variable {P : Program} {n : Nat} {e : Env} {w : World} {ops rest : List Oper} {K : Env → World → Prop} {ty : TypeId} {pos : String} {af : Array Edge} {g : Option (Nat × Bool)}
theorem DL.appendAt {s x : Operand} {t el size bytes d B m c N b o : Nat} {v : Value} {xs : List Value} {news : Array Value} (hg : wantB ops e g = true) (hn : Nat.blt d n = true) (ht : eltT P t el size bytes = true) (hs : ev e s = v) (hx : ev e x = .slice (some ⟨b, o, none⟩) m c)
  (hown : w.ownsRow B el size v N xs) (hb : CellsAt w b o news) (hl : news.size = m * size) (h1 : news.all (·.oneCell') = true) (hby : (N + m) * bytes ≤ 140737488355328) (hm : N + m ≤ 9223372036854775807) (hB : B ≤ w.heap.size)
  (k : ∀ v' w', Fr (ownL v) w w' → w'.ownsRow B el size v' (N + m) (xs ++ news.toList) → (v'.ownBlock = v.ownBlock ∨ v'.ownBlock = some w.heap.size) → DL P n ops rest (upd e d v') w' K) :
  DL P n ops (⟨some d, .call ⟨.builtin .append, #[s, x], #[t, t]⟩, ty, pos, af, g⟩ :: rest) e w K := by
 obtain ⟨i, z, k1, k2, k3, k4, k5, k6, k7, k8⟩ := eltT_spec ht
 obtain ⟨v', w', hrun, ho, hgr, _, hat⟩ := run_append_own_at (P := P) w B t ty el i z size bytes k1 k2 k5 k3 k4 k6 k7 v N xs hown ⟨b, o, none⟩ m c news.toList (by simpa using hl)
  (fun j u hj => by
   have hj' : j < news.size := by have := (List.getElem?_eq_some_iff.1 hj).1; simpa using this
   have := hb j hj'
   rw [add_addr, this, ← hj]; simp)
  (fun u hu => by
   obtain ⟨j, hj, rfl⟩ := List.getElem_of_mem hu
   have := Array.all_eq_true.1 h1 j (by simpa using hj)
   simpa using this) (by simp only [maxLen]; exact hm) hby hB
 refine DL.run hg hn (v := v') ?_ (k v' w' (fr_grown hgr) ho hat)
 simp [execOp, resolve, Go.invoke, builtin, hs, hx, hrun]
end
end D
end Go.Proofs.YtmbleojlnaofjaaGreatDoor

/- append of a row that came in, nil or not, to a row of one's own. -/
namespace Go.Proofs.YtmbleojlnaofjaaGreatDoor
open Go Go.RowKit D
set_option linter.unusedVariables false
set_option linter.unusedSimpArgs false
theorem flatC_append (a b : List (Array Value)) : flatC (a ++ b) = flatC a ++ flatC b := by simp [flatC]
theorem flatC_range_get {cl : Nat → Array Value} {m size : Nat} (hs : ∀ i, i < m → (cl i).size = size) {i j : Nat} (hi : i < m) (hj : j < size) : (flatC ((List.range m).map cl))[i * size + j]? = (cl i)[j]? := by
 have h := flatC_get (sz := size) (css := (List.range m).map cl) (fun c hc => by obtain ⟨i, hi, rfl⟩ := List.mem_map.1 hc; exact hs i (List.mem_range.1 hi)) i j (by simpa using hi) hj
 simpa using h
namespace D
section
variable {P : Program} {n : Nat} {e : Env} {w : World} {ops rest : List Oper} {K : Env → World → Prop} {ty : TypeId} {pos : String} {af : Array Edge} {g : Option (Nat × Bool)}
theorem run_append_none_any (base : Nat) (t ty e : TypeId) (i : TypeInfo) (size c : Nat) (ht : P.underlying t = some (.slice e)) (hi : P.info? e = some i) (v : Value) (n : Nat) (xs : List Value) (hown : w.ownsRow base e size v n xs) :
  (Builtin.append_ #[t, t] ty #[v, .slice none 0 c]).run P w = .ok v w := by
 rcases hown.2 with ⟨rfl, rfl⟩ | ⟨g, cap, cur, rfl, _, _, hnc, _⟩
 ·simp [Builtin.append_, run_underlying ht, sizeOf, typeInfo, hi, Builtin.lenOf, Builtin.firstCells]
 ·simp [Builtin.append_, run_underlying ht, sizeOf, typeInfo, hi, Builtin.lenOf, Builtin.firstCells, hnc, storeCells]
theorem DL.appendRow {s x : Operand} {t el size bytes d B m c N : Nat} {a : Option Addr} {v : Value} {css : List (Array Value)} {cl : Nat → Array Value} (hg : wantB ops e g = true) (hn : Nat.blt d n = true) (ht : eltT P t el size bytes = true) (hs : ev e s = v) (hx : ev e x = .slice a m c)
  (hown : w.ownsRow B el size v N (flatC css)) (hsrc : ∀ i, i < m → ∃ b o, a = some ⟨b, o, none⟩ ∧ CellsAt w b (o + i * size) (cl i) ∧ (cl i).size = size ∧ (cl i).all (·.oneCell') = true) (hby : (N + m) * bytes ≤ 140737488355328) (hm : N + m ≤ 9223372036854775807) (hB : B ≤ w.heap.size)
  (k : ∀ v' w', Fr (ownL v) w w' → w'.ownsRow B el size v' (N + m) (flatC (css ++ (List.range m).map cl)) → (v'.ownBlock = v.ownBlock ∨ v'.ownBlock = some w.heap.size) → DL P n ops rest (upd e d v') w' K) :
  DL P n ops (⟨some d, .call ⟨.builtin .append, #[s, x], #[t, t]⟩, ty, pos, af, g⟩ :: rest) e w K := by
 obtain ⟨i, z, k1, k2, k3, k4, k5, k6, k7, k8⟩ := eltT_spec ht
 have hsz : ∀ i, i < m → (cl i).size = size := fun i hi => let ⟨_, _, _, _, h, _⟩ := hsrc i hi; h
 cases a with
 | none =>
  have hm0 : m = 0 := by
   rcases Nat.eq_zero_or_pos m with h | h
   ·exact h
   ·obtain ⟨b, o, h1, _⟩ := hsrc 0 h; cases h1
  subst hm0
  refine DL.run hg hn (v := v) (w' := w) ?_ (k v w (Fr.refl _ _) (by simpa using hown) (Or.inl rfl))
  simp [execOp, resolve, Go.invoke, builtin, hs, hx, run_append_none_any B t ty el i size c k1 k2 v N (flatC css) hown]
 | some ad =>
  have hlen : (flatC ((List.range m).map cl)).length = m * size := by
   rw [flatC_len (sz := size) (fun c hc => by obtain ⟨i, hi, rfl⟩ := List.mem_map.1 hc; exact hsz i (List.mem_range.1 hi))]
   simp
  obtain ⟨v', w', hrun, ho, hgr, _, hat⟩ := run_append_own_at (P := P) w B t ty el i z size bytes k1 k2 k5 k3 k4 k6 k7 v N (flatC css) hown ad m c (flatC ((List.range m).map cl)) hlen
   (fun j u hj => by
    have hjl : j < m * size := by have := (List.getElem?_eq_some_iff.1 hj).1; omega
    have hi : j / size < m := Nat.div_lt_of_lt_mul (by rw [Nat.mul_comm]; exact hjl)
    have hr : j % size < size := Nat.mod_lt _ k7
    have hje : j = (j / size) * size + j % size := by rw [Nat.mul_comm]; exact (Nat.div_add_mod j size).symm
    obtain ⟨b, o, h1, h2, h3, _⟩ := hsrc _ hi
    cases h1
    rw [hje, flatC_range_get hsz hi hr] at hj
    have := h2 (j % size) (by rw [h3]; exact hr)
    rw [add_addr, hje, ← Nat.add_assoc, this]
    have e2 : (j / size * size + j % size) / size = j / size := by rw [← hje]
    have e3 : (j / size * size + j % size) % size = j % size := by rw [← hje]
    exact hj)
   (fun u hu => by
    obtain ⟨c, hc, hm⟩ := List.mem_flatMap.1 hu
    obtain ⟨i, hi, rfl⟩ := List.mem_map.1 hc
    obtain ⟨_, _, _, _, _, h4⟩ := hsrc i (List.mem_range.1 hi)
    obtain ⟨q, hq, rfl⟩ := List.getElem_of_mem hm
    have := Array.all_eq_true.1 h4 q (by simpa using hq)
    simpa using this) (by simp only [maxLen]; exact hm) hby hB
  refine DL.run hg hn (v := v') ?_ (k v' w' (fr_grown hgr) (by rw [flatC_append]; exact ho) hat)
  simp [execOp, resolve, Go.invoke, builtin, hs, hx, hrun]
end
end D
end Go.Proofs.YtmbleojlnaofjaaGreatDoor

/- A drawn region that makes memory and writes at its end: some reads are taken first; of what is left each order is walked. -/
namespace Go.Proofs.YtmbleojlnaofjaaGreatDoor.D
open Go Go.RowKit Go.Deep
set_option linter.unusedVariables false
set_option linter.unusedSectionVars false
set_option linter.unusedSimpArgs false
section
variable (P : Program) (ops : Array Oper) (Q : Exit → Act → World → Prop) (S : World → Prop) (z : Nat)
/-- Any order from here on; until number z has come up, S holds behind each operation. -/
def anyZ : Nat → Array Bool → Act → World → Prop
 | 0, L, a, w => Region.ready .any ops L = [] ∧ Q .normal a w
 | f + 1, L, a, w => (Region.ready .any ops L = [] → Q .normal a w) ∧
  ∀ i ∈ Region.ready .any ops L, wpOp P ops Q i (fun a' w' => ((L.setIfInBounds i true).getD z false = true ∨ S w') ∧ anyZ f (L.setIfInBounds i true) a' w') a w
end
section
variable {P : Program} {ops : Array Oper} {Q : Exit → Act → World → Prop} {S : World → Prop} {z : Nat}
theorem wpAny_of_Z : ∀ (f : Nat) (L : Array Bool) (a : Act) (w : World), anyZ P ops Q S z f L a w → wpAny P .any ops Q f L a w
 | 0, _, _, _, h => h
 | f + 1, _, _, _, h => ⟨h.1, fun i hi => wpOp_mono (fun a' w' h' => wpAny_of_Z f _ a' w' h'.2) (h.2 i hi)⟩
/-- An operation for which z waits may be taken first, if it yields its value in each world that meets S. -/
theorem anyZ_first {i : Nat} {oi : Oper} {v : Value} (hi : ops[i]? = some oi) (hsel : ∀ (j : Nat) (o : Oper) cs b, ops[j]? = some o → o.op ≠ .select cs b) (hQ : ∀ c a w, ¬ Q (.panic c) a w)
  (hzi : ∀ oz, ops[z]? = some oz → ∃ e ∈ oz.after, Region.binds .any e = true ∧ e.on = i) (hne : z ≠ i) (f : Nat) : ∀ (L : Array Bool) (a : Act) (w : World),
  (∀ j oj, ops[j]? = some oj → j ≠ i → L.getD j true = false → (∀ e ∈ oj.after, Region.binds .any e = true → e.on ≠ i) → oi.apart ops oj = true) →
  i ∈ Region.ready .any ops L → YieldsIf P ops S oi v a → S w → L.getD z false = false → anyZ P ops Q S z f (L.setIfInBounds i true) (a.put oi.dst v) w → anyZ P ops Q S z (f + 1) L a w := by
 induction f with
 | zero =>
  intro L a w hf hr hy hS hz H
  refine ⟨fun h => absurd hr (by rw [h]; simp), fun j hj => ?_⟩
  rcases Classical.em (j = i) with rfl | hji
  ·exact hy.wpOp hi hS ⟨Or.inr hS, H⟩
  ·exact absurd (ready_mono hj hji) (by rw [H.1]; simp)
 | succ f ih =>
  intro L a w hf hr hy hS hz H
  refine ⟨fun h => absurd hr (by rw [h]; simp), fun j hj => ?_⟩
  rcases Classical.em (j = i) with rfl | hji
  ·exact hy.wpOp hi hS ⟨Or.inr hS, H⟩
  obtain ⟨hju, oj, hoj, hwait⟩ := mem_ready.1 hj
  have hiu := (mem_ready.1 hr).1
  have hno : ∀ e ∈ oj.after, Region.binds .any e = true → e.on ≠ i := fun e he hb heq => by
   have h1 := hwait e he hb
   rw [heq] at h1
   rcases Nat.lt_or_ge i L.size with hl | hl
   ·simp only [Array.getD_eq_getD_getElem?, Array.getElem?_eq_getElem hl, Option.getD_some] at h1 hiu
    rw [hiu] at h1; cases h1
   ·simp [Array.getElem?_eq_none hl] at h1
  have hjz : j ≠ z := fun h => by
   subst h
   obtain ⟨e, he, hb, hon⟩ := hzi oj hoj
   exact hno e he hb hon
  have key := wpOp_putIf hoj (hf j oj hoj hji hju hno) (fun cs b => hsel i oi cs b hi) (fun cs b => hsel j oj cs b hoj) (fun c a w h => absurd h (hQ c _ w)) hy (H.2 j (ready_mono hj hji))
  refine wpOp_mono (fun a' w' h3 => ?_) key
  have hz1 : (L.setIfInBounds j true).getD z false = false := by rw [getD_set_ne false hjz]; exact hz
  have hz2 : ((L.setIfInBounds i true).setIfInBounds j true).getD z false = false := by rw [getD_set_ne false hjz, getD_set_ne false (Ne.symm hne)]; exact hz
  have hS' : S w' := h3.2.1.resolve_left (by rw [hz2]; simp)
  refine ⟨Or.inr hS', ih _ a' w' (fun k ok hk hki hku hkn => hf k ok hk hki ?_ hkn) (ready_mono hr (Ne.symm hji)) h3.1 hS' hz1 ?_⟩
  ·rcases Classical.em (j = k) with rfl | hjk
   ·exact hju
   ·rw [getD_set_ne true hjk] at hku; exact hku
  ·rw [Array.setIfInBounds_comm _ _ hji]; exact h3.2.2
end
/-- z waits for i, as a test. -/
def waitsB (l : List Oper) (z i : Nat) : Bool := !(Nat.beq z i) && (match nthO l z with | some o => o.after.toList.any (fun e => Region.binds .any e && Nat.beq e.on i) | none => true)
structure DG (P : Program) (n : Nat) (l : List Oper) (S : World → Prop) (z : Nat) (fuel : Nat) (listed : Array Bool) (e : Env) (w : World) (K : Env → World → Prop) : Prop where
 out : ∀ (a : Act) (Q : Exit → Act → World → Prop), Rep n a e → (listed.getD z false = true ∨ S w) → (∀ c a w, ¬ Q (.panic c) a w) → (∀ a' e' w', Rep n a' e' → (∀ t, t ∉ dstsL l → e' t = e t) → K e' w' → Q .normal a' w') →
  anyZ P l.toArray Q S z fuel listed a w
section
variable {P : Program} {n : Nat} {e : Env} {w : World} {l : List Oper} {S : World → Prop} {z fuel : Nat} {listed : Array Bool} {K : Env → World → Prop}
theorem DG.take {o : Oper} {v : Value} (i : Nat) (hi : nthO l i = some o) (hs : Region.noSelect l.toArray = true) (hf : Region.free .any l.toArray listed i = true) (hr : (Region.ready .any l.toArray listed).contains i = true) (hz : waitsB l z i = true) (hzl : listed.getD z false = false)
  (hg : wantB l e o.guard = true) (hd : ltB n o.dst = true) (h : ∀ w, S w → Y P e o w v) (k : DG P n l S z fuel (listed.setIfInBounds i true) (put e o.dst v) w K) : DG P n l S z (fuel + 1) listed e w K := by
 rw [nthO_eq] at hi
 unfold waitsB at hz
 rw [nthO_eq] at hz
 simp only [Bool.and_eq_true, Bool.not_eq_true'] at hz
 refine ⟨fun a Q ha hw hnp hq => ?_⟩
 have hS : S w := hw.resolve_left (by rw [hzl]; simp)
 refine anyZ_first (oi := o) (v := v) (by simpa using hi) (Region.noSelect_spec hs) hnp (fun oz hoz => ?_) (fun h => by rw [h, Nat.beq_refl] at hz; cases hz.1) fuel listed a w (Region.free_spec (by simpa using hi) hf) (by simpa using hr) (Or.inl ⟨by rw [wantB_eq ha, hg], fun w' hw' => by rw [ha.eval]; exact h w' hw'⟩) hS hzl
  (k.out _ Q (ha.put o.dst v (ltB_spec hd)) (Or.inr hS) hnp (fun a' e' w' h1 h2 h4 => hq a' e' w' h1 (fun t ht => ?_) h4))
 ·have h2 := hz.2
  have hoz' : l[z]? = some oz := by simpa using hoz
  rw [hoz'] at h2
  obtain ⟨e, he, hb⟩ := List.any_eq_true.1 h2
  simp only [Bool.and_eq_true] at hb
  exact ⟨e, by simpa using he, hb.1, Nat.eq_of_beq_eq_true hb.2⟩
 ·rw [h2 t ht, put_other hi ht]
/-- Whichever of rs comes next. -/
theorem DG.pick (rs : List Nat) (hr : Region.ready .any l.toArray listed = rs) (hne : rs ≠ [])
  (h : ∀ i ∈ rs, ∃ o, nthO l i = some o ∧ DL P n l [o] e w (fun e' w' => ((listed.setIfInBounds i true).getD z false = true ∨ S w') ∧ DG P n l S z fuel (listed.setIfInBounds i true) e' w' K)) : DG P n l S z (fuel + 1) listed e w K := by
 refine ⟨fun a Q ha hw hnp hq => ⟨fun h0 => absurd (hr ▸ h0) hne, fun i hi => ?_⟩⟩
 obtain ⟨o, ho, hd⟩ := h i (hr ▸ hi)
 rw [nthO_eq] at ho
 unfold wpOp
 have hi' : l.toArray[i]? = some o := by simpa using ho
 simp only [hi']
 have := hd.out a (fun x a' w' => match x with | .normal => ((listed.setIfInBounds i true).getD z false = true ∨ S w') ∧ anyZ P l.toArray Q S z fuel (listed.setIfInBounds i true) a' w' | x => Q x a' w') ha (fun a' e' w' h1 h2 h3 =>
  ⟨h3.1, h3.2.out a' Q h1 h3.1 hnp (fun a2 e2 w2 k1 k2 k4 => hq a2 e2 w2 k1 (fun t ht => by
   rw [k2 t ht]
   refine h2 t (fun hm => ht ?_)
   unfold dstsL at hm
   cases hod : o.dst with
   | none => rw [hod] at hm; simp [dstsL] at hm
   | some d => rw [hod] at hm; simp only [dstsL, List.mem_singleton] at hm; rw [hm]; exact dst_mem hod l i ho) k4)⟩)
 unfold wpList at this
 split
 ·rename_i hwn
  rw [if_pos hwn] at this
  rcases this with h | h
  ·exact Or.inl (wp_imp (fun a' w' h' => by unfold wpList at h'; exact h') (fun c a' w' h' => h') (fun h' => h') h)
  ·exact Or.inr h
 ·rename_i hwn
  rw [if_neg hwn] at this
  unfold wpList at this
  exact this
theorem DG.done (hr : Region.ready .any l.toArray listed = []) (h : K e w) : DG P n l S z fuel listed e w K :=
 ⟨fun a Q ha hw hnp hq => by
  have := hq a e w ha (fun _ _ => rfl) h
  cases fuel with
  | zero => exact ⟨hr, this⟩
  | succ f => exact ⟨fun _ => this, by rw [hr]; simp⟩⟩
/-- What is common to several orders, said once. -/
theorem DG.with (I : Env → World → Prop) (fuel' : Nat) (listed' : Array Bool) (fin : ∀ e' w', I e' w' → DG P n l S z fuel' listed' e' w' K)
  (h : (∀ (lst : Array Bool) e' w', lst = listed' → I e' w' → DG P n l S z fuel' lst e' w' K) → DG P n l S z fuel listed e w K) : DG P n l S z fuel listed e w K :=
 h (fun lst e' w' hl hi => by subst hl; exact fin e' w' hi)
theorem DC.drawn {id : Nat} {Q : Exit → Env → World → Prop} (S : World → World → Prop) (z : Nat) (hm : P.follows .mixedOrders = true)
  (h : ∀ w', Fr [] w w' → w'.heap.size = w.heap.size → S w' w' ∧ DG P n l (S w') z l.length (Array.replicate l.length false) e w' (fun e2 w2 => Q .normal e2 w2)) : DC P n (.region id l.toArray true) e w Q := by
 refine ⟨fun a ha => wp_region_noPanic (wp_region_any hm (wpAny_of_Z (S := S { w with drawn := w.drawn + 1 }) (z := z) _ _ _ _ ?_))⟩
 obtain ⟨hS, hD⟩ := h _ (Fr.drawn w (w.drawn + 1)) rfl
 have := hD.out a (NoPanic fun x a' w' => ∃ e', Rep n a' e' ∧ (∀ t, t ∉ dstsC (.region id l.toArray true) → e' t = e t) ∧ Q x e' w') ha (Or.inr hS) (fun c a w h => h) (fun a' e' w' h1 h2 h3 =>
  (show ∃ e', Rep n a' e' ∧ (∀ t, t ∉ dstsC (.region id l.toArray true) → e' t = e t) ∧ Q .normal e' w' from ⟨e', h1, fun t ht => h2 t (by simpa [dstsC] using ht), h3⟩))
 simpa using this
end
end Go.Proofs.YtmbleojlnaofjaaGreatDoor.D

