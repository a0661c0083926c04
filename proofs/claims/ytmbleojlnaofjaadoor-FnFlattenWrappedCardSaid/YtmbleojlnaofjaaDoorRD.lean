/- Trees of values whose blocks lie where a predicate says; rows of them that are collected. -/
import Derived.Test.YtmbleojlnaofjaaDoorGo
import Derived.Test.YtmbleojlnaofjaaDoorSame
import Derived.Maps.AppendAt
namespace Go.Proofs.YtmbleojlnaofjaaDoor
open Go Go.RowKit D
set_option linter.unusedVariables false
set_option linter.unusedSimpArgs false
inductive RVD (w : World) (D : Nat → Prop) : V → Array Value → Prop
  | mk {kind half : Int} {text : ByteArray} {list : List V} {keys : List ByteArray} {vals : List V} {la ka va : Option Addr} {lc kc vc : Nat} (cl cv : Nat → Array Value)
      (hk : -9223372036854775808 ≤ kind ∧ kind ≤ 9223372036854775807) (hh : -9223372036854775808 ≤ half ∧ half ≤ 9223372036854775807) (ht : text.size ≤ 140737488351232)
      (ln : list.length ≤ 140737488351232) (kn : keys.length ≤ 140737488351232) (vn : vals.length ≤ 140737488351232) (ks : ∀ k ∈ keys, k.size ≤ 140737488351232)
      (hl : RowD w D la list.length 6 cl) (rl : ∀ (i : Nat) (h : i < list.length), RVD w D list[i] (cl i))
      (hks : RowD w D ka keys.length 1 (strCells keys))
      (hv : RowD w D va vals.length 6 cv) (rv : ∀ (i : Nat) (h : i < vals.length), RVD w D vals[i] (cv i)) :
      RVD w D (.mk kind half text list keys vals) #[.int .i64 kind, .int .i64 half, .string text, .slice la list.length lc, .slice ka keys.length kc, .slice va vals.length vc]
theorem RVD.fr {S : List Nat} {w w' : World} {D : Nat → Prop} {v : V} {cs : Array Value} (h : RVD w D v cs) (f : Fr S w w') (hs : ∀ b, D b → b ∉ S) : RVD w' D v cs := by
  induction h with
  | mk cl cv hk hh ht ln kn vn ks hl rl hks hv rv ih1 ih2 => exact .mk cl cv hk hh ht ln kn vn ks (hl.fr f hs) ih1 (hks.fr f hs) (hv.fr f hs) ih2
theorem RVD.mono {w : World} {D D' : Nat → Prop} {v : V} {cs : Array Value} (h : RVD w D v cs) (hd : ∀ b, D b → D' b) : RVD w D' v cs := by
  induction h with
  | mk cl cv hk hh ht ln kn vn ks hl rl hks hv rv ih1 ih2 => exact .mk cl cv hk hh ht ln kn vn ks (hl.mono hd) ih1 (hks.mono hd) (hv.mono hd) ih2
theorem RVD.size {w : World} {D : Nat → Prop} {v : V} {cs : Array Value} (h : RVD w D v cs) : cs.size = 6 := by cases h; rfl
theorem RVD.one {w : World} {D : Nat → Prop} {v : V} {cs : Array Value} (h : RVD w D v cs) : cs.all (·.oneCell') = true := by cases h; simp [Value.oneCell']
theorem RowD.toRow {w : World} {D : Nat → Prop} {B : Nat} {a : Option Addr} {n sz : Nat} {cl : Nat → Array Value} (h : RowD w D a n sz cl) (hd : ∀ b, D b → b < B) : Row w B a n sz cl :=
  fun i hi => let ⟨b, o, h1, h2, h3, h4⟩ := h i hi; ⟨b, o, h1, hd b h2, h3, h4⟩
theorem RVD.toRV {w : World} {D : Nat → Prop} {B : Nat} {v : V} {cs : Array Value} (h : RVD w D v cs) (hd : ∀ b, D b → b < B) : RV w B v cs := by
  induction h with
  | mk cl cv hk hh ht ln kn vn ks hl rl hks hv rv ih1 ih2 => exact .mk cl cv hk hh ht ln kn vn ks (hl.toRow hd) ih1 (hks.toRow hd) (hv.toRow hd) ih2
theorem RV.toD {w : World} {B : Nat} {v : V} {cs : Array Value} (h : RV w B v cs) : RVD w (· < B) v cs := by
  induction h with
  | mk cl cv hk hh ht ln kn vn ks hl rl hks hv rv ih1 ih2 => exact .mk cl cv hk hh ht ln kn vn ks hl ih1 hks hv ih2
theorem RV.lt {w : World} {B B' : Nat} {v : V} {cs : Array Value} (h : RV w B v cs) (hb : B ≤ B') : RV w B' v cs := h.toD.toRV (fun b h => Nat.lt_of_lt_of_le h hb)
/-- What lies in a world lies below its end. -/
theorem RVD.live {w : World} {D : Nat → Prop} {v : V} {cs : Array Value} (h : RVD w D v cs) : RV w w.heap.size v cs := by
  have row : ∀ {a : Option Addr} {n sz : Nat} {cl : Nat → Array Value}, 0 < sz → RowD w D a n sz cl → Row w w.heap.size a n sz cl := fun hz h i hi => by
    obtain ⟨b, o, h1, h2, h3, h4⟩ := h i hi
    refine ⟨b, o, h1, ?_, h3, h4⟩
    have := h3.cell 0 (v := (_ : Array Value)[0]'(by rw [h4]; exact hz)) (by simp [h4, hz])
    exact World.block_lt_of_cell? w _ this
  induction h with
  | mk cl cv hk hh ht ln kn vn ks hl rl hks hv rv ih1 ih2 => exact .mk cl cv hk hh ht ln kn vn ks (row (by decide) hl) ih1 (row (by decide) hks) (row (by decide) hv) ih2

/-! ### What is collected: cells of values -/
def flatC (css : List (Array Value)) : List Value := css.flatMap (·.toList)
theorem flatC_snoc (css : List (Array Value)) (c : Array Value) : flatC (css ++ [c]) = flatC css ++ c.toList := by simp [flatC]
theorem flatC_get {sz : Nat} : ∀ {css : List (Array Value)}, (∀ c ∈ css, c.size = sz) → ∀ (i j : Nat) (hi : i < css.length), j < sz → (flatC css)[i * sz + j]? = css[i][j]?
  | [], _, i, j, hi, _ => by cases hi
  | c :: css, h, i, j, hi, hj => by
    have hc : c.size = sz := h c (by simp)
    have hcl : c.toList.length = sz := by simpa using hc
    cases i with
    | zero =>
      simp only [flatC, List.flatMap_cons, Nat.zero_mul, Nat.zero_add, List.getElem_cons_zero]
      rw [List.getElem?_append_left (by omega)]; simp
    | succ i =>
      have := flatC_get (sz := sz) (css := css) (fun c hc => h c (by simp [hc])) i j (by simpa using hi) hj
      simp only [flatC] at this
      simp only [flatC, List.flatMap_cons, List.getElem_cons_succ]
      rw [List.getElem?_append_right (by rw [hcl, Nat.succ_mul]; omega), hcl, ← this]
      congr 1
      rw [Nat.succ_mul]; omega
theorem flatC_len {sz : Nat} : ∀ {css : List (Array Value)}, (∀ c ∈ css, c.size = sz) → (flatC css).length = css.length * sz
  | [], _ => by simp [flatC]
  | c :: css, h => by
    have hc : c.toList.length = sz := by simpa using h c (by simp)
    have := flatC_len (sz := sz) (css := css) (fun c hc => h c (by simp [hc]))
    simp only [flatC] at this
    simp only [flatC, List.flatMap_cons, List.length_append, List.length_cons, this, hc]
    rw [Nat.succ_mul]; omega
/-- A row that is owned is a row. -/
theorem row_of_own {w : World} {B e sz n : Nat} {v : Value} {css : List (Array Value)} (h : w.ownsRow B e sz v n (flatC css)) (hs : ∀ c ∈ css, c.size = sz) (hn : css.length = n) (hz : 0 < sz) :
    ∃ a c, v = .slice a n c ∧ RowD w (fun b => v.ownBlock = some b) a n sz (fun i => css.getD i #[]) := by
  obtain ⟨a, cap, rfl, hl, hc⟩ := own_cells h
  refine ⟨a, cap, rfl, fun i hi => ?_⟩
  obtain ⟨b, rfl, hb1, hb2, hcell⟩ := hc i hi
  have hi' : i < css.length := by omega
  have hci : css[i].size = sz := hs _ (List.getElem_mem hi')
  refine ⟨b, 0, rfl, rfl, fun j hj => ?_, by simp [List.getD_eq_getElem?_getD, hi', hci]⟩
  have hj' : j < sz := by simpa [List.getD_eq_getElem?_getD, hi', hci] using hj
  have := hcell j hj'
  rw [flatC_get hs i j hi' hj'] at this
  simp only [List.getD_eq_getElem?_getD, List.getElem?_eq_getElem hi', Option.getD_some, Nat.zero_add]
  exact this

/-! ### A row of values that is collected -/
/-- The values of l met so far (css: their cells) lie in an own row from B on; all their blocks lie in [B, H), none is the row's own, none is of X. -/
structure ColV (w : World) (VT B H : Nat) (X : Nat → Prop) (l : List V) (k : Nat) (sl : Value) (css : List (Array Value)) : Prop where
  len : css.length = k
  own : w.ownsRow B VT 6 sl k (flatC css)
  lt : ∀ b, sl.ownBlock = some b → b < H ∧ ¬ X b
  six : ∀ c ∈ css, c.size = 6
  rv : ∀ (i : Nat) (h1 : i < css.length) (h2 : i < l.length), RVD w (fun b => B ≤ b ∧ b < H ∧ sl.ownBlock ≠ some b ∧ ¬ X b) l[i] css[i]
section
variable {S : List Nat} {w w' : World} {VT B H k : Nat} {X : Nat → Prop} {l : List V} {sl : Value} {css : List (Array Value)}
theorem ColV.nil (w : World) (VT B H : Nat) (X : Nat → Prop) (l : List V) : ColV w VT B H X l 0 (.slice none 0 0) [] :=
  ⟨rfl, World.ownsRow_nil _ _ _ _, (fun b h => by simp [Value.ownBlock] at h), (fun c h => by cases h), (fun i h => by cases h)⟩
theorem ColV.fr (h : ColV w VT B H X l k sl css) (f : Fr S w w') (hs : ∀ b ∈ S, b < B ∨ H ≤ b ∨ X b) : ColV w' VT B H X l k sl css := by
  refine ⟨h.len, ownsRow_fr h.own f (fun b hb hv => ?_), h.lt, h.six, fun i h1 h2 => (h.rv i h1 h2).fr f (fun b hb hm => ?_)⟩
  · have h1 := h.lt b hv
    have h2 := (own_ge h.own b (mem_ownL.2 hv)).1
    rcases hs b hb with h | h | h
    · omega
    · omega
    · exact h1.2 h
  · rcases hs b hm with h | h | h
    · omega
    · omega
    · exact hb.2.2.2 h
theorem ColV.up {H' : Nat} (h : ColV w VT B H X l k sl css) (hh : H ≤ H') : ColV w VT B H' X l k sl css :=
  ⟨h.len, h.own, fun b hb => ⟨Nat.lt_of_lt_of_le (h.lt b hb).1 hh, (h.lt b hb).2⟩, h.six, fun i h1 h2 => (h.rv i h1 h2).mono (fun b hb => ⟨hb.1, Nat.lt_of_lt_of_le hb.2.1 hh, hb.2.2⟩)⟩
theorem ColV.base {B' : Nat} (h : ColV w VT B H X l k sl css) (hh : B' ≤ B) : ColV w VT B' H X l k sl css :=
  ⟨h.len, own_base h.own hh, h.lt, h.six, fun i h1 h2 => (h.rv i h1 h2).mono (fun b hb => ⟨Nat.le_trans hh hb.1, hb.2⟩)⟩
theorem ColV.exch {X' : Nat → Prop} (h : ColV w VT B H X l k sl css) (hx : ∀ b, b < H → ¬ X b → ¬ X' b) : ColV w VT B H X' l k sl css :=
  ⟨h.len, h.own, fun b hb => ⟨(h.lt b hb).1, hx b (h.lt b hb).1 (h.lt b hb).2⟩, h.six, fun i h1 h2 => (h.rv i h1 h2).mono (fun b hb => ⟨hb.1, hb.2.1, hb.2.2.1, hx b hb.2.1 hb.2.2.2⟩)⟩
/-- One more. -/
theorem ColV.snoc {sl' : Value} {ce : Array Value} (h : ColV w VT B H X l k sl css) (hk : k < l.length) (hH : H ≤ w.heap.size)
    (hce : RVD w (fun b => B ≤ b ∧ b < w.heap.size ∧ sl.ownBlock ≠ some b ∧ ¬ X b) l[k] ce) (hX : ¬ X w.heap.size) (f : Fr (ownL sl) w w') (ho : w'.ownsRow B VT 6 sl' (k + 1) (flatC css ++ ce.toList)) (hat : sl'.ownBlock = sl.ownBlock ∨ sl'.ownBlock = some w.heap.size) :
    ColV w' VT B w'.heap.size X l (k + 1) sl' (css ++ [ce]) := by
  have hsz := f.size
  have hnew : ∀ b, b < w.heap.size → sl.ownBlock ≠ some b → sl'.ownBlock ≠ some b := fun b hb hne => by
    rcases hat with h1 | h1
    · rw [h1]; exact hne
    · rw [h1]; intro h2; cases h2; omega
  refine ⟨by simp [h.len], by rw [flatC_snoc]; exact ho, fun b hb => ⟨(own_ge ho b (mem_ownL.2 hb)).2, ?_⟩, fun c hc => ?_, fun i h1 h2 => ?_⟩
  · rcases hat with h1 | h1
    · exact (h.lt b (h1 ▸ hb)).2
    · rw [h1] at hb; cases hb; exact hX
  · rcases List.mem_append.1 hc with hc | hc
    · exact h.six c hc
    · rw [List.mem_singleton.1 hc]; exact hce.size
  · by_cases hi' : i < css.length
    · have e : (css ++ [ce])[i] = css[i] := List.getElem_append_left hi'
      rw [e]
      refine ((h.rv i hi' h2).fr f (fun b hb hm => hb.2.2.1 (mem_ownL.1 hm))).mono (fun b hb => ⟨hb.1, by omega, hnew b (by omega) hb.2.2.1, hb.2.2.2⟩)
    · have hik : i = k := by simp only [List.length_append, List.length_singleton] at h1; have := h.len; omega
      subst hik
      have e : (css ++ [ce])[i] = ce := by rw [List.getElem_append_right (by omega)]; simp [h.len]
      rw [e]
      exact (hce.fr f (fun b hb hm => hb.2.2.1 (mem_ownL.1 hm))).mono (fun b hb => ⟨hb.1, by omega, hnew b (by omega) hb.2.2.1, hb.2.2.2⟩)
theorem ColV.done (h : ColV w VT B H X l l.length sl css) :
    ∃ a c, sl = .slice a l.length c ∧ RowD w (fun b => B ≤ b ∧ b < H) a l.length 6 (fun i => css.getD i #[]) ∧ ∀ (i : Nat) (hi : i < l.length), RVD w (fun b => B ≤ b ∧ b < H) l[i] (css.getD i #[]) := by
  obtain ⟨a, c, hv, hr⟩ := row_of_own h.own h.six h.len (by decide)
  refine ⟨a, c, hv, hr.mono (fun b hb => ⟨(own_ge h.own b (mem_ownL.2 hb)).1, (h.lt b hb).1⟩), fun i hi => ?_⟩
  have hi' : i < css.length := by rw [h.len]; exact hi
  have e : css.getD i #[] = css[i] := by simp [List.getD_eq_getElem?_getD, hi']
  rw [e]
  exact (h.rv i hi' hi).mono (fun b hb => ⟨hb.1, hb.2.1⟩)
theorem ColV.one (h : ColV w VT B H X l k sl css) : sl.oneCell' = true := by
  obtain ⟨a, c, rfl, _⟩ := own_cells h.own; rfl
end
/-- Keys and values that are collected side by side. -/
structure KV (w : World) (VT St B H : Nat) (keys : List ByteArray) (k1 : Nat) (slk : Value) (vals : List V) (k2 : Nat) (slv : Value) (css : List (Array Value)) : Prop where
  ko : w.ownsRow B St 1 slk k1 ((keys.take k1).map Value.string)
  kl : ∀ b, slk.ownBlock = some b → b < H
  vo : ColV w VT B H (fun b => slk.ownBlock = some b) vals k2 slv css
section
variable {S : List Nat} {w w' : World} {VT St B H k1 k2 : Nat} {keys : List ByteArray} {slk slv slk' slv' : Value} {vals : List V} {css : List (Array Value)} {ce : Array Value}
theorem KV.nil (w : World) (VT St B H : Nat) (keys : List ByteArray) (vals : List V) : KV w VT St B H keys 0 (.slice none 0 0) vals 0 (.slice none 0 0) [] :=
  ⟨World.ownsRow_nil _ _ _ _, (fun b h => by simp [Value.ownBlock] at h), ColV.nil _ _ _ _ _ _⟩
theorem KV.fr (h : KV w VT St B H keys k1 slk vals k2 slv css) (f : Fr S w w') (hs : ∀ b ∈ S, b < B ∨ H ≤ b) : KV w' VT St B H keys k1 slk vals k2 slv css := by
  refine ⟨ownsRow_fr h.ko f (fun b hb hv => ?_), h.kl, h.vo.fr f (fun b hb => by rcases hs b hb with h | h; exact Or.inl h; exact Or.inr (Or.inl h))⟩
  have h1 := h.kl b hv
  have h2 := (own_ge h.ko b (mem_ownL.2 hv)).1
  have := hs b hb
  omega
theorem KV.up {H' : Nat} (h : KV w VT St B H keys k1 slk vals k2 slv css) (hh : H ≤ H') : KV w VT St B H' keys k1 slk vals k2 slv css :=
  ⟨h.ko, fun b hb => Nat.lt_of_lt_of_le (h.kl b hb) hh, h.vo.up hh⟩
theorem KV.addK (h : KV w VT St B w.heap.size keys k1 slk vals k2 slv css) (hk : k1 < keys.length) (f : Fr (ownL slk) w w') (ho : w'.ownsRow B St 1 slk' (k1 + 1) ((keys.take k1).map Value.string ++ [Value.string keys[k1]])) (hat : slk'.ownBlock = slk.ownBlock ∨ slk'.ownBlock = some w.heap.size) :
    KV w' VT St B w'.heap.size keys (k1 + 1) slk' vals k2 slv css := by
  refine ⟨by rw [List.take_succ_eq_append_getElem hk, List.map_append]; exact ho, fun b hb => (own_ge ho b (mem_ownL.2 hb)).2, ((h.vo.fr f (fun b hb => Or.inr (Or.inr (mem_ownL.1 hb)))).exch (fun b hb hn => ?_)).up f.size⟩
  rcases hat with h1 | h1
  · rw [h1]; exact hn
  · rw [h1]; intro h2; cases h2; omega
theorem KV.addV (h : KV w VT St B w.heap.size keys k1 slk vals k2 slv css) (hk : k2 < vals.length) (hce : RVD w (fun b => B ≤ b ∧ b < w.heap.size ∧ slv.ownBlock ≠ some b ∧ ¬ slk.ownBlock = some b) vals[k2] ce) (f : Fr (ownL slv) w w') (ho : w'.ownsRow B VT 6 slv' (k2 + 1) (flatC css ++ ce.toList)) (hat : slv'.ownBlock = slv.ownBlock ∨ slv'.ownBlock = some w.heap.size) :
    KV w' VT St B w'.heap.size keys k1 slk vals (k2 + 1) slv' (css ++ [ce]) := by
  refine ⟨ownsRow_fr h.ko f (fun b hb hv => (h.vo.lt b (mem_ownL.1 hb)).2 hv), fun b hb => Nat.lt_of_lt_of_le (h.kl b hb) f.size, h.vo.snoc hk (Nat.le_refl _) hce (fun hx => Nat.lt_irrefl _ (h.kl _ hx)) f ho hat⟩
/-- An element that waits while the keys grow. -/
theorem off_addK {v : V} (h : RVD w (fun b => B ≤ b ∧ b < w.heap.size ∧ slv.ownBlock ≠ some b ∧ ¬ slk.ownBlock = some b) v ce) (f : Fr (ownL slk) w w') (hat : slk'.ownBlock = slk.ownBlock ∨ slk'.ownBlock = some w.heap.size) :
    RVD w' (fun b => B ≤ b ∧ b < w'.heap.size ∧ slv.ownBlock ≠ some b ∧ ¬ slk'.ownBlock = some b) v ce := by
  have hsz := f.size
  refine (h.fr f (fun b hb hm => hb.2.2.2 (mem_ownL.1 hm))).mono (fun b hb => ⟨hb.1, by omega, hb.2.2.1, ?_⟩)
  rcases hat with h1 | h1
  · rw [h1]; exact hb.2.2.2
  · rw [h1]; intro h2; cases h2; omega
theorem off_new {v : V} {a b : Value} (h : RVD w (fun x => B ≤ x ∧ x < w.heap.size ∧ a.ownBlock ≠ some x ∧ ¬ b.ownBlock = some x) v ce) (f : Fr [] w w') : RVD w' (fun x => B ≤ x ∧ x < w'.heap.size ∧ a.ownBlock ≠ some x ∧ ¬ b.ownBlock = some x) v ce :=
  (h.fr f (fun b hb hm => by cases hm)).mono (fun x hx => ⟨hx.1, Nat.lt_of_lt_of_le hx.2.1 f.size, hx.2.2⟩)
end
/-- What is collected of texts. -/
theorem row_keys {w : World} {St B H : Nat} {keys : List ByteArray} {sl : Value} (h : w.ownsRow B St 1 sl keys.length (keys.map Value.string)) (hlt : ∀ b, sl.ownBlock = some b → b < H) :
    ∃ a c, sl = .slice a keys.length c ∧ RowD w (fun b => B ≤ b ∧ b < H) a keys.length 1 (strCells keys) := by
  obtain ⟨a, cap, rfl, hl, hc⟩ := own_cells h
  refine ⟨a, cap, rfl, fun i hi => ?_⟩
  obtain ⟨b, rfl, hb1, hb2, hcell⟩ := hc i hi
  refine ⟨b, 0, rfl, ⟨hb1, hlt b rfl⟩, fun j hj => ?_, rfl⟩
  have hj0 : j = 0 := by have : j < 1 := hj; omega
  subst hj0
  have := hcell 0 (by omega)
  rw [Nat.zero_add]
  rw [this]
  simp [strCells, hi]
/-- What a list of the program's own values is, with what lies behind it. -/
structure InL (w : World) (D : Nat → Prop) (a : Option Addr) (l : List V) (xs : Nat → Value) : Prop where
  row : RowD w D a l.length 1 (fun i => #[xs i])
  gv : ∀ (i : Nat) (h : i < l.length), GV w D l[i] (xs i)
theorem InL.fr {S : List Nat} {w w' : World} {D : Nat → Prop} {a : Option Addr} {l : List V} {xs : Nat → Value} (h : InL w D a l xs) (f : Fr S w w') (hs : ∀ b, D b → b ∉ S) : InL w' D a l xs := ⟨h.row.fr f hs, fun i hi => (h.gv i hi).fr f hs⟩
theorem bytes_le {l : List V} {k : Nat} (h : k < l.length) : l[k].bytes ≤ V.bytesL l := by
  induction l generalizing k with
  | nil => cases h
  | cons v l ih =>
    cases k with
    | zero => simp [V.bytesL]
    | succ k => have := ih (k := k) (by simpa using h); simp only [List.getElem_cons_succ, V.bytesL]; omega
theorem key_le {l : List ByteArray} {s : ByteArray} (h : s ∈ l) : s.size ≤ bytesK l := by
  induction l with
  | nil => cases h
  | cons v l ih =>
    rcases List.mem_cons.1 h with rfl | h
    · simp [bytesK]
    · have := ih h; simp only [bytesK, List.map_cons, List.sum_cons] at this ⊢; omega

/-! ### append, with the place of the new slice -/
namespace D
section
variable {P : Program} {n : Nat} {e : Env} {w : World} {ops rest : List Oper} {K : Env → World → Prop} {ty : TypeId} {pos : String} {af : Array Edge} {g : Option (Nat × Bool)}
theorem DL.appendAt {s x : Operand} {t el size bytes d B m c N b o : Nat} {v : Value} {xs : List Value} {news : Array Value} (hg : wantB ops e g = true) (hn : Nat.blt d n = true) (ht : eltT P t el size bytes = true) (hs : ev e s = v) (hx : ev e x = .slice (some ⟨b, o, none⟩) m c)
    (hown : w.ownsRow B el size v N xs) (hb : CellsAt w b o news) (hl : news.size = m * size) (h1 : news.all (·.oneCell') = true) (hby : (N + m) * bytes ≤ 140737488355328) (hm : N + m ≤ 9223372036854775807) (hB : B ≤ w.heap.size)
    (k : ∀ v' w', Fr (ownL v) w w' → w'.ownsRow B el size v' (N + m) (xs ++ news.toList) → (v'.ownBlock = v.ownBlock ∨ v'.ownBlock = some w.heap.size) → DL P n ops rest (upd e d v') w' K) :
    DL P n ops (⟨some d, .call ⟨.builtin .append, #[s, x], #[t, t]⟩, ty, pos, af, g⟩ :: rest) e w K := by
  obtain ⟨i, z, k1, k2, k3, k4, k5, k6, k7, k8⟩ := eltT_spec ht
  obtain ⟨v', w', hrun, ho, hgr, _, hat⟩ := run_append_own_at (P := P) w B t ty el i z size bytes k1 k2 k5 k3 k4 k6 k7 v N xs hown ⟨b, o, none⟩ m c news.toList (by simpa using hl)
    (fun j u hj => by
      have hj' : j < news.size := by have := (List.getElem?_eq_some_iff.1 hj).1; simpa using this
      have := hb j hj'
      rw [add_addr, this, ← hj]; simp)
    (fun u hu => by
      obtain ⟨j, hj, rfl⟩ := List.getElem_of_mem hu
      have := Array.all_eq_true.1 h1 j (by simpa using hj)
      simpa using this) (by simp only [maxLen]; exact hm) hby hB
  refine DL.run hg hn (v := v') ?_ (k v' w' (fr_grown hgr) ho hat)
  simp [execOp, resolve, invoke, builtin, hs, hx, hrun]
end
end D
end Go.Proofs.YtmbleojlnaofjaaDoor
