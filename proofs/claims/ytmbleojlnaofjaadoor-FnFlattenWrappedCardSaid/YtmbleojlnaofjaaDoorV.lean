/- Values of JSON as trees, and how they lie in memory. -/
import Derived.Test.YtmbleojlnaofjaaDoorO
import Derived.Lib.ValidU
import Derived.Shelf.Unicode.DecodeSlow
namespace Go.Proofs.YtmbleojlnaofjaaDoor
open Go Go.RowKit D
set_option linter.unusedVariables false

/-- A value as data: kind, twice its number, text, list, keys, values. -/
inductive V where
  | mk (kind half : Int) (text : ByteArray) (list : List V) (keys : List ByteArray) (vals : List V)

/-- A row of n elements of sz cells each: its address below block B. -/
def Row (w : World) (B : Nat) (a : Option Addr) (n sz : Nat) (cl : Nat → Array Value) : Prop :=
  ∀ i, i < n → ∃ b o, a = some ⟨b, o, none⟩ ∧ b < B ∧ CellsAt w b (o + i * sz) (cl i) ∧ (cl i).size = sz
def strCells (keys : List ByteArray) (i : Nat) : Array Value := #[.string (keys.getD i default)]

inductive RV (w : World) (B : Nat) : V → Array Value → Prop
  | mk {kind half : Int} {text : ByteArray} {list : List V} {keys : List ByteArray} {vals : List V} {la ka va : Option Addr} {lc kc vc : Nat} (cl cv : Nat → Array Value)
      (hk : -9223372036854775808 ≤ kind ∧ kind ≤ 9223372036854775807) (hh : -9223372036854775808 ≤ half ∧ half ≤ 9223372036854775807) (ht : text.size ≤ 140737488351232)
      (ln : list.length ≤ 140737488351232) (kn : keys.length ≤ 140737488351232) (vn : vals.length ≤ 140737488351232) (ks : ∀ k ∈ keys, k.size ≤ 140737488351232)
      (hl : Row w B la list.length 6 cl) (rl : ∀ (i : Nat) (h : i < list.length), RV w B list[i] (cl i))
      (hks : Row w B ka keys.length 1 (strCells keys))
      (hv : Row w B va vals.length 6 cv) (rv : ∀ (i : Nat) (h : i < vals.length), RV w B vals[i] (cv i)) :
      RV w B (.mk kind half text list keys vals) #[.int .i64 kind, .int .i64 half, .string text, .slice la list.length lc, .slice ka keys.length kc, .slice va vals.length vc]

theorem Row.fr {S : List Nat} {w w' : World} {B : Nat} {a : Option Addr} {n sz : Nat} {cl : Nat → Array Value} (h : Row w B a n sz cl) (f : Fr S w w') (hs : ∀ b, b < B → b ∉ S) : Row w' B a n sz cl :=
  fun i hi => let ⟨b, o, h1, h2, h3, h4⟩ := h i hi; ⟨b, o, h1, h2, h3.fr f (hs b h2), h4⟩
theorem RV.fr {S : List Nat} {w w' : World} {B : Nat} {v : V} {cs : Array Value} (h : RV w B v cs) (f : Fr S w w') (hs : ∀ b, b < B → b ∉ S) : RV w' B v cs := by
  induction h with
  | mk cl cv hk hh ht ln kn vn ks hl rl hks hv rv ih1 ih2 => exact .mk cl cv hk hh ht ln kn vn ks (hl.fr f hs) ih1 (hks.fr f hs) (hv.fr f hs) ih2
theorem RV.size {w : World} {B : Nat} {v : V} {cs : Array Value} (h : RV w B v cs) : cs.size = 6 := by cases h; rfl
theorem Row.at {w : World} {B : Nat} {a : Option Addr} {n sz : Nat} {cl : Nat → Array Value} (h : Row w B a n sz cl) {i : Nat} (hi : i < n) : ∃ b o, a = some ⟨b, o, none⟩ ∧ b < B ∧ CellsAt w b (o + i * sz) (cl i) := by
  obtain ⟨b, o, h1, h2, h3, _⟩ := h i hi
  exact ⟨b, o, h1, h2, h3⟩
theorem Row.str {w : World} {B : Nat} {a : Option Addr} {keys : List ByteArray} (h : Row w B a keys.length 1 (strCells keys)) {i : Nat} (hi : i < keys.length) :
    ∃ b o, a = some ⟨b, o, none⟩ ∧ b < B ∧ w.cell? ⟨b, o + i * 1, none⟩ = some (.string keys[i]) := by
  obtain ⟨b, o, h1, h2, h3, _⟩ := h i hi
  refine ⟨b, o, h1, h2, ?_⟩
  have := h3.cell 0 (v := .string keys[i]) (by simp [strCells, List.getD_eq_getElem?_getD, hi])
  simpa using this

mutual
def V.nodes : V → Nat
  | .mk _ _ _ list _ vals => 1 + V.nodesL list + V.nodesL vals
def V.nodesL : List V → Nat
  | [] => 0
  | v :: r => v.nodes + V.nodesL r
end
def bytesK (keys : List ByteArray) : Nat := (keys.map (·.size)).sum
mutual
def V.bytes : V → Nat
  | .mk _ _ text list keys vals => text.size + V.bytesL list + bytesK keys + V.bytesL vals
def V.bytesL : List V → Nat
  | [] => 0
  | v :: r => v.bytes + V.bytesL r
end
def rising : List ByteArray → Prop
  | [] => True
  | [_] => True
  | a :: b :: r => Op.bytesLess a.toList b.toList = true ∧ rising (b :: r)
/-- What the statements call right: one node. -/
structure GoodN (kind half : Int) (text : ByteArray) (nl : Nat) (keys : List ByteArray) (nv : Nat) : Prop where
  krange : 0 ≤ kind ∧ kind ≤ 6
  hzero : kind = 3 ∨ half = 0
  tzero : kind = 4 ∨ text = ⟨#[]⟩
  lzero : kind = 5 ∨ nl = 0
  kzero : kind = 6 ∨ keys.length = 0
  same : keys.length = nv
  hbound : -18014398509481984 ≤ half ∧ half ≤ 18014398509481984
  hodd : half.tmod 2 = 0 ∨ (-9007199254740992 < half ∧ half < 9007199254740992)
  tvalid : Lib.validD text.data.toList = true
  kvalid : ∀ i (h : i < keys.length), Lib.validD keys[i].data.toList = true
  rise : ∀ i (h : i + 1 < keys.length), Op.bytesLess keys[i].toList keys[i + 1].toList = true
inductive Good : V → Prop
  | mk {kind half : Int} {text : ByteArray} {list : List V} {keys : List ByteArray} {vals : List V} (n : GoodN kind half text list.length keys vals.length)
      (hl : ∀ i (h : i < list.length), Good list[i]) (hv : ∀ i (h : i < vals.length), Good vals[i]) : Good (.mk kind half text list keys vals)

theorem nodesL_take {l : List V} : ∀ {k : Nat} (h : k < l.length), V.nodesL (l.take (k + 1)) = V.nodesL (l.take k) + l[k].nodes := by
  induction l with
  | nil => intro k h; cases h
  | cons v l ih =>
    intro k h
    cases k with
    | zero => simp [V.nodesL]
    | succ k =>
      have := ih (k := k) (by simpa using h)
      simp only [List.take_succ_cons, V.nodesL, this, List.getElem_cons_succ]
      omega
theorem bytesL_take {l : List V} : ∀ {k : Nat} (h : k < l.length), V.bytesL (l.take (k + 1)) = V.bytesL (l.take k) + l[k].bytes := by
  induction l with
  | nil => intro k h; cases h
  | cons v l ih =>
    intro k h
    cases k with
    | zero => simp [V.bytesL]
    | succ k =>
      have := ih (k := k) (by simpa using h)
      simp only [List.take_succ_cons, V.bytesL, this, List.getElem_cons_succ]
      omega
theorem bytesK_take {l : List ByteArray} : ∀ {k : Nat} (h : k < l.length), bytesK (l.take (k + 1)) = bytesK (l.take k) + l[k].size := by
  induction l with
  | nil => intro k h; cases h
  | cons v l ih =>
    intro k h
    cases k with
    | zero => simp [bytesK]
    | succ k =>
      have := ih (k := k) (by simpa using h)
      simp only [bytesK, List.take_succ_cons, List.map_cons, List.sum_cons, List.getElem_cons_succ] at this ⊢
      omega
theorem nodes_le {l : List V} {k : Nat} (h : k < l.length) : l[k].nodes ≤ V.nodesL l := by
  induction l generalizing k with
  | nil => cases h
  | cons v l ih =>
    cases k with
    | zero => simp [V.nodesL]
    | succ k => have := ih (k := k) (by simpa using h); simp only [List.getElem_cons_succ, V.nodesL]; omega
theorem nodes_pos (v : V) : 1 ≤ v.nodes := by cases v; simp only [V.nodes]; omega
theorem length_le_nodesL (l : List V) : l.length ≤ V.nodesL l := by
  induction l with
  | nil => simp [V.nodesL]
  | cons v l ih => have := nodes_pos v; simp only [List.length_cons, V.nodesL]; omega

section
variable {w : World} {B : Nat} {kind half : Int} {text : ByteArray} {list : List V} {keys : List ByteArray} {vals : List V} {la ka va : Option Addr} {ln kn vn lc kc vc : Nat}
theorem RV.shape {cs : Array Value} (h : RV w B (.mk kind half text list keys vals) cs) :
    ∃ la lc ka kc va vc, cs = #[.int .i64 kind, .int .i64 half, .string text, .slice la list.length lc, .slice ka keys.length kc, .slice va vals.length vc] := by
  cases h; exact ⟨_, _, _, _, _, _, rfl⟩
theorem RV.lens (h : RV w B (.mk kind half text list keys vals) #[.int .i64 kind, .int .i64 half, .string text, .slice la ln lc, .slice ka kn kc, .slice va vn vc]) :
    ln = list.length ∧ kn = keys.length ∧ vn = vals.length := by cases h; exact ⟨rfl, rfl, rfl⟩
theorem RV.elem (h : RV w B (.mk kind half text list keys vals) #[.int .i64 kind, .int .i64 half, .string text, .slice la ln lc, .slice ka kn kc, .slice va vn vc]) {k : Nat} (hk : k < list.length) :
    ∃ b o cl, la = some ⟨b, o, none⟩ ∧ b < B ∧ CellsAt w b (o + k * 6) cl ∧ cl.size = 6 ∧ RV w B list[k] cl := by
  cases h with
  | mk cl cv hk0 hh ht l1 k1 v1 ks hl rl hks hv rv =>
    obtain ⟨b, o, h1, h2, h3, h4⟩ := hl k hk
    exact ⟨b, o, cl k, h1, h2, h3, h4, rl k hk⟩
theorem RV.valAt (h : RV w B (.mk kind half text list keys vals) #[.int .i64 kind, .int .i64 half, .string text, .slice la ln lc, .slice ka kn kc, .slice va vn vc]) {k : Nat} (hk : k < vals.length) :
    ∃ b o cl, va = some ⟨b, o, none⟩ ∧ b < B ∧ CellsAt w b (o + k * 6) cl ∧ cl.size = 6 ∧ RV w B vals[k] cl := by
  cases h with
  | mk cl cv hk0 hh ht l1 k1 v1 ks hl rl hks hv rv =>
    obtain ⟨b, o, h1, h2, h3, h4⟩ := hv k hk
    exact ⟨b, o, cv k, h1, h2, h3, h4, rv k hk⟩
theorem RV.keyAt (h : RV w B (.mk kind half text list keys vals) #[.int .i64 kind, .int .i64 half, .string text, .slice la ln lc, .slice ka kn kc, .slice va vn vc]) {k : Nat} (hk : k < keys.length) :
    ∃ b o, ka = some ⟨b, o, none⟩ ∧ b < B ∧ w.cell? ⟨b, o + k * 1, none⟩ = some (.string keys[k]) ∧ keys[k].size ≤ 140737488351232 := by
  cases h with
  | mk cl cv hk0 hh ht l1 k1 v1 ks hl rl hks hv rv =>
    obtain ⟨b, o, h1, h2, h3⟩ := hks.str hk
    exact ⟨b, o, h1, h2, h3, ks _ (List.getElem_mem hk)⟩
theorem RV.bounds (h : RV w B (.mk kind half text list keys vals) #[.int .i64 kind, .int .i64 half, .string text, .slice la ln lc, .slice ka kn kc, .slice va vn vc]) :
    text.size ≤ 140737488351232 ∧ list.length ≤ 140737488351232 ∧ keys.length ≤ 140737488351232 ∧ vals.length ≤ 140737488351232 ∧
    (-9223372036854775808 ≤ kind ∧ kind ≤ 9223372036854775807) ∧ (-9223372036854775808 ≤ half ∧ half ≤ 9223372036854775807) := by
  cases h with
  | mk cl cv hk0 hh ht l1 k1 v1 ks hl rl hks hv rv => exact ⟨ht, l1, k1, v1, hk0, hh⟩
end
/-- Package utf8's two tables, as its text lays them. -/
def Tabs (w : World) : Prop := Lib.Utf8Tabs 0 1 w
theorem Tabs.fr {S : List Nat} {w w' : World} (h : Tabs w) (f : Fr S w w') (hs : ∀ b, b < 2 → b ∉ S) : Tabs w' := by
  have key : ∀ b o v, b < 2 → w.cell? ⟨b, o, none⟩ = some v → w'.cell? ⟨b, o, none⟩ = some v := fun b o v hb hc => f.cell hc (hs b hb)
  exact ⟨fun c hc => key _ _ _ (by decide) (h.1 c hc), fun i hi => ⟨key _ _ _ (by decide) (h.2 i hi).1, key _ _ _ (by decide) (h.2 i hi).2⟩⟩
end Go.Proofs.YtmbleojlnaofjaaDoor
