/- Parts of trees of values: slices of strings, slices of values. -/
import Derived.Test.YtmbleojlnaofjaaDoorV
namespace Go.Proofs.YtmbleojlnaofjaaDoor
open Go Go.RowKit D
set_option linter.unusedVariables false
/-! ### The order of strings -/
def V.kind : V → Int | .mk kind _ _ _ _ _ => kind
theorem less_irr : ∀ l : List UInt8, Op.bytesLess l l = false
  | [] => rfl
  | a :: l => by simp [Op.bytesLess, less_irr l]
theorem less_trans : ∀ {a b c : List UInt8}, Op.bytesLess a b = true → Op.bytesLess b c = true → Op.bytesLess a c = true
  | _, [], _, h, _ => by cases ‹List UInt8› <;> simp [Op.bytesLess] at h
  | _, _ :: _, [], _, h => by simp [Op.bytesLess] at h
  | [], _ :: _, _ :: _, _, _ => rfl
  | x :: a, y :: b, z :: c, h, k => by
    simp only [Op.bytesLess, Bool.or_eq_true, Bool.and_eq_true, decide_eq_true_eq, beq_iff_eq] at h k ⊢
    rcases h with h | ⟨rfl, h⟩
    · rcases k with k | ⟨rfl, k⟩
      · exact .inl (UInt8.lt_trans h k)
      · exact .inl h
    · rcases k with k | ⟨rfl, k⟩
      · exact .inl k
      · exact .inr ⟨rfl, less_trans h k⟩
theorem rise_lt {keys : List ByteArray} (h : ∀ i (h : i + 1 < keys.length), Op.bytesLess keys[i].toList keys[i + 1].toList = true) : ∀ (d i : Nat) (hj : i + d + 1 < keys.length), Op.bytesLess (keys[i]'(by omega)).toList keys[i + d + 1].toList = true
  | 0, i, hj => h i hj
  | d + 1, i, hj => less_trans (rise_lt h d i (by omega)) (h (i + d + 1) hj)
theorem rise_ne {keys : List ByteArray} (h : ∀ i (h : i + 1 < keys.length), Op.bytesLess keys[i].toList keys[i + 1].toList = true) {i j : Nat} (hij : i < j) (hj : j < keys.length) : keys[i]'(by omega) ≠ keys[j] := by
  intro he
  have := rise_lt h (j - i - 1) i (by omega)
  simp only [show i + (j - i - 1) + 1 = j by omega] at this
  rw [he, less_irr] at this
  cases this
/-- A slice of strings that lies below B. -/
def RVK (w : World) (B : Nat) (a : Option Addr) (keys : List ByteArray) : Prop := ∀ k (hk : k < keys.length), ∃ b o, a = some ⟨b, o, none⟩ ∧ b < B ∧ w.cell? ⟨b, o + k * 1, none⟩ = some (.string keys[k]) ∧ keys[k].size ≤ 140737488351232
theorem RVK.fr {S : List Nat} {w w' : World} {B : Nat} {a : Option Addr} {keys : List ByteArray} (h : RVK w B a keys) (f : Fr S w w') (hs : ∀ b, b < B → b ∉ S) : RVK w' B a keys :=
  fun k hk => let ⟨b, o, h1, h2, h3, h4⟩ := h k hk; ⟨b, o, h1, h2, f.cell h3 (hs b h2), h4⟩
theorem RV.keys {w : World} {B : Nat} {kind half : Int} {text : ByteArray} {list : List V} {keys : List ByteArray} {vals : List V} {la ka va : Option Addr} {ln kn vn lc kc vc : Nat} (h : RV w B (.mk kind half text list keys vals) #[.int .i64 kind, .int .i64 half, .string text, .slice la ln lc, .slice ka kn kc, .slice va vn vc]) : RVK w B ka keys :=
  fun k hk => h.keyAt hk
/-- A list of values below B. -/
def RVL (w : World) (B : Nat) (a : Option Addr) (list : List V) : Prop := ∀ k (hk : k < list.length), ∃ b o cl, a = some ⟨b, o, none⟩ ∧ b < B ∧ CellsAt w b (o + k * 6) cl ∧ cl.size = 6 ∧ RV w B list[k] cl
theorem RVL.fr {S : List Nat} {w w' : World} {B : Nat} {a : Option Addr} {list : List V} (h : RVL w B a list) (f : Fr S w w') (hs : ∀ b, b < B → b ∉ S) : RVL w' B a list :=
  fun k hk => let ⟨b, o, cl, h1, h2, h3, h4, h5⟩ := h k hk; ⟨b, o, cl, h1, h2, h3.fr f (hs b h2), h4, h5.fr f hs⟩
section
variable {w : World} {B : Nat} {kind half : Int} {text : ByteArray} {list : List V} {keys : List ByteArray} {vals : List V} {la ka va : Option Addr} {ln kn vn lc kc vc : Nat}
theorem RV.lists (h : RV w B (.mk kind half text list keys vals) #[.int .i64 kind, .int .i64 half, .string text, .slice la ln lc, .slice ka kn kc, .slice va vn vc]) : RVL w B la list := fun k hk => h.elem hk
theorem RV.valss (h : RV w B (.mk kind half text list keys vals) #[.int .i64 kind, .int .i64 half, .string text, .slice la ln lc, .slice ka kn kc, .slice va vn vc]) : RVL w B va vals := fun k hk => h.valAt hk
end
end Go.Proofs.YtmbleojlnaofjaaDoor
