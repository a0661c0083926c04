/- Reading escaped bytes back. -/
import Derived.Test.YtmbleojlnaofjaaGreatDoorHtml3
import Derived.Test.YtmbleojlnaofjaaGreatDoorBegins
namespace Go.Proofs.YtmbleojlnaofjaaGreatDoor
open Go Go.RowKit D
set_option linter.unusedVariables false
set_option linter.unusedSimpArgs false


/-! ### Reading escaped bytes back -/
def nmT : Nat → ByteArray
  | 0 => ⟨#[38, 108, 116, 59]⟩
  | 1 => ⟨#[38, 103, 116, 59]⟩
  | 2 => ⟨#[38, 97, 109, 112, 59]⟩
  | 3 => ⟨#[38, 35, 51, 57, 59]⟩
  | 4 => ⟨#[38, 113, 117, 111, 116, 59]⟩
  | _ => ⟨#[]⟩
def sgT : Nat → UInt8
  | 0 => 60
  | 1 => 62
  | 2 => 38
  | 3 => 39
  | 4 => 34
  | _ => 0
theorem escB_cases (c : UInt8) (h : ¬ c = 39) : (∃ k, k < 5 ∧ k ≠ 3 ∧ c = sgT k ∧ escB c = (nmT k).data.toList) ∨ ((∀ k, k < 5 → ¬ c = sgT k) ∧ escB c = [c]) := by
  by_cases h0 : c = 60
  · exact Or.inl ⟨0, by omega, by omega, h0, by rw [h0]; rfl⟩
  by_cases h1 : c = 62
  · exact Or.inl ⟨1, by omega, by omega, h1, by rw [h1]; rfl⟩
  by_cases h2 : c = 38
  · exact Or.inl ⟨2, by omega, by omega, h2, by rw [h2]; rfl⟩
  by_cases h4 : c = 34
  · exact Or.inl ⟨4, by omega, by omega, h4, by rw [h4]; rfl⟩
  refine Or.inr ⟨fun k hk => ?_, by simp [escB, h0, h1, h2, h, h4]⟩
  rcases (show k = 0 ∨ k = 1 ∨ k = 2 ∨ k = 3 ∨ k = 4 by omega) with rfl | rfl | rfl | rfl | rfl
  · exact h0
  · exact h1
  · exact h2
  · exact h
  · exact h4
theorem pre_name (k q : Nat) (hk : k < 5) (hk3 : k ≠ 3) (hq : q < 5) (rest : List UInt8) : Lib.hasPrefix ((nmT k).data.toList ++ rest) (nmT q).data.toList = decide (q = k) := by
  rcases (show k = 0 ∨ k = 1 ∨ k = 2 ∨ k = 4 by omega) with rfl | rfl | rfl | rfl <;>
  rcases (show q = 0 ∨ q = 1 ∨ q = 2 ∨ q = 3 ∨ q = 4 by omega) with rfl | rfl | rfl | rfl | rfl <;>
  simp [Lib.hasPrefix, nmT, List.isPrefixOf]
theorem pre_other (c : UInt8) (q : Nat) (hc : ∀ k, k < 5 → ¬ c = sgT k) (hq : q < 5) (rest : List UInt8) : Lib.hasPrefix (c :: rest) (nmT q).data.toList = false := by
  have h2 : ¬ 38 = c := fun h => hc 2 (by omega) h.symm
  rcases (show q = 0 ∨ q = 1 ∨ q = 2 ∨ q = 3 ∨ q = 4 by omega) with rfl | rfl | rfl | rfl | rfl <;>
  simp [Lib.hasPrefix, nmT, List.isPrefixOf, h2]

end Go.Proofs.YtmbleojlnaofjaaGreatDoor
