/- A round of reading back. -/
import Derived.Test.YtmbleojlnaofjaaGreatDoorHtml4
namespace Go.Proofs.YtmbleojlnaofjaaGreatDoor
open Go Go.RowKit D
set_option linter.unusedVariables false
set_option linter.unusedSimpArgs false


def nmC : Array Value := #[.string ⟨#[38, 108, 116, 59]⟩, .string ⟨#[38, 103, 116, 59]⟩, .string ⟨#[38, 97, 109, 112, 59]⟩, .string ⟨#[38, 35, 51, 57, 59]⟩, .string ⟨#[38, 113, 117, 111, 116, 59]⟩]
theorem nm_at : ∀ q, q < 5 → nmC[0 + q * 1]? = some (.string (nmT q))
  | 0, _ => rfl
  | 1, _ => rfl
  | 2, _ => rfl
  | 3, _ => rfl
  | 4, _ => rfl
  | q + 5, h => by omega
def signs : ByteArray := ⟨#[60, 62, 38, 39, 34]⟩
/-- Where the walk through the names stands: the length and the text. -/
def selN (κ : Option Nat) (q : Nat) : Nat := match κ with | some j => if j < q then (nmT j).size else 1 | none => 1
def selC (κ : Option Nat) (c : UInt8) (t1 : ByteArray) (q : Nat) : ByteArray := match κ with | some j => if j < q then ⟨#[c]⟩ else t1 | none => t1
/-- All that a round needs to know of a byte c of s that is read back. -/
theorem round_facts {s : ByteArray} {m : Nat} (hm : m < s.size) (h39 : ¬ s[m] = 39) : ∃ (κ : Option Nat) (tb : UInt8) (more : List UInt8), escL s.data.toList = escL (s.data.toList.take m) ++ (tb :: more) ∧
    (∀ q, q < 5 → Lib.hasPrefix (tb :: more) (nmT q).data.toList = decide (κ = some q)) ∧ ¬ tb = 60 ∧ ¬ tb = 62 ∧ ¬ tb = 39 ∧ ¬ tb = 34 ∧ (∀ j, κ = some j → j < 5 ∧ j ≠ 3 ∧ s[m] = sgT j ∧ (nmT j).size = (escB s[m]).length ∧ 4 ≤ (nmT j).size) ∧ (κ = none → tb = s[m] ∧ ¬ tb = 38 ∧ (escB s[m]).length = 1) := by
  have hl : m < s.data.toList.length := by simpa using hm
  have e1 : escL s.data.toList = escL (s.data.toList.take m) ++ (escB s[m] ++ escL (s.data.toList.drop (m + 1))) := by
    have h1 : s.data.toList = s.data.toList.take m ++ s.data.toList.drop m := (List.take_append_drop m _).symm
    have h2 : s.data.toList.drop m = s[m] :: s.data.toList.drop (m + 1) := List.drop_eq_getElem_cons hl
    conv => lhs; rw [h1, h2]
    simp [escL]
  rcases escB_cases s[m] h39 with ⟨j, hj, hj3, hs, he⟩ | ⟨hno, he⟩
  · have hne : ∃ rest, (nmT j).data.toList = 38 :: rest ∧ 4 ≤ (nmT j).size := by
      rcases (show j = 0 ∨ j = 1 ∨ j = 2 ∨ j = 4 by omega) with rfl | rfl | rfl | rfl <;> exact ⟨_, rfl, by decide⟩
    obtain ⟨rest, hr, h4⟩ := hne
    refine ⟨some j, 38, rest ++ escL (s.data.toList.drop (m + 1)), ?_, fun q hq => ?_, by decide, by decide, by decide, by decide, (fun j' hj' => ?_), (fun h => by cases h)⟩
    · rw [e1, he, hr]; rfl
    · have := pre_name j q hj hj3 hq (escL (s.data.toList.drop (m + 1)))
      rw [hr] at this
      rw [show (38 :: (rest ++ escL (s.data.toList.drop (m + 1)))) = 38 :: rest ++ escL (s.data.toList.drop (m + 1)) from rfl, this]
      simp [eq_comm]
    · cases hj'
      exact ⟨hj, hj3, hs, by rw [he, Lib.size_eq], h4⟩
  · refine ⟨none, s[m], escL (s.data.toList.drop (m + 1)), ?_, fun q hq => ?_, hno 0 (by omega), hno 1 (by omega), h39, hno 4 (by omega), (fun j hj => by cases hj), fun _ => ⟨rfl, hno 2 (by omega), by rw [he]; rfl⟩⟩
    · rw [e1, he]; rfl
    · rw [pre_other _ q hno hq]; simp


theorem escL_app (a b : List UInt8) : escL (a ++ b) = escL a ++ escL b := by simp only [escL, List.flatMap_append]
/-- A round, in the words of the walk: te the escaped text, i the place in it. -/
structure Round (s te : ByteArray) (m i : Nat) (c : UInt8) (κ : Option Nat) (tb : UInt8) (n : Nat) : Prop where
  htb : te.data.toList[i]? = some tb
  hle : i + n ≤ te.size
  hpos : 1 ≤ n
  hte : te.size ≤ 30000
  hbeg : ∀ q, q < 5 → ∀ wq : World, Calls Tryz.prog 21 #[.string (te.extract ((i : Int).toNat) te.size), .string (nmT q)] wq (Ret wq [] fun v _ => v = .bool (decide (κ = some q)))
  hn60 : ¬ tb = 60
  hn62 : ¬ tb = 62
  hn39 : ¬ tb = 39
  hn34 : ¬ tb = 34
  hn : n = (escB c).length
  hsome : ∀ j, κ = some j → j < 5 ∧ j ≠ 3 ∧ c = sgT j ∧ (nmT j).size = n ∧ 4 ≤ n
  hnone : κ = none → tb = c ∧ ¬ tb = 38 ∧ n = 1
theorem round_all {s te : ByteArray} {m i : Nat} (hte : te.data.toList = escL s.data.toList) (hi : i = (escL (s.data.toList.take m)).length) (hm : m < s.size) (h39 : ¬ s[m] = 39) (hs : s.size ≤ 4096) : ∃ (κ : Option Nat) (tb : UInt8) (n : Nat), Round s te m i s[m] κ tb n := by
  obtain ⟨κ, tb, more, he, hpre, h60, h62, h39', h34, hsome, hnone⟩ := round_facts hm h39
  have hsz : te.size = (escL s.data.toList).length := by rw [Lib.size_eq, hte]
  have hlen : (escL s.data.toList).length = i + (more.length + 1) := by rw [hi, he, List.length_append, List.length_cons]
  have hbig := escL_len s.data.toList
  have hss := Lib.size_eq s
  have hdrop : (te.extract ((i : Int).toNat) te.size).data.toList = tb :: more := by
    rw [ext_list _ _ _ (Nat.le_refl _), Lib.size_eq, List.take_length, Int.toNat_natCast, hte, hi, he]
    simp
  have hn : i + (escB s[m]).length ≤ te.size := by
    have e2 : escL (s.data.toList.take (m + 1)) = escL (s.data.toList.take m) ++ escB s[m] := escL_succ hm
    have e3 : s.data.toList = s.data.toList.take (m + 1) ++ s.data.toList.drop (m + 1) := (List.take_append_drop _ _).symm
    have e4 : (escL s.data.toList).length = (escL (s.data.toList.take (m + 1))).length + (escL (s.data.toList.drop (m + 1))).length := by
      rw [← List.length_append, ← escL_app, List.take_append_drop]
    rw [e2, List.length_append] at e4
    omega
  have hpos : 1 ≤ (escB s[m]).length := by
    unfold escB
    repeat' split
    all_goals simp
  refine ⟨κ, tb, (escB s[m]).length, ?_, hn, hpos, by omega, fun q hq wq => ?_, h60, h62, h39', h34, rfl, fun j hj => by obtain ⟨a1, a2, a3, a4, a5⟩ := hsome j hj; exact ⟨a1, a2, a3, a4, by omega⟩, hnone⟩
  · rw [hte, hi, he]; simp
  · have h := begins_any (te.extract ((i : Int).toNat) te.size) (nmT q) (by rw [Lib.size_eq, hdrop, List.length_cons]; omega) (by rcases (show q = 0 ∨ q = 1 ∨ q = 2 ∨ q = 3 ∨ q = 4 by omega) with rfl | rfl | rfl | rfl | rfl <;> decide) wq
    rw [hdrop, hpre q hq] at h
    exact h

end Go.Proofs.YtmbleojlnaofjaaGreatDoor
