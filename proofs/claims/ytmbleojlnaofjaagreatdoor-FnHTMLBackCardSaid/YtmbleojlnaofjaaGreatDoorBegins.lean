/- The walk of laws.begins. -/
import Derived.Test.YtmbleojlnaofjaaGreatDoorO6
import Derived.Test.YtmbleojlnaofjaaGreatDoorF
import Derived.Test.YtmbleojlnaofjaaGreatDoorV
import Derived.Lib.Strings
namespace Go.Proofs.YtmbleojlnaofjaaGreatDoor
open Go Go.RowKit D
set_option linter.unusedVariables false
set_option linter.unusedSimpArgs false


/-! ### The plain law: pieces of a text -/
theorem size_len (s : ByteArray) : s.size = s.data.toList.length := Lib.size_eq s
theorem ext_list (s : ByteArray) (i j : Nat) (hj : j ≤ s.size) : (s.extract i j).data.toList = (s.data.toList.take j).drop i := by
  have hs := size_len s
  rw [ByteArray.data_extract, Array.toList_extract, List.extract_eq_take_drop, List.drop_take]
theorem ba_ext {a b : ByteArray} (h : a.data.toList = b.data.toList) : a = b := ByteArray.ext (Array.toList_inj.1 h)
theorem begins_eq (s t : ByteArray) : Lib.hasPrefix s.data.toList t.data.toList = (decide ((t.size : Int) ≤ (s.size : Int)) && decide (s.extract 0 ((t.size : Int).toNat) = t)) := by
  have hs := size_len s; have ht := size_len t
  rw [Bool.eq_iff_iff]
  simp only [Lib.hasPrefix, List.isPrefixOf_iff_prefix, Bool.and_eq_true, decide_eq_true_eq, Int.toNat_natCast]
  constructor
  · intro h
    have hl := h.length_le
    have hle : t.size ≤ s.size := by omega
    refine ⟨by omega, ba_ext ?_⟩
    rw [ext_list s 0 t.size hle, List.drop_zero, ht]
    exact (List.prefix_iff_eq_take.1 h).symm
  · rintro ⟨h1, h2⟩
    have hle : t.size ≤ s.size := by omega
    rw [List.prefix_iff_eq_take, ← ht, ← List.drop_zero (l := s.data.toList.take t.size), ← ext_list s 0 t.size hle, h2]

theorem begins_any (s t : ByteArray) (hs : s.size ≤ 140737488351232) (ht : t.size ≤ 140737488351232) (w : World) : Calls Tryz.prog 21 #[.string s, .string t] w (Ret w [] fun v _ => v = .bool (Lib.hasPrefix s.data.toList t.data.toList)) := by
  refine calls_of Tryz.func21 rfl rfl rfl rfl ?_
  have FR := Fr.refl [] w
  refine DC.seq ?_
  refine DC.region ?_
  refine DL.y rfl rfl (Y.assign) ?_
  refine DL.nil ?_
  show DC _ _ _ _ _ _
  refine DC.seq ?_
  refine DC.region ?_
  refine DL.y rfl rfl (Y.move) ?_
  refine DL.y rfl rfl (Y.lenStr Tryz.underlying9 rfl) ?_
  refine DL.y rfl rfl (Y.move) ?_
  refine DL.y rfl rfl (Y.lenStr Tryz.underlying9 rfl) ?_
  refine DL.if rfl rfl (Y.ge rfl rfl) (fun c9 => ?_) (fun c9 => ?_)
  · refine DL.y rfl rfl (Y.move) ?_
    refine DL.y rfl rfl (Y.move) ?_
    refine DL.y rfl rfl (Y.move) ?_
    refine DL.y rfl rfl (Y.lenStr Tryz.underlying9 rfl) ?_
    refine DL.y rfl rfl (Y.strH Tryz.underlying9 rfl rfl (by omega) (by omega)) ?_
    refine DL.y rfl rfl (Y.move) ?_
    refine DL.if rfl rfl (Y.seq rfl rfl) (fun c16 => ?_) (fun c16 => ?_)
    · refine DL.y rfl rfl (Y.pickT rfl) ?_
      refine DL.y rfl rfl (Y.assign) ?_
      refine DL.nil ?_
      show DC _ _ _ _ _ _
      refine DC.ret ?_
      refine FinQ.ret1 rfl (Ret.mk FR ?_)
      show Value.bool true = Value.bool _
      rw [begins_eq, decide_eq_true c9, decide_eq_true c16]; rfl
    · refine DL.y rfl rfl (Y.pickT rfl) ?_
      refine DL.y rfl rfl (Y.assign) ?_
      refine DL.nil ?_
      show DC _ _ _ _ _ _
      refine DC.ret ?_
      refine FinQ.ret1 rfl (Ret.mk FR ?_)
      show Value.bool false = Value.bool _
      rw [begins_eq, decide_eq_true c9, decide_eq_false c16]; rfl
  · refine DL.y rfl rfl (Y.move) ?_
    refine DL.skip rfl rfl ?_
    refine DL.skip rfl rfl ?_
    refine DL.skip rfl rfl ?_
    refine DL.skip rfl rfl ?_
    refine DL.skip rfl rfl ?_
    refine DL.skip rfl rfl ?_
    refine DL.y rfl rfl (Y.pickF rfl) ?_
    refine DL.y rfl rfl (Y.assign) ?_
    refine DL.nil ?_
    show DC _ _ _ _ _ _
    refine DC.ret ?_
    refine FinQ.ret1 rfl (Ret.mk FR ?_)
    show Value.bool false = Value.bool _
    rw [begins_eq, decide_eq_false c9]; rfl

end Go.Proofs.YtmbleojlnaofjaaGreatDoor
