/- The walk of impl.FormatHTML at texts. -/
import Derived.Test.YtmbleojlnaofjaaGreatDoorHtml2
namespace Go.Proofs.YtmbleojlnaofjaaGreatDoor
open Go Go.RowKit D
set_option linter.unusedVariables false
set_option linter.unusedSimpArgs false

theorem toHTML_any (s : ByteArray) (hs : s.size ≤ 4096) (w : World) : Calls Tryz.prog 77 #[.iface 9 (.string s)] w (Ret w [] fun v _ => v = .iface 9 (.string ⟨(escL s.data.toList).toArray⟩)) := by
  refine calls_of Tryz.func77 rfl rfl rfl rfl ?_
  have FR := Fr.refl [] w
  refine DC.seq ?_
  refine DC.region ?_
  refine DL.y rfl rfl (Y.assign) ?_
  refine DL.nil ?_
  show DC _ _ _ _ _ _
  refine DC.seq ?_
  refine DC.region ?_
  refine DL.y rfl rfl (Y.move) ?_
  refine DL.call rfl rfl F.nm76 rfl (toString_txt _ _) ?_
  rintro _ w1 f2 rfl
  replace FR := FR.tr0 f2
  refine DL.nil ?_
  show DC _ _ _ _ _ _
  refine DC.block ?_
  refine DC.seq ?_
  refine DC.region ?_
  refine DL.y rfl rfl (Y.asYes F.if9 rfl) ?_
  refine DL.y rfl rfl (Y.extract rfl rfl) ?_
  refine DL.y rfl rfl (Y.extract rfl rfl) ?_
  refine DL.nil ?_
  show DC _ _ _ _ _ _
  refine DC.condT rfl ?_
  refine DC.seq ?_
  refine DC.region ?_
  refine DL.y rfl rfl (Y.assign) ?_
  refine DL.nil ?_
  show DC _ _ _ _ _ _
  refine DC.seq ?_
  refine DC.region ?_
  refine DL.call rfl rfl F.nm125 rfl (escaper_any _) ?_
  rintro _ w3 f4 ⟨bt, rfl, lobt, hibt, hbt⟩
  replace FR := FR.tr0 f4
  refine DL.y rfl rfl (Y.move) ?_
  refine DL.call rfl rfl F.nm126 rfl (replace_any s bt hs _ hbt) ?_
  rintro _ w5 f6 rfl
  replace FR := FR.tr0 f6
  replace hbt := f6.blk0 hbt
  refine DL.y rfl rfl (Y.mkI F.if9) ?_
  refine DL.y rfl rfl (Y.assign) ?_
  refine DL.nil ?_
  show DC _ _ _ _ _ _
  refine DC.ret ?_
  exact FinQ.ret1 rfl (Ret.mk FR rfl)

theorem zzHTML_any (s : ByteArray) (hs : s.size ≤ 4096) (w : World) : Calls Tryz.prog 42 #[.iface 9 (.string s)] w (Ret w [] fun v _ => v = .iface 9 (.string ⟨(escL s.data.toList).toArray⟩)) := by
  refine calls_of Tryz.func42 rfl rfl rfl rfl ?_
  have FR := Fr.refl [] w
  refine DC.seq ?_
  refine DC.region ?_
  refine DL.y rfl rfl (Y.assign) ?_
  refine DL.nil ?_
  show DC _ _ _ _ _ _
  refine DC.seq ?_
  refine DC.region ?_
  refine DL.y rfl rfl (Y.move) ?_
  refine DL.call rfl rfl F.nm77 rfl (toHTML_any s hs _) ?_
  rintro _ w1 f2 rfl
  replace FR := FR.tr0 f2
  refine DL.y rfl rfl (Y.assign) ?_
  refine DL.nil ?_
  show DC _ _ _ _ _ _
  refine DC.ret ?_
  exact FinQ.ret1 rfl (Ret.mk FR rfl)

theorem FormatHTML_any (s : ByteArray) (hs : s.size ≤ 4096) (w : World) : Calls Tryz.prog 20 #[.agg (strC s)] w (Ret w [] fun v _ => v = .agg (strR ⟨(escL s.data.toList).toArray⟩)) := by
  refine calls_of Tryz.func20 rfl rfl rfl rfl ?_
  have FR := Fr.refl [] w
  refine DC.seq ?_
  refine DC.region ?_
  refine DL.boxA rfl rfl rfl ?_
  intro b1 w1 f2 lo1 hi1 hb1
  replace lo1 := Nat.le_trans FR.size lo1
  replace FR := FR.tr0 f2
  refine DL.alloc rfl rfl F.z34 rfl ?_
  intro b2 w3 f4 lo2 hi2 hb2
  have lt_b1_b2 : b1 < b2 := Nat.lt_of_lt_of_le hi1 lo2
  replace lo2 := Nat.le_trans FR.size lo2
  replace FR := FR.tr0 f4
  replace hb1 := f4.blk0 hb1
  replace hi1 := Nat.lt_of_lt_of_le hi1 f4.size
  refine DL.nil ?_
  show DC _ _ _ _ _ _
  refine DC.seq ?_
  refine DC.region ?_
  refine DL.y rfl rfl (Y.loadW rfl hb1 F.ag26) ?_
  refine DL.call rfl rfl F.nm36 rfl (toGo_txt _ _) ?_
  rintro _ w5 f6 rfl
  replace FR := FR.tr0 f6
  replace hb1 := f6.blk0 hb1
  replace hi1 := Nat.lt_of_lt_of_le hi1 f6.size
  replace hb2 := f6.blk0 hb2
  replace hi2 := Nat.lt_of_lt_of_le hi2 f6.size
  refine DL.y rfl rfl (Y.move) ?_
  refine DL.y rfl rfl (Y.extract rfl rfl) ?_
  refine DL.y rfl rfl (Y.extract rfl rfl) ?_
  refine DL.y rfl rfl (Y.assign) ?_
  refine DL.y rfl rfl (Y.assign) ?_
  refine DL.nil ?_
  show DC _ _ _ _ _ _
  refine DC.seq ?_
  refine DC.seq ?_
  refine DC.region ?_
  refine DL.y rfl rfl (Y.move) ?_
  refine DL.y rfl rfl (Y.not rfl) ?_
  refine DL.nil ?_
  show DC _ _ _ _ _ _
  refine DC.condF rfl ?_
  refine DC.skip ?_
  show DC _ _ _ _ _ _
  refine DC.seq ?_
  refine DC.region ?_
  refine DL.y rfl rfl (Y.move) ?_
  refine DL.call rfl rfl F.nm42 rfl (zzHTML_any s hs _) ?_
  rintro _ w7 f8 rfl
  replace FR := FR.tr0 f8
  replace hb1 := f8.blk0 hb1
  replace hi1 := Nat.lt_of_lt_of_le hi1 f8.size
  replace hb2 := f8.blk0 hb2
  replace hi2 := Nat.lt_of_lt_of_le hi2 f8.size
  refine DL.call rfl rfl F.nm37 rfl (result_txt _ _) ?_
  rintro _ w9 f10 rfl
  replace FR := FR.tr0 f10
  replace hb1 := f10.blk0 hb1
  replace hi1 := Nat.lt_of_lt_of_le hi1 f10.size
  replace hb2 := f10.blk0 hb2
  replace hi2 := Nat.lt_of_lt_of_le hi2 f10.size
  refine DL.storeA rfl F.ag34 rfl rfl rfl (by kernel_rfl) hb2 rfl ?_
  intro w11 f12 hs13 hb2'
  replace FR := FR.put f12 (by intro i hi; simp only [List.mem_cons, List.mem_singleton, List.not_mem_nil, or_false] at hi; rcases hi with rfl; all_goals (first | (left; simp; done) | (right; omega)))
  replace hb1 := f12.blk hb1 (by simp only [List.mem_cons, List.not_mem_nil, or_false, not_or]; omega)
  replace hi1 := Nat.lt_of_lt_of_le hi1 f12.size
  replace hi2 := Nat.lt_of_lt_of_le hi2 f12.size
  replace hb2 := hb2'
  refine DL.nil ?_
  show DC _ _ _ _ _ _
  refine DC.ret ?_
  exact FinQ.retC rfl (cs := strR ⟨(escL s.data.toList).toArray⟩) F.ag34 (.ofBlk hb2) (Ret.mk FR rfl)

end Go.Proofs.YtmbleojlnaofjaaGreatDoor
