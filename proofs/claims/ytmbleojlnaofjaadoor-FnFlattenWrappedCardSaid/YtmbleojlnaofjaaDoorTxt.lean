/- Texts and null: from a value to the program's own and back. -/
import Derived.Test.YtmbleojlnaofjaaDoorO3
import Derived.Test.YtmbleojlnaofjaaDoorF
import Derived.Test.YtmbleojlnaofjaaDoorRK
import Derived.Test.YtmbleojlnaofjaaDoorSame
namespace Go.Proofs.YtmbleojlnaofjaaDoor
open Go Go.RowKit D
set_option linter.unusedVariables false
set_option linter.unusedSimpArgs false


/-- A text, null, as the laws hand them about. -/
def strC (s : ByteArray) : Array Value := #[.int .i64 4, .int .i64 0, .string s, .slice none 0 0, .slice none 0 0, .slice none 0 0]
def nulC : Array Value := #[.int .i64 0, .int .i64 0, .string ⟨#[]⟩, .slice none 0 0, .slice none 0 0, .slice none 0 0]
def strR (s : ByteArray) : Array Value := #[.int .i64 4, .int .i64 0, .string s, .slice none 0 0, .slice none 0 0, .slice none 0 0, .int .i64 0]
def nulR : Array Value := #[.int .i64 0, .int .i64 0, .string ⟨#[]⟩, .slice none 0 0, .slice none 0 0, .slice none 0 0, .int .i64 0]
def strV (s : ByteArray) : V := .mk 4 0 s [] [] []
def nulV : V := .mk 0 0 ⟨#[]⟩ [] [] []
theorem strRV (w : World) (B : Nat) (s : ByteArray) (h : s.size ≤ 140737488351232) : RV w B (strV s) (strC s) :=
  .mk (fun _ => #[]) (fun _ => #[]) (by omega) (by omega) h (by simp) (by simp) (by simp) (by simp) (fun i hi => absurd hi (by simp)) (fun i hi => absurd hi (by simp)) (fun i hi => absurd hi (by simp)) (fun i hi => absurd hi (by simp)) (fun i hi => absurd hi (by simp))
theorem nulRV (w : World) (B : Nat) : RV w B nulV nulC :=
  .mk (fun _ => #[]) (fun _ => #[]) (by omega) (by omega) (by decide) (by simp) (by simp) (by simp) (by simp) (fun i hi => absurd hi (by simp)) (fun i hi => absurd hi (by simp)) (fun i hi => absurd hi (by simp)) (fun i hi => absurd hi (by simp)) (fun i hi => absurd hi (by simp))

theorem Str_any (s : ByteArray) (w : World) : Calls Tryd.prog 10 #[.string s] w (Ret w [] fun v _ => v = .agg (strC s)) := by
  refine calls_of Tryd.func10 rfl rfl rfl rfl ?_
  have FR := Fr.refl [] w
  refine DC.seq ?_
  refine DC.region ?_
  refine DL.alloc rfl rfl F.z26 rfl ?_
  intro b2 w1 f2 lo2 hi2 hb2
  replace lo2 := Nat.le_trans FR.size lo2
  replace FR := FR.tr0 f2
  refine DL.nil ?_
  show DC _ _ _ _ _ _
  refine DC.seq ?_
  refine DC.region ?_
  refine DL.y rfl rfl (Y.move) ?_
  refine DL.y rfl rfl (Y.build (cs := strC s) (by kernel_rfl)) ?_
  refine DL.storeA rfl F.ag26 rfl rfl rfl (by kernel_rfl) hb2 rfl ?_
  intro w3 f4 hs5 hb2'
  replace FR := FR.put f4 (by intro i hi; simp only [List.mem_cons, List.mem_singleton, List.not_mem_nil, or_false] at hi; rcases hi with rfl; all_goals (first | (left; simp; done) | (right; omega)))
  replace hi2 := Nat.lt_of_lt_of_le hi2 f4.size
  replace hb2 := hb2'
  refine DL.nil ?_
  show DC _ _ _ _ _ _
  refine DC.ret ?_
  exact FinQ.retC rfl (cs := strC s) F.ag26 (.ofBlk hb2) (Ret.mk FR rfl)

theorem toGo_txt (s : ByteArray) (w : World) : Calls Tryd.prog 24 #[.agg (strC s)] w (Ret w [] fun v _ => v = .tuple #[.iface 9 (.string s), .bool true]) := by
  refine calls_of Tryd.func24 rfl rfl rfl rfl ?_
  have FR := Fr.refl [] w
  refine DC.seq ?_
  refine DC.region ?_
  refine DL.boxA rfl rfl rfl ?_
  intro b1 w1 f2 lo1 hi1 hb1
  replace lo1 := Nat.le_trans FR.size lo1
  replace FR := FR.tr0 f2
  refine DL.y rfl rfl (Y.assign) ?_
  refine DL.y rfl rfl (Y.assign) ?_
  refine DL.nil ?_
  show DC _ _ _ _ _ _
  refine DC.seq ?_
  refine DC.seq ?_
  refine DC.region ?_
  refine DL.y rfl rfl (Y.field F.fd26_0 rfl) ?_
  refine DL.y rfl rfl (Y.loadB F.sc22 rfl hb1 rfl) ?_
  refine DL.nil ?_
  show DC _ _ _ _ _ _
  refine DC.block ?_
  refine DC.seq ?_
  refine DC.region ?_
  refine DL.if rfl rfl (Y.eq rfl rfl) (fun c7 => ?_) (fun c7 => ?_)
  · exfalso; omega
  · refine DL.y rfl rfl (Y.assign) ?_
    refine DL.nil ?_
    show DC _ _ _ _ _ _
    refine DC.condF rfl ?_
    refine DC.seq ?_
    refine DC.region ?_
    refine DL.if rfl rfl (Y.eq rfl rfl) (fun c9 => ?_) (fun c9 => ?_)
    · exfalso; omega
    · refine DL.y rfl rfl (Y.assign) ?_
      refine DL.nil ?_
      show DC _ _ _ _ _ _
      refine DC.condF rfl ?_
      refine DC.seq ?_
      refine DC.region ?_
      refine DL.if rfl rfl (Y.eq rfl rfl) (fun c12 => ?_) (fun c12 => ?_)
      · exfalso; omega
      · refine DL.y rfl rfl (Y.assign) ?_
        refine DL.nil ?_
        show DC _ _ _ _ _ _
        refine DC.condF rfl ?_
        refine DC.seq ?_
        refine DC.region ?_
        refine DL.if rfl rfl (Y.eq rfl rfl) (fun c15 => ?_) (fun c15 => ?_)
        · exfalso; omega
        · refine DL.y rfl rfl (Y.assign) ?_
          refine DL.nil ?_
          show DC _ _ _ _ _ _
          refine DC.condF rfl ?_
          refine DC.seq ?_
          refine DC.region ?_
          refine DL.if rfl rfl (Y.eq rfl rfl) (fun c30 => ?_) (fun c30 => ?_)
          · refine DL.y rfl rfl (Y.assign) ?_
            refine DL.nil ?_
            show DC _ _ _ _ _ _
            refine DC.condT rfl ?_
            refine DC.seq ?_
            refine DC.region ?_
            refine DL.y rfl rfl (Y.field F.fd26_2 rfl) ?_
            refine DL.y rfl rfl (Y.loadB F.sc9 rfl hb1 rfl) ?_
            refine DL.y rfl rfl (Y.mkI F.if9) ?_
            refine DL.y rfl rfl (Y.assign) ?_
            refine DL.y rfl rfl (Y.assign) ?_
            refine DL.nil ?_
            show DC _ _ _ _ _ _
            refine DC.ret ?_
            exact FinQ.ret2 rfl rfl (Ret.mk FR rfl)
          · exfalso; omega

theorem fromGo_txt (s : ByteArray) (w : World) : Calls Tryd.prog 43 #[.iface 9 (.string s)] w (Ret w [] fun v _ => v = .tuple #[.agg (strC s), .bool true]) := by
  refine calls_of Tryd.func43 rfl rfl rfl rfl ?_
  have FR := Fr.refl [] w
  refine DC.seq ?_
  refine DC.region ?_
  refine DL.alloc rfl rfl F.z26 rfl ?_
  intro b2 w1 f2 lo2 hi2 hb2
  replace lo2 := Nat.le_trans FR.size lo2
  replace FR := FR.tr0 f2
  refine DL.y rfl rfl (Y.assign) ?_
  refine DL.nil ?_
  show DC _ _ _ _ _ _
  refine DC.seq ?_
  refine DC.seq ?_
  refine DC.region ?_
  refine DL.y rfl rfl (Y.move) ?_
  refine DL.nil ?_
  show DC _ _ _ _ _ _
  refine DC.block ?_
  refine DC.seq ?_
  refine DC.region ?_
  refine DL.y rfl rfl (Y.eqNilI Tryd.underlying20 rfl) ?_
  refine DL.nil ?_
  show DC _ _ _ _ _ _
  refine DC.condF rfl ?_
  refine DC.seq ?_
  refine DC.region ?_
  refine DL.y rfl rfl (Y.asNo F.if4 F.z4 rfl rfl) ?_
  refine DL.y rfl rfl (Y.extract rfl rfl) ?_
  refine DL.y rfl rfl (Y.extract rfl rfl) ?_
  refine DL.nil ?_
  show DC _ _ _ _ _ _
  refine DC.condF rfl ?_
  refine DC.seq ?_
  refine DC.region ?_
  refine DL.y rfl rfl (Y.asNo F.if3 F.z3 rfl rfl) ?_
  refine DL.y rfl rfl (Y.extract rfl rfl) ?_
  refine DL.y rfl rfl (Y.extract rfl rfl) ?_
  refine DL.nil ?_
  show DC _ _ _ _ _ _
  refine DC.condF rfl ?_
  refine DC.seq ?_
  refine DC.region ?_
  refine DL.y rfl rfl (Y.asNo F.if64 F.z64 rfl rfl) ?_
  refine DL.y rfl rfl (Y.extract rfl rfl) ?_
  refine DL.y rfl rfl (Y.extract rfl rfl) ?_
  refine DL.nil ?_
  show DC _ _ _ _ _ _
  refine DC.condF rfl ?_
  refine DC.seq ?_
  refine DC.region ?_
  refine DL.y rfl rfl (Y.asYes F.if9 rfl) ?_
  refine DL.y rfl rfl (Y.extract rfl rfl) ?_
  refine DL.y rfl rfl (Y.extract rfl rfl) ?_
  refine DL.nil ?_
  show DC _ _ _ _ _ _
  refine DC.condT rfl ?_
  refine DC.seq ?_
  refine DC.region ?_
  refine DL.y rfl rfl (Y.assign) ?_
  refine DL.nil ?_
  show DC _ _ _ _ _ _
  refine DC.seq ?_
  refine DC.region ?_
  refine DL.y rfl rfl (Y.move) ?_
  refine DL.y rfl rfl (Y.build (cs := strC s) (by kernel_rfl)) ?_
  refine DL.storeA rfl F.ag26 rfl rfl rfl (by kernel_rfl) hb2 rfl ?_
  intro w3 f4 hs5 hb2'
  replace FR := FR.put f4 (by intro i hi; simp only [List.mem_cons, List.mem_singleton, List.not_mem_nil, or_false] at hi; rcases hi with rfl; all_goals (first | (left; simp; done) | (right; omega)))
  replace hi2 := Nat.lt_of_lt_of_le hi2 f4.size
  replace hb2 := hb2'
  refine DL.y rfl rfl (Y.assign) ?_
  refine DL.nil ?_
  show DC _ _ _ _ _ _
  refine DC.ret ?_
  exact FinQ.retCT rfl (cs := strC s) F.ag26 (.ofBlk hb2) rfl (Ret.mk FR rfl)

theorem fromGo_nil  (w : World) : Calls Tryd.prog 43 #[.nilIface] w (Ret w [] fun v _ => v = .tuple #[.agg (nulC), .bool true]) := by
  refine calls_of Tryd.func43 rfl rfl rfl rfl ?_
  have FR := Fr.refl [] w
  refine DC.seq ?_
  refine DC.region ?_
  refine DL.alloc rfl rfl F.z26 rfl ?_
  intro b2 w1 f2 lo2 hi2 hb2
  replace lo2 := Nat.le_trans FR.size lo2
  replace FR := FR.tr0 f2
  refine DL.y rfl rfl (Y.assign) ?_
  refine DL.nil ?_
  show DC _ _ _ _ _ _
  refine DC.seq ?_
  refine DC.seq ?_
  refine DC.region ?_
  refine DL.y rfl rfl (Y.move) ?_
  refine DL.nil ?_
  show DC _ _ _ _ _ _
  refine DC.block ?_
  refine DC.seq ?_
  refine DC.region ?_
  refine DL.y rfl rfl (Y.eqNilN Tryd.underlying20 rfl) ?_
  refine DL.nil ?_
  show DC _ _ _ _ _ _
  refine DC.condT rfl ?_
  refine DC.seq ?_
  refine DC.region ?_
  refine DL.y rfl rfl (Y.assign) ?_
  refine DL.nil ?_
  show DC _ _ _ _ _ _
  refine DC.seq ?_
  refine DC.region ?_
  refine DL.y rfl rfl (Y.build (cs := nulC) (by kernel_rfl)) ?_
  refine DL.storeA rfl F.ag26 rfl rfl rfl (by kernel_rfl) hb2 rfl ?_
  intro w3 f4 hs5 hb2'
  replace FR := FR.put f4 (by intro i hi; simp only [List.mem_cons, List.mem_singleton, List.not_mem_nil, or_false] at hi; rcases hi with rfl; all_goals (first | (left; simp; done) | (right; omega)))
  replace hi2 := Nat.lt_of_lt_of_le hi2 f4.size
  replace hb2 := hb2'
  refine DL.y rfl rfl (Y.assign) ?_
  refine DL.nil ?_
  show DC _ _ _ _ _ _
  refine DC.ret ?_
  exact FinQ.retCT rfl (cs := nulC) F.ag26 (.ofBlk hb2) rfl (Ret.mk FR rfl)

theorem result_txt (s : ByteArray) (w : World) : Calls Tryd.prog 28 #[.iface 9 (.string s)] w (Ret w [] fun v _ => v = .agg (strR s)) := by
  refine calls_of Tryd.func28 rfl rfl rfl rfl ?_
  have FR := Fr.refl [] w
  refine DC.seq ?_
  refine DC.region ?_
  refine DL.alloc rfl rfl F.z34 rfl ?_
  intro b2 w1 f2 lo2 hi2 hb2
  replace lo2 := Nat.le_trans FR.size lo2
  replace FR := FR.tr0 f2
  refine DL.nil ?_
  show DC _ _ _ _ _ _
  refine DC.seq ?_
  refine DC.seq ?_
  refine DC.region ?_
  refine DL.y rfl rfl (Y.move) ?_
  refine DL.y rfl rfl (Y.asIfNo (by kernel_rfl) F.z73 rfl) ?_
  refine DL.y rfl rfl (Y.move) ?_
  refine DL.y rfl rfl (Y.extract rfl rfl) ?_
  refine DL.y rfl rfl (Y.extract rfl rfl) ?_
  refine DL.y rfl rfl (Y.assign) ?_
  refine DL.y rfl rfl (Y.assign) ?_
  refine DL.nil ?_
  show DC _ _ _ _ _ _
  refine DC.seq ?_
  refine DC.region ?_
  refine DL.y rfl rfl (Y.move) ?_
  refine DL.nil ?_
  show DC _ _ _ _ _ _
  refine DC.condF rfl ?_
  refine DC.skip ?_
  show DC _ _ _ _ _ _
  refine DC.seq ?_
  refine DC.region ?_
  refine DL.y rfl rfl (Y.move) ?_
  refine DL.call rfl rfl F.nm43 rfl (fromGo_txt _ _) ?_
  rintro _ w3 f4 rfl
  replace FR := FR.tr0 f4
  replace hb2 := f4.blk0 hb2
  replace hi2 := Nat.lt_of_lt_of_le hi2 f4.size
  refine DL.y rfl rfl (Y.move) ?_
  refine DL.y rfl rfl (Y.extract rfl rfl) ?_
  refine DL.y rfl rfl (Y.extract rfl rfl) ?_
  refine DL.alloc rfl rfl F.z26 rfl ?_
  intro b5 w5 f6 lo5 hi5 hb5
  have lt_b2_b5 : b2 < b5 := Nat.lt_of_lt_of_le hi2 lo5
  replace lo5 := Nat.le_trans FR.size lo5
  replace FR := FR.tr0 f6
  replace hb2 := f6.blk0 hb2
  replace hi2 := Nat.lt_of_lt_of_le hi2 f6.size
  refine DL.storeA rfl F.ag26 rfl rfl rfl (by kernel_rfl) hb5 rfl ?_
  intro w7 f8 hs9 hb5'
  replace FR := FR.put f8 (by intro i hi; simp only [List.mem_cons, List.mem_singleton, List.not_mem_nil, or_false] at hi; rcases hi with rfl; all_goals (first | (left; simp; done) | (right; omega)))
  replace hb2 := f8.blk hb2 (by simp only [List.mem_cons, List.not_mem_nil, or_false, not_or]; omega)
  replace hi2 := Nat.lt_of_lt_of_le hi2 f8.size
  replace hi5 := Nat.lt_of_lt_of_le hi5 f8.size
  replace hb5 := hb5'
  refine DL.y rfl rfl (Y.assign) ?_
  refine DL.nil ?_
  show DC _ _ _ _ _ _
  refine DC.seq ?_
  refine DC.seq ?_
  refine DC.region ?_
  refine DL.y rfl rfl (Y.move) ?_
  refine DL.y rfl rfl (Y.not rfl) ?_
  refine DL.nil ?_
  show DC _ _ _ _ _ _
  refine DC.condF rfl ?_
  refine DC.skip ?_
  show DC _ _ _ _ _ _
  refine DC.seq ?_
  refine DC.region ?_
  refine DL.y rfl rfl (Y.loadW rfl hb5 F.ag26) ?_
  refine DL.y rfl rfl (Y.build (cs := strR s) (by kernel_rfl)) ?_
  refine DL.storeA rfl F.ag34 rfl rfl rfl (by kernel_rfl) hb2 rfl ?_
  intro w10 f11 hs12 hb2'
  replace FR := FR.put f11 (by intro i hi; simp only [List.mem_cons, List.mem_singleton, List.not_mem_nil, or_false] at hi; rcases hi with rfl; all_goals (first | (left; simp; done) | (right; omega)))
  replace hi2 := Nat.lt_of_lt_of_le hi2 f11.size
  replace hi5 := Nat.lt_of_lt_of_le hi5 f11.size
  replace hb5 := f11.blk hb5 (by simp only [List.mem_cons, List.not_mem_nil, or_false, not_or]; omega)
  replace hb2 := hb2'
  refine DL.nil ?_
  show DC _ _ _ _ _ _
  refine DC.ret ?_
  exact FinQ.retC rfl (cs := strR s) F.ag34 (.ofBlk hb2) (Ret.mk FR rfl)

theorem result_nil  (w : World) : Calls Tryd.prog 28 #[.nilIface] w (Ret w [] fun v _ => v = .agg (nulR)) := by
  refine calls_of Tryd.func28 rfl rfl rfl rfl ?_
  have FR := Fr.refl [] w
  refine DC.seq ?_
  refine DC.region ?_
  refine DL.alloc rfl rfl F.z34 rfl ?_
  intro b2 w1 f2 lo2 hi2 hb2
  replace lo2 := Nat.le_trans FR.size lo2
  replace FR := FR.tr0 f2
  refine DL.nil ?_
  show DC _ _ _ _ _ _
  refine DC.seq ?_
  refine DC.seq ?_
  refine DC.region ?_
  refine DL.y rfl rfl (Y.move) ?_
  refine DL.y rfl rfl (Y.asIfNil (by kernel_rfl) F.z73 rfl) ?_
  refine DL.y rfl rfl (Y.move) ?_
  refine DL.y rfl rfl (Y.extract rfl rfl) ?_
  refine DL.y rfl rfl (Y.extract rfl rfl) ?_
  refine DL.y rfl rfl (Y.assign) ?_
  refine DL.y rfl rfl (Y.assign) ?_
  refine DL.nil ?_
  show DC _ _ _ _ _ _
  refine DC.seq ?_
  refine DC.region ?_
  refine DL.y rfl rfl (Y.move) ?_
  refine DL.nil ?_
  show DC _ _ _ _ _ _
  refine DC.condF rfl ?_
  refine DC.skip ?_
  show DC _ _ _ _ _ _
  refine DC.seq ?_
  refine DC.region ?_
  refine DL.y rfl rfl (Y.move) ?_
  refine DL.call rfl rfl F.nm43 rfl (fromGo_nil  _) ?_
  rintro _ w3 f4 rfl
  replace FR := FR.tr0 f4
  replace hb2 := f4.blk0 hb2
  replace hi2 := Nat.lt_of_lt_of_le hi2 f4.size
  refine DL.y rfl rfl (Y.move) ?_
  refine DL.y rfl rfl (Y.extract rfl rfl) ?_
  refine DL.y rfl rfl (Y.extract rfl rfl) ?_
  refine DL.alloc rfl rfl F.z26 rfl ?_
  intro b5 w5 f6 lo5 hi5 hb5
  have lt_b2_b5 : b2 < b5 := Nat.lt_of_lt_of_le hi2 lo5
  replace lo5 := Nat.le_trans FR.size lo5
  replace FR := FR.tr0 f6
  replace hb2 := f6.blk0 hb2
  replace hi2 := Nat.lt_of_lt_of_le hi2 f6.size
  refine DL.storeA rfl F.ag26 rfl rfl rfl (by kernel_rfl) hb5 rfl ?_
  intro w7 f8 hs9 hb5'
  replace FR := FR.put f8 (by intro i hi; simp only [List.mem_cons, List.mem_singleton, List.not_mem_nil, or_false] at hi; rcases hi with rfl; all_goals (first | (left; simp; done) | (right; omega)))
  replace hb2 := f8.blk hb2 (by simp only [List.mem_cons, List.not_mem_nil, or_false, not_or]; omega)
  replace hi2 := Nat.lt_of_lt_of_le hi2 f8.size
  replace hi5 := Nat.lt_of_lt_of_le hi5 f8.size
  replace hb5 := hb5'
  refine DL.y rfl rfl (Y.assign) ?_
  refine DL.nil ?_
  show DC _ _ _ _ _ _
  refine DC.seq ?_
  refine DC.seq ?_
  refine DC.region ?_
  refine DL.y rfl rfl (Y.move) ?_
  refine DL.y rfl rfl (Y.not rfl) ?_
  refine DL.nil ?_
  show DC _ _ _ _ _ _
  refine DC.condF rfl ?_
  refine DC.skip ?_
  show DC _ _ _ _ _ _
  refine DC.seq ?_
  refine DC.region ?_
  refine DL.y rfl rfl (Y.loadW rfl hb5 F.ag26) ?_
  refine DL.y rfl rfl (Y.build (cs := nulR) (by kernel_rfl)) ?_
  refine DL.storeA rfl F.ag34 rfl rfl rfl (by kernel_rfl) hb2 rfl ?_
  intro w10 f11 hs12 hb2'
  replace FR := FR.put f11 (by intro i hi; simp only [List.mem_cons, List.mem_singleton, List.not_mem_nil, or_false] at hi; rcases hi with rfl; all_goals (first | (left; simp; done) | (right; omega)))
  replace hi2 := Nat.lt_of_lt_of_le hi2 f11.size
  replace hi5 := Nat.lt_of_lt_of_le hi5 f11.size
  replace hb5 := f11.blk hb5 (by simp only [List.mem_cons, List.not_mem_nil, or_false, not_or]; omega)
  replace hb2 := hb2'
  refine DL.nil ?_
  show DC _ _ _ _ _ _
  refine DC.ret ?_
  exact FinQ.retC rfl (cs := nulR) F.ag34 (.ofBlk hb2) (Ret.mk FR rfl)

theorem says_any (v : V) (c0 c1 c2 c3 c4 c5 : Value) (cb : Array Value) (B : Nat) (w : World) (hA : RV w B v #[c0, c1, c2, c3, c4, c5]) (hB : RV w B v cb) :
    Calls Tryd.prog 15 #[.agg #[c0, c1, c2, c3, c4, c5, .int .i64 0], .agg cb] w (Ret w [] fun r _ => r = .bool true) := by
  have sb := hB.size
  obtain ⟨kind, half, text, list, keys, vals⟩ := v
  obtain ⟨lb, ld, kb, kd, vb, vd, rfl⟩ := hB.shape
  refine calls_of Tryd.func15 rfl rfl rfl rfl ?_
  have FR := Fr.refl [] w
  refine DC.seq ?_
  refine DC.region ?_
  refine DL.boxA rfl rfl rfl ?_
  intro b2 w1 f2 lo2 hi2 hb2
  replace lo2 := Nat.le_trans FR.size lo2
  replace FR := FR.tr0 f2
  replace hA := hA.fr f2 (by intro x hx; simp <;> omega)
  replace hB := hB.fr f2 (by intro x hx; simp <;> omega)
  refine DL.boxA rfl rfl rfl ?_
  intro b3 w3 f4 lo3 hi3 hb3
  have lt_b2_b3 : b2 < b3 := Nat.lt_of_lt_of_le hi2 lo3
  replace lo3 := Nat.le_trans FR.size lo3
  replace FR := FR.tr0 f4
  replace hA := hA.fr f4 (by intro x hx; simp <;> omega)
  replace hB := hB.fr f4 (by intro x hx; simp <;> omega)
  replace hb2 := f4.blk0 hb2
  replace hi2 := Nat.lt_of_lt_of_le hi2 f4.size
  refine DL.y rfl rfl (Y.assign) ?_
  refine DL.nil ?_
  show DC _ _ _ _ _ _
  refine DC.seq ?_
  refine DC.region ?_
  refine DL.y rfl rfl (Y.field F.fd34_1 rfl) ?_
  refine DL.y rfl rfl (Y.loadB F.sc3 rfl hb2 rfl) ?_
  refine DL.if rfl rfl (Y.eq rfl rfl) (fun c7 => ?_) (fun c7 => ?_)
  · refine DL.y rfl rfl (Y.move) ?_
    refine DL.y rfl rfl (Y.field F.fd34_0 rfl) ?_
    refine DL.y rfl rfl (Y.loadPart (sub := #[c0, c1, c2, c3, c4, c5]) rfl hb2 rfl F.ag26) ?_
    refine DL.y rfl rfl (Y.loadW rfl hb3 F.ag26) ?_
    refine DL.call rfl rfl F.nm31 rfl (same_any _ _ _ B _ hA hB) ?_
    rintro _ w5 f6 rfl
    replace FR := FR.tr0 f6
    replace hA := hA.fr f6 (by intro x hx; simp <;> omega)
    replace hB := hB.fr f6 (by intro x hx; simp <;> omega)
    replace hb2 := f6.blk0 hb2
    replace hi2 := Nat.lt_of_lt_of_le hi2 f6.size
    replace hb3 := f6.blk0 hb3
    replace hi3 := Nat.lt_of_lt_of_le hi3 f6.size
    refine DL.y rfl rfl (Y.pickT rfl) ?_
    refine DL.y rfl rfl (Y.assign) ?_
    refine DL.nil ?_
    show DC _ _ _ _ _ _
    refine DC.ret ?_
    exact FinQ.ret1 rfl (Ret.mk FR rfl)
  · exfalso; omega

theorem told_any (v : V) (c0 c1 c2 c3 c4 c5 : Value) (cb : Array Value) (B : Nat) (w : World) (hA : RV w B v #[c0, c1, c2, c3, c4, c5]) (hB : RV w B v cb) :
    Calls Tryd.prog 27 #[.agg #[c0, c1, c2, c3, c4, c5, .int .i64 0], .agg cb, .int .i64 0] w (Ret w [] fun r _ => r = .bool true) := by
  have sb := hB.size
  obtain ⟨kind, half, text, list, keys, vals⟩ := v
  obtain ⟨lb, ld, kb, kd, vb, vd, rfl⟩ := hB.shape
  refine calls_of Tryd.func27 rfl rfl rfl rfl ?_
  have FR := Fr.refl [] w
  refine DC.seq ?_
  refine DC.region ?_
  refine DL.boxA rfl rfl rfl ?_
  intro b3 w1 f2 lo3 hi3 hb3
  replace lo3 := Nat.le_trans FR.size lo3
  replace FR := FR.tr0 f2
  replace hA := hA.fr f2 (by intro x hx; simp <;> omega)
  replace hB := hB.fr f2 (by intro x hx; simp <;> omega)
  refine DL.boxA rfl rfl rfl ?_
  intro b4 w3 f4 lo4 hi4 hb4
  have lt_b3_b4 : b3 < b4 := Nat.lt_of_lt_of_le hi3 lo4
  replace lo4 := Nat.le_trans FR.size lo4
  replace FR := FR.tr0 f4
  replace hA := hA.fr f4 (by intro x hx; simp <;> omega)
  replace hB := hB.fr f4 (by intro x hx; simp <;> omega)
  replace hb3 := f4.blk0 hb3
  replace hi3 := Nat.lt_of_lt_of_le hi3 f4.size
  refine DL.y rfl rfl (Y.assign) ?_
  refine DL.nil ?_
  show DC _ _ _ _ _ _
  refine DC.seq ?_
  refine DC.seq ?_
  refine DC.region ?_
  refine DL.y rfl rfl (Y.move) ?_
  refine DL.nil ?_
  show DC _ _ _ _ _ _
  refine DC.block ?_
  refine DC.seq ?_
  refine DC.region ?_
  refine DL.if rfl rfl (Y.eq rfl rfl) (fun c9 => ?_) (fun c9 => ?_)
  · exfalso; omega
  · refine DL.y rfl rfl (Y.assign) ?_
    refine DL.nil ?_
    show DC _ _ _ _ _ _
    refine DC.condF rfl ?_
    refine DC.seq ?_
    refine DC.region ?_
    refine DL.if rfl rfl (Y.eq rfl rfl) (fun c14 => ?_) (fun c14 => ?_)
    · refine DL.y rfl rfl (Y.assign) ?_
      refine DL.nil ?_
      show DC _ _ _ _ _ _
      refine DC.condT rfl ?_
      refine DC.seq ?_
      refine DC.region ?_
      refine DL.y rfl rfl (Y.field F.fd34_1 rfl) ?_
      refine DL.y rfl rfl (Y.loadB F.sc3 rfl hb3 rfl) ?_
      refine DL.if rfl rfl (Y.eq rfl rfl) (fun c17 => ?_) (fun c17 => ?_)
      · refine DL.y rfl rfl (Y.move) ?_
        refine DL.y rfl rfl (Y.field F.fd34_0 rfl) ?_
        refine DL.y rfl rfl (Y.loadPart (sub := #[c0, c1, c2, c3, c4, c5]) rfl hb3 rfl F.ag26) ?_
        refine DL.y rfl rfl (Y.loadW rfl hb4 F.ag26) ?_
        refine DL.call rfl rfl F.nm31 rfl (same_any _ _ _ B _ hA hB) ?_
        rintro _ w5 f6 rfl
        replace FR := FR.tr0 f6
        replace hA := hA.fr f6 (by intro x hx; simp <;> omega)
        replace hB := hB.fr f6 (by intro x hx; simp <;> omega)
        replace hb3 := f6.blk0 hb3
        replace hi3 := Nat.lt_of_lt_of_le hi3 f6.size
        replace hb4 := f6.blk0 hb4
        replace hi4 := Nat.lt_of_lt_of_le hi4 f6.size
        refine DL.y rfl rfl (Y.pickT rfl) ?_
        refine DL.y rfl rfl (Y.assign) ?_
        refine DL.nil ?_
        show DC _ _ _ _ _ _
        refine DC.ret ?_
        exact FinQ.ret1 rfl (Ret.mk FR rfl)
      · exfalso; omega
    · exfalso; omega

theorem given_any (v : V) (c0 c1 c2 c3 c4 c5 : Value) (cb : Array Value) (B : Nat) (w : World) (hA : RV w B v #[c0, c1, c2, c3, c4, c5]) (hB : RV w B v cb) :
    Calls Tryd.prog 12 #[.agg #[c0, c1, c2, c3, c4, c5, .int .i64 0], .agg cb] w (Ret w [] fun r _ => r = .bool true) := by
  have sb := hB.size
  obtain ⟨kind, half, text, list, keys, vals⟩ := v
  obtain ⟨lb, ld, kb, kd, vb, vd, rfl⟩ := hB.shape
  refine calls_of Tryd.func12 rfl rfl rfl rfl ?_
  have FR := Fr.refl [] w
  refine DC.seq ?_
  refine DC.region ?_
  refine DL.boxA rfl rfl rfl ?_
  intro b2 w1 f2 lo2 hi2 hb2
  replace lo2 := Nat.le_trans FR.size lo2
  replace FR := FR.tr0 f2
  replace hA := hA.fr f2 (by intro x hx; simp <;> omega)
  replace hB := hB.fr f2 (by intro x hx; simp <;> omega)
  refine DL.boxA rfl rfl rfl ?_
  intro b3 w3 f4 lo3 hi3 hb3
  have lt_b2_b3 : b2 < b3 := Nat.lt_of_lt_of_le hi2 lo3
  replace lo3 := Nat.le_trans FR.size lo3
  replace FR := FR.tr0 f4
  replace hA := hA.fr f4 (by intro x hx; simp <;> omega)
  replace hB := hB.fr f4 (by intro x hx; simp <;> omega)
  replace hb2 := f4.blk0 hb2
  replace hi2 := Nat.lt_of_lt_of_le hi2 f4.size
  refine DL.y rfl rfl (Y.assign) ?_
  refine DL.nil ?_
  show DC _ _ _ _ _ _
  refine DC.seq ?_
  refine DC.region ?_
  refine DL.y rfl rfl (Y.loadW rfl hb2 F.ag34) ?_
  refine DL.y rfl rfl (Y.loadW rfl hb3 F.ag26) ?_
  refine DL.call rfl rfl F.nm27 rfl (told_any _ _ _ _ _ _ _ _ B _ hA hB) ?_
  rintro _ w5 f6 rfl
  replace FR := FR.tr0 f6
  replace hA := hA.fr f6 (by intro x hx; simp <;> omega)
  replace hB := hB.fr f6 (by intro x hx; simp <;> omega)
  replace hb2 := f6.blk0 hb2
  replace hi2 := Nat.lt_of_lt_of_le hi2 f6.size
  replace hb3 := f6.blk0 hb3
  replace hi3 := Nat.lt_of_lt_of_le hi3 f6.size
  refine DL.y rfl rfl (Y.assign) ?_
  refine DL.nil ?_
  show DC _ _ _ _ _ _
  refine DC.ret ?_
  exact FinQ.ret1 rfl (Ret.mk FR rfl)

end Go.Proofs.YtmbleojlnaofjaaDoor
