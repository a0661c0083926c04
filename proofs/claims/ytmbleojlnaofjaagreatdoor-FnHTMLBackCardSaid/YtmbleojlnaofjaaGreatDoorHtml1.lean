/- Small walks for laws.FnHTMLBack. -/
import Derived.Test.YtmbleojlnaofjaaGreatDoorTxt
import Derived.Test.YtmbleojlnaofjaaGreatDoorO7
import Derived.Test.YtmbleojlnaofjaaGreatDoorValid
namespace Go.Proofs.YtmbleojlnaofjaaGreatDoor
open Go Go.RowKit D
set_option linter.unusedVariables false
set_option linter.unusedSimpArgs false

theorem among_any (s : ByteArray) (c : Int) (hs : s.size ≤ 140737488351232) (w : World) : Calls Tryz.prog 18 #[.string s, .int .u8 c] w (Ret w [] fun v _ => ∃ r, v = .bool r ∧ (r = true ↔ ∃ (j : Nat) (h : j < s.size), (s[j].toNat : Int) = c)) := by
  refine calls_of Tryz.func18 rfl rfl rfl rfl ?_
  have FR := Fr.refl [] w
  refine DC.seq ?_
  refine DC.region ?_
  refine DL.y rfl rfl (Y.assign) ?_
  refine DL.nil ?_
  show DC _ _ _ _ _ _
  refine DC.seq ?_
  refine DC.seq ?_
  refine DC.region ?_
  refine DL.y rfl rfl (Y.assign) ?_
  refine DL.nil ?_
  show DC _ _ _ _ _ _
  refine DC.block ?_
  refine DC.loop (σ := Nat) [(4, 16)] (fun k => [(5, .int .i64 (k : Int))]) (fun sg wl => Fr [] w wl ∧ (fun k wl => k ≤ s.size ∧ ∀ (j : Nat) (h : j < s.size), j < k → ¬ (s[j].toNat : Int) = c) sg wl) (fun k => s.size - k) (0) rfl ?_ ?_ ?_
  · exact rfl
  · exact ⟨Fr.refl _ _, Nat.zero_le _, fun j h hj => by omega⟩
  · rintro k j w1 ⟨f2, hk0, hno⟩
    replace FR := FR.tr0 f2
    have G3 := f2
    have HG3 := Fr.refl [] w1
    refine DC.seq ?_
    refine DC.seq ?_
    refine DC.region ?_
    refine DL.y rfl rfl (Y.move) ?_
    refine DL.y rfl rfl (Y.move) ?_
    refine DL.y rfl rfl (Y.lenStr Tryz.underlying9 rfl) ?_
    refine DL.if rfl rfl (Y.lt rfl rfl) (fun c9 => ?_) (fun c9 => ?_)
    · have hk : k < s.size := by omega
      refine DL.nil ?_
      show DC _ _ _ _ _ _
      refine DC.condT rfl ?_
      refine DC.skip ?_
      show DC _ _ _ _ _ _
      refine DC.seq ?_
      refine DC.block ?_
      refine DC.seq ?_
      refine DC.region ?_
      refine DL.y rfl rfl (Y.move) ?_
      refine DL.y rfl rfl (Y.move) ?_
      refine DL.y rfl rfl (Y.strIx (i := k) Tryz.underlying9 rfl rfl rfl hk) ?_
      refine DL.y rfl rfl (Y.move) ?_
      refine DL.if rfl rfl (Y.eq rfl rfl) (fun c16 => ?_) (fun c16 => ?_)
      · refine DL.nil ?_
        show DC _ _ _ _ _ _
        refine DC.condT rfl ?_
        refine DC.seq ?_
        refine DC.region ?_
        refine DL.y rfl rfl (Y.assign) ?_
        refine DL.nil ?_
        show DC _ _ _ _ _ _
        refine DC.ret ?_
        exact FinQ.ret1 rfl (Ret.mk FR ⟨true, rfl, fun _ => ⟨k, hk, c16⟩, fun _ => rfl⟩)
      · refine DL.nil ?_
        show DC _ _ _ _ _ _
        refine DC.condF rfl ?_
        refine DC.skip ?_
        show DC _ _ _ _ _ _
        refine DC.region ?_
        refine DL.y rfl rfl (Y.move) ?_
        refine DL.y rfl rfl (Y.addI (c := ((k + 1 : Nat) : Int)) rfl rfl (by omega) (by omega) (by omega)) ?_
        refine DL.y rfl rfl (Y.assign) ?_
        refine DL.nil ?_
        refine ⟨k + 1, ⟨G3, hk, fun j h hj => ?_⟩, by show s.size - (k + 1) < s.size - k; omega, rfl⟩
        by_cases hjk : j = k
        · subst hjk; exact c16
        · exact hno j h (by omega)
    · refine DL.nil ?_
      show DC _ _ _ _ _ _
      refine DC.condF rfl ?_
      refine DC.exit ?_
      show DC _ _ _ _ _ _
      refine DC.seq ?_
      refine DC.region ?_
      refine DL.y rfl rfl (Y.assign) ?_
      refine DL.nil ?_
      show DC _ _ _ _ _ _
      refine DC.ret ?_
      exact FinQ.ret1 rfl (Ret.mk FR ⟨false, rfl, (fun h => by cases h), (fun ⟨j, h, hj⟩ => absurd hj (hno j h (by omega)))⟩)

theorem toString_txt (s : ByteArray) (w : World) : Calls Tryz.prog 76 #[.iface 9 (.string s)] w (Ret w [] fun v _ => v = .iface 9 (.string s)) := by
  refine calls_of Tryz.func76 rfl rfl rfl rfl ?_
  have FR := Fr.refl [] w
  refine DC.seq ?_
  refine DC.region ?_
  refine DL.y rfl rfl (Y.assign) ?_
  refine DL.nil ?_
  show DC _ _ _ _ _ _
  refine DC.seq ?_
  refine DC.seq ?_
  refine DC.region ?_
  refine DL.y rfl rfl (Y.move) ?_
  refine DL.y rfl rfl (Y.asYes F.if9 rfl) ?_
  refine DL.y rfl rfl (Y.move) ?_
  refine DL.y rfl rfl (Y.extract rfl rfl) ?_
  refine DL.y rfl rfl (Y.extract rfl rfl) ?_
  refine DL.y rfl rfl (Y.assign) ?_
  refine DL.y rfl rfl (Y.assign) ?_
  refine DL.nil ?_
  show DC _ _ _ _ _ _
  refine DC.seq ?_
  refine DC.region ?_
  refine DL.y rfl rfl (Y.move) ?_
  refine DL.nil ?_
  show DC _ _ _ _ _ _
  refine DC.condT rfl ?_
  refine DC.seq ?_
  refine DC.region ?_
  refine DL.y rfl rfl (Y.move) ?_
  refine DL.y rfl rfl (Y.mkI F.if9) ?_
  refine DL.y rfl rfl (Y.assign) ?_
  refine DL.nil ?_
  show DC _ _ _ _ _ _
  refine DC.ret ?_
  exact FinQ.ret1 rfl (Ret.mk FR rfl)

theorem text_any (s : ByteArray) (w : World) : Calls Tryz.prog 19 #[.agg (strR s)] w (Ret w [] fun v _ => v = .tuple #[.string s, .bool true]) := by
  refine calls_of Tryz.func19 rfl rfl rfl rfl ?_
  have FR := Fr.refl [] w
  refine DC.seq ?_
  refine DC.region ?_
  refine DL.boxA rfl rfl rfl ?_
  intro b1 w1 f2 lo1 hi1 hb1
  replace lo1 := Nat.le_trans FR.size lo1
  replace FR := FR.tr0 f2
  refine DL.y rfl rfl (Y.assign) ?_
  refine DL.y rfl rfl (Y.assign) ?_
  refine DL.nil ?_
  show DC _ _ _ _ _ _
  refine DC.seq ?_
  refine DC.still F.mixed (by kernel_rfl) ?_
  intro w3 f4 hsw3
  replace FR := FR.tr0 f4
  replace hb1 := f4.blk0 hb1
  replace hi1 := Nat.lt_of_lt_of_le hi1 f4.size
  refine DS.y rfl rfl (Y.field F.fd34_0 rfl) ?_
  refine DS.y rfl rfl (Y.field F.fd26_2 rfl) ?_
  refine DS.y rfl rfl (Y.loadB F.sc9 rfl hb1 rfl) ?_
  refine DS.y rfl rfl (Y.field F.fd34_1 rfl) ?_
  refine DS.y rfl rfl (Y.loadB F.sc3 rfl hb1 rfl) ?_
  refine DS.if rfl rfl (Y.eq rfl rfl) (fun c9 => ?_) (fun c9 => ?_)
  · refine DS.y rfl rfl (Y.move) ?_
    refine DS.y rfl rfl (Y.field F.fd34_0 rfl) ?_
    refine DS.y rfl rfl (Y.field F.fd26_0 rfl) ?_
    refine DS.y rfl rfl (Y.loadB F.sc22 rfl hb1 rfl) ?_
    refine DS.if rfl rfl (Y.eq rfl rfl) (fun c14 => ?_) (fun c14 => ?_)
    · refine DS.y rfl rfl (Y.pickT rfl) ?_
      refine DS.y rfl rfl (Y.assign) ?_
      refine DS.y rfl rfl (Y.assign) ?_
      refine DS.nil ?_
      show DC _ _ _ _ _ _
      refine DC.ret ?_
      exact FinQ.ret2 rfl rfl (Ret.mk FR rfl)
    · exfalso; omega
  · exfalso; omega

/-- The table of htmlEscaper. -/
def tabC : Array Value := #[.string ⟨#[60]⟩, .string ⟨#[38, 108, 116, 59]⟩, .string ⟨#[62]⟩, .string ⟨#[38, 103, 116, 59]⟩, .string ⟨#[38]⟩, .string ⟨#[38, 97, 109, 112, 59]⟩, .string ⟨#[39]⟩, .string ⟨#[38, 97, 112, 111, 115, 59]⟩, .string ⟨#[34]⟩, .string ⟨#[38, 113, 117, 111, 116, 59]⟩]

theorem escaper_any (w : World) : Calls Tryz.prog 125 #[] w (Ret w [] fun v w' => ∃ b, v = .slice (some ⟨b, 0, none⟩) 10 10 ∧ w.heap.size ≤ b ∧ b < w'.heap.size ∧ w'.heap[b]? = some (.cells tabC 9 (0, 0))) := by
  refine calls_of Tryz.func125 rfl rfl rfl rfl ?_
  have FR := Fr.refl [] w
  refine DC.seq ?_
  refine DC.region ?_
  refine DL.y rfl rfl (Y.assign) ?_
  refine DL.nil ?_
  show DC _ _ _ _ _ _
  refine DC.seq ?_
  refine DC.region ?_
  refine DL.buildSlC (cs := tabC) rfl rfl Tryz.underlying133 (by kernel_rfl) ?_
  intro b1 w1 f2 lo1 hi1 hb1
  replace lo1 := Nat.le_trans FR.size lo1
  replace FR := FR.tr0 f2
  refine DL.y rfl rfl (Y.assign) ?_
  refine DL.nil ?_
  show DC _ _ _ _ _ _
  refine DC.ret ?_
  exact FinQ.ret1 rfl (Ret.mk FR ⟨b1, rfl, lo1, hi1, hb1⟩)

end Go.Proofs.YtmbleojlnaofjaaGreatDoor
