/- Own texts, merged: Js2, O9, O11, ShelfDec, Js7, Js8, JT, S2, ShelfSl, Kv. -/
import Derived.Test.YtmbleojlnaofjaaGreatDoorMt04
import Derived.Test.YtmbleojlnaofjaaGreatDoorMt01
import Derived.Shelf.Unicode.DecodeAny
import Derived.Test.YtmbleojlnaofjaaGreatDoorProg
import Derived.Test.YtmbleojlnaofjaaGreatDoorMt02
import Derived.Lib.ValidLaws
import Derived.Lib.TrimUEq
import Derived.Lib.TrimAscii
import Derived.Lib.MapLaws
import Derived.Lib.RuneCountTail
import Derived.Sort.LotA
import Derived.Shelf.GgSortFunc.Slice
import Derived.Shelf.SlSortFuncK.WholeK
import Derived.Shelf.GgSortFunc.Tiny
import Derived.Deep.QuietTactic
import Derived.Laws.Externs
/- The walk of spec.quoted. -/
namespace Go.Proofs.YtmbleojlnaofjaaGreatDoor
open Go Go.RowKit D
set_option linter.unusedVariables false
set_option linter.unusedSimpArgs false


theorem hex_ext : ∀ d : Nat, d < 16 → ((⟨#[48, 49, 50, 51, 52, 53, 54, 55, 56, 57, 97, 98, 99, 100, 101, 102]⟩ : ByteArray).extract ((d : Int).toNat) ((((d + 1 : Nat) : Int)).toNat)) = ⟨#[hexd d]⟩ := by
  intro d hd
  have : ∀ d : Fin 16, ((⟨#[48, 49, 50, 51, 52, 53, 54, 55, 56, 57, 97, 98, 99, 100, 101, 102]⟩ : ByteArray).extract (((d.val : Nat) : Int).toNat) ((((d.val + 1 : Nat) : Int)).toNat)) = ⟨#[hexd d.val]⟩ := by decide +kernel
  exact this ⟨d, hd⟩
theorem wrap8 : ∀ d : Nat, d < 256 → IntKind.u8.wrap (d : Int) = (d : Int) := by
  intro d hd
  have : ∀ d : Fin 256, IntKind.u8.wrap ((d.val : Nat) : Int) = ((d.val : Nat) : Int) := by decide +kernel
  exact this ⟨d, hd⟩
theorem quo8 (c : UInt8) : IntKind.u8.wrap ((c.toNat : Int).tdiv 16) = ((c.toNat / 16 : Nat) : Int) := by
  have := c.toNat_lt
  rw [show (16 : Int) = ((16 : Nat) : Int) from rfl, tdivN _ 16 (by decide), wrap8 _ (by omega)]
theorem rem8 (c : UInt8) : (c.toNat : Int).tmod 16 = ((c.toNat % 16 : Nat) : Int) := tmodN _ 16 (by decide)
theorem ext1 {s : ByteArray} {i : Nat} (hi : i < s.size) : (s.extract ((i : Int).toNat) (((i : Int) + 1).toNat)).data.toList = [s[i]] := by
  have hl : i < s.data.toList.length := by simpa using hi
  have e1 : ((i : Int) + 1).toNat = i + 1 := by omega
  rw [Int.toNat_natCast, e1, ByteArray.data_extract, Array.toList_extract, List.extract_eq_take_drop, List.drop_eq_getElem_cons hl]
  simp
  rfl
theorem enc34 : Utf8.encode 34 = ⟨#[34]⟩ := by decide
theorem enc92 : Utf8.encode 92 = ⟨#[92]⟩ := by decide
theorem u8_eq {c : UInt8} {n : Nat} (hn : n < 256) (h : (c.toNat : Int) = (n : Int)) : c = UInt8.ofNat n := by
  apply UInt8.toNat_inj.1
  rw [UInt8.toNat_ofNat']; omega
theorem u8_ne {c : UInt8} {n : Nat} (hn : n < 256) (h : ¬ (c.toNat : Int) = (n : Int)) : ¬ c = UInt8.ofNat n := by
  intro hc; subst hc
  exact h (by rw [UInt8.toNat_ofNat']; omega)

set_option maxHeartbeats 1000000 in
theorem quoted_any (s : ByteArray) (hs : s.size ≤ 1000000) (w : World) : Calls Tryz.prog 75 #[.string s] w (Ret w [] fun v _ => ∃ b how, v = .tuple #[.string b, .int .i64 how] ∧ Said b how (qL s.data.toList)) := by
  have hsl := size_list s
  refine calls_of Tryz.func75 rfl rfl rfl rfl ?_
  have FR := Fr.refl [] w
  refine DC.seq ?_
  refine DC.region ?_
  refine DL.y rfl rfl (Y.assign) ?_
  refine DL.y rfl rfl (Y.assign) ?_
  refine DL.nil ?_
  show DC _ _ _ _ _ _
  refine DC.seq ?_
  refine DC.region ?_
  refine DL.y rfl rfl (Y.assign) ?_
  refine DL.nil ?_
  show DC _ _ _ _ _ _
  refine DC.seq ?_
  refine DC.seq ?_
  refine DC.region ?_
  refine DL.y rfl rfl (Y.assign) ?_
  refine DL.nil ?_
  show DC _ _ _ _ _ _
  refine DC.block ?_
  refine DC.loop (σ := Nat × ByteArray) [(2, 82)] (fun (i, out) => [(4, .string out), (5, .int .i64 (i : Int))]) (fun sg wl => Fr [] w wl ∧ (fun (i, out) wl => i ≤ s.size ∧ out.data.toList = 34 :: escT (s.data.toList.take i)) sg wl) (fun (i, _) => s.size - i) ((0, ⟨#[34]⟩)) rfl ?_ ?_ ?_
  · exact ⟨rfl, rfl⟩
  · exact ⟨Fr.refl _ _, Nat.zero_le _, by simp [escT]⟩
  · rintro ⟨i, out⟩ j w1 ⟨f2, hi0, hout⟩
    replace FR := FR.tr0 f2
    have G3 := f2
    have HG3 := Fr.refl [] w1
    refine DC.seq ?_
    refine DC.seq ?_
    refine DC.region ?_
    refine DL.y rfl rfl (Y.move) ?_
    refine DL.y rfl rfl (Y.move) ?_
    refine DL.y rfl rfl (Y.lenStr Tryz.underlying9 rfl) ?_
    refine DL.if rfl rfl (Y.lt rfl rfl) (fun c10 => ?_) (fun c10 => ?_)
    · have hi : i < s.size := by omega
      have hel := escT_len (s.data.toList.take i)
      have hel : (escT (s.data.toList.take i)).length ≤ 6 * 1000000 := by have h1 : (s.data.toList.take i).length ≤ i := by { rw [List.length_take]; omega }; omega
      have hu := s[i].toNat_lt
      refine DL.nil ?_
      show DC _ _ _ _ _ _
      refine DC.condT rfl ?_
      refine DC.skip ?_
      show DC _ _ _ _ _ _
      refine DC.seq ?_
      refine DC.block ?_
      refine DC.seq ?_
      refine DC.region ?_
      refine DL.y rfl rfl (Y.move) ?_
      refine DL.y rfl rfl (Y.move) ?_
      refine DL.y rfl rfl (Y.strIx (i := i) Tryz.underlying9 rfl rfl rfl hi) ?_
      refine DL.y rfl rfl (Y.assign) ?_
      refine DL.nil ?_
      show DC _ _ _ _ _ _
      refine DC.block ?_
      refine DC.seq ?_
      refine DC.region ?_
      refine DL.y rfl rfl (Y.move) ?_
      refine DL.if rfl rfl (Y.eq rfl rfl) (fun c25 => ?_) (fun c25 => ?_)
      · refine DL.y rfl rfl (Y.move) ?_
        refine DL.skip rfl rfl ?_
        refine DL.skip rfl rfl ?_
        refine DL.y rfl rfl (Y.pickT rfl) ?_
        refine DL.y rfl rfl (Y.assign) ?_
        refine DL.nil ?_
        show DC _ _ _ _ _ _
        refine DC.condT rfl ?_
        refine DC.region ?_
        refine DL.y rfl rfl (Y.move) ?_
        refine DL.y rfl rfl (Y.move) ?_
        refine DL.y rfl rfl (Y.convC F.us5 Tryz.underlying21 rfl (show IntKind.i32.wrap _ = (s[i].toNat : Int) by rw [c25]; decide)) ?_
        have hqe : s[i] = 34 := u8_eq (n := 34) (by decide) c25
        have hq : (⟨#[34]⟩ : ByteArray).data.toList = [s[i]] := by rw [u8_eq (n := 34) (by decide) c25]; rfl
        refine DL.y rfl rfl (Y.runeC F.us21 Tryz.underlying9 rfl (show Utf8.encode _ = ⟨#[34]⟩ by rw [c25]; decide)) ?_
        refine DL.catE rfl rfl rfl rfl (by decide) (fun c34 h34 => ?_)
        refine DL.catE rfl rfl rfl rfl (by have := size_list out; rw [hout] at this; simp only [List.length_cons] at this; have h2 := size_list c34; rw [h34, hq] at h2; simp at h2; omega) (fun c35 h35 => ?_)
        refine DL.y rfl rfl (Y.assign) ?_
        refine DL.nil ?_
        show DC _ _ _ _ _ _
        refine DC.region ?_
        refine DL.y rfl rfl (Y.move) ?_
        refine DL.y rfl rfl (Y.addI (c := ((i + 1 : Nat) : Int)) rfl rfl (by omega) (by omega) (by omega)) ?_
        refine DL.y rfl rfl (Y.assign) ?_
        refine DL.nil ?_
        have hesc : escJ s[i] = [92, s[i]] := by
          have e25 : s[i] = 34 := u8_eq (n := 34) (by decide) c25
          rw [e25]; rfl
        exact ⟨(i + 1, c35), ⟨G3, hi, by rw [h35, h34, hout, escT_succ hi, hesc, hq]; simp [hqe]⟩, by show s.size - (i + 1) < s.size - i; omega, rfl, rfl⟩
      · refine DL.y rfl rfl (Y.move) ?_
        refine DL.y rfl rfl (Y.move) ?_
        refine DL.if rfl rfl (Y.eq rfl rfl) (fun c28 => ?_) (fun c28 => ?_)
        · refine DL.y rfl rfl (Y.pickF rfl) ?_
          refine DL.y rfl rfl (Y.assign) ?_
          refine DL.nil ?_
          show DC _ _ _ _ _ _
          refine DC.condT rfl ?_
          refine DC.region ?_
          refine DL.y rfl rfl (Y.move) ?_
          refine DL.y rfl rfl (Y.move) ?_
          refine DL.y rfl rfl (Y.convC F.us5 Tryz.underlying21 rfl (show IntKind.i32.wrap _ = (s[i].toNat : Int) by rw [c28]; decide)) ?_
          have hqe : s[i] = 92 := u8_eq (n := 92) (by decide) c28
          have hq : (⟨#[92]⟩ : ByteArray).data.toList = [s[i]] := by rw [u8_eq (n := 92) (by decide) c28]; rfl
          refine DL.y rfl rfl (Y.runeC F.us21 Tryz.underlying9 rfl (show Utf8.encode _ = ⟨#[92]⟩ by rw [c28]; decide)) ?_
          refine DL.catE rfl rfl rfl rfl (by decide) (fun c34 h34 => ?_)
          refine DL.catE rfl rfl rfl rfl (by have := size_list out; rw [hout] at this; simp only [List.length_cons] at this; have h2 := size_list c34; rw [h34, hq] at h2; simp at h2; omega) (fun c35 h35 => ?_)
          refine DL.y rfl rfl (Y.assign) ?_
          refine DL.nil ?_
          show DC _ _ _ _ _ _
          refine DC.region ?_
          refine DL.y rfl rfl (Y.move) ?_
          refine DL.y rfl rfl (Y.addI (c := ((i + 1 : Nat) : Int)) rfl rfl (by omega) (by omega) (by omega)) ?_
          refine DL.y rfl rfl (Y.assign) ?_
          refine DL.nil ?_
          have hesc : escJ s[i] = [92, s[i]] := by
            have e25 : ¬ s[i] = 34 := u8_ne (n := 34) (by decide) c25
            have e28 : s[i] = 92 := u8_eq (n := 92) (by decide) c28
            rw [e28]; rfl
          exact ⟨(i + 1, c35), ⟨G3, hi, by rw [h35, h34, hout, escT_succ hi, hesc, hq]; simp [hqe]⟩, by show s.size - (i + 1) < s.size - i; omega, rfl, rfl⟩
        · refine DL.y rfl rfl (Y.pickF rfl) ?_
          refine DL.y rfl rfl (Y.assign) ?_
          refine DL.nil ?_
          show DC _ _ _ _ _ _
          refine DC.condF rfl ?_
          refine DC.seq ?_
          refine DC.region ?_
          refine DL.y rfl rfl (Y.move) ?_
          refine DL.if rfl rfl (Y.eq rfl rfl) (fun c38 => ?_) (fun c38 => ?_)
          · refine DL.y rfl rfl (Y.assign) ?_
            refine DL.nil ?_
            show DC _ _ _ _ _ _
            refine DC.condT rfl ?_
            refine DC.region ?_
            refine DL.y rfl rfl (Y.move) ?_
            refine DL.catE rfl rfl rfl rfl (by have := size_list out; rw [hout] at this; simp only [List.length_cons] at this; rw [show (⟨#[92, 110]⟩ : ByteArray).size = 2 from rfl]; omega) (fun c40 h40 => ?_)
            refine DL.y rfl rfl (Y.assign) ?_
            refine DL.nil ?_
            show DC _ _ _ _ _ _
            refine DC.region ?_
            refine DL.y rfl rfl (Y.move) ?_
            refine DL.y rfl rfl (Y.addI (c := ((i + 1 : Nat) : Int)) rfl rfl (by omega) (by omega) (by omega)) ?_
            refine DL.y rfl rfl (Y.assign) ?_
            refine DL.nil ?_
            have hesc : escJ s[i] = [92, 110] := by
              have e25 : ¬ s[i] = 34 := u8_ne (n := 34) (by decide) c25
              have e28 : ¬ s[i] = 92 := u8_ne (n := 92) (by decide) c28
              have e38 : s[i] = 10 := u8_eq (n := 10) (by decide) c38
              rw [e38]; rfl
            exact ⟨(i + 1, c40), ⟨G3, hi, by rw [h40, hout, escT_succ hi, hesc]; simp⟩, by show s.size - (i + 1) < s.size - i; omega, rfl, rfl⟩
          · refine DL.y rfl rfl (Y.assign) ?_
            refine DL.nil ?_
            show DC _ _ _ _ _ _
            refine DC.condF rfl ?_
            refine DC.seq ?_
            refine DC.region ?_
            refine DL.y rfl rfl (Y.move) ?_
            refine DL.if rfl rfl (Y.eq rfl rfl) (fun c43 => ?_) (fun c43 => ?_)
            · refine DL.y rfl rfl (Y.assign) ?_
              refine DL.nil ?_
              show DC _ _ _ _ _ _
              refine DC.condT rfl ?_
              refine DC.region ?_
              refine DL.y rfl rfl (Y.move) ?_
              refine DL.catE rfl rfl rfl rfl (by have := size_list out; rw [hout] at this; simp only [List.length_cons] at this; rw [show (⟨#[92, 116]⟩ : ByteArray).size = 2 from rfl]; omega) (fun c45 h45 => ?_)
              refine DL.y rfl rfl (Y.assign) ?_
              refine DL.nil ?_
              show DC _ _ _ _ _ _
              refine DC.region ?_
              refine DL.y rfl rfl (Y.move) ?_
              refine DL.y rfl rfl (Y.addI (c := ((i + 1 : Nat) : Int)) rfl rfl (by omega) (by omega) (by omega)) ?_
              refine DL.y rfl rfl (Y.assign) ?_
              refine DL.nil ?_
              have hesc : escJ s[i] = [92, 116] := by
                have e25 : ¬ s[i] = 34 := u8_ne (n := 34) (by decide) c25
                have e28 : ¬ s[i] = 92 := u8_ne (n := 92) (by decide) c28
                have e38 : ¬ s[i] = 10 := u8_ne (n := 10) (by decide) c38
                have e43 : s[i] = 9 := u8_eq (n := 9) (by decide) c43
                rw [e43]; rfl
              exact ⟨(i + 1, c45), ⟨G3, hi, by rw [h45, hout, escT_succ hi, hesc]; simp⟩, by show s.size - (i + 1) < s.size - i; omega, rfl, rfl⟩
            · refine DL.y rfl rfl (Y.assign) ?_
              refine DL.nil ?_
              show DC _ _ _ _ _ _
              refine DC.condF rfl ?_
              refine DC.seq ?_
              refine DC.region ?_
              refine DL.y rfl rfl (Y.move) ?_
              refine DL.if rfl rfl (Y.eq rfl rfl) (fun c48 => ?_) (fun c48 => ?_)
              · refine DL.y rfl rfl (Y.assign) ?_
                refine DL.nil ?_
                show DC _ _ _ _ _ _
                refine DC.condT rfl ?_
                refine DC.region ?_
                refine DL.y rfl rfl (Y.move) ?_
                refine DL.catE rfl rfl rfl rfl (by have := size_list out; rw [hout] at this; simp only [List.length_cons] at this; rw [show (⟨#[92, 114]⟩ : ByteArray).size = 2 from rfl]; omega) (fun c50 h50 => ?_)
                refine DL.y rfl rfl (Y.assign) ?_
                refine DL.nil ?_
                show DC _ _ _ _ _ _
                refine DC.region ?_
                refine DL.y rfl rfl (Y.move) ?_
                refine DL.y rfl rfl (Y.addI (c := ((i + 1 : Nat) : Int)) rfl rfl (by omega) (by omega) (by omega)) ?_
                refine DL.y rfl rfl (Y.assign) ?_
                refine DL.nil ?_
                have hesc : escJ s[i] = [92, 114] := by
                  have e25 : ¬ s[i] = 34 := u8_ne (n := 34) (by decide) c25
                  have e28 : ¬ s[i] = 92 := u8_ne (n := 92) (by decide) c28
                  have e38 : ¬ s[i] = 10 := u8_ne (n := 10) (by decide) c38
                  have e43 : ¬ s[i] = 9 := u8_ne (n := 9) (by decide) c43
                  have e48 : s[i] = 13 := u8_eq (n := 13) (by decide) c48
                  rw [e48]; rfl
                exact ⟨(i + 1, c50), ⟨G3, hi, by rw [h50, hout, escT_succ hi, hesc]; simp⟩, by show s.size - (i + 1) < s.size - i; omega, rfl, rfl⟩
              · refine DL.y rfl rfl (Y.assign) ?_
                refine DL.nil ?_
                show DC _ _ _ _ _ _
                refine DC.condF rfl ?_
                refine DC.seq ?_
                refine DC.region ?_
                refine DL.y rfl rfl (Y.move) ?_
                refine DL.if rfl rfl (Y.eq rfl rfl) (fun c53 => ?_) (fun c53 => ?_)
                · refine DL.y rfl rfl (Y.assign) ?_
                  refine DL.nil ?_
                  show DC _ _ _ _ _ _
                  refine DC.condT rfl ?_
                  refine DC.region ?_
                  refine DL.y rfl rfl (Y.move) ?_
                  refine DL.catE rfl rfl rfl rfl (by have := size_list out; rw [hout] at this; simp only [List.length_cons] at this; rw [show (⟨#[92, 98]⟩ : ByteArray).size = 2 from rfl]; omega) (fun c55 h55 => ?_)
                  refine DL.y rfl rfl (Y.assign) ?_
                  refine DL.nil ?_
                  show DC _ _ _ _ _ _
                  refine DC.region ?_
                  refine DL.y rfl rfl (Y.move) ?_
                  refine DL.y rfl rfl (Y.addI (c := ((i + 1 : Nat) : Int)) rfl rfl (by omega) (by omega) (by omega)) ?_
                  refine DL.y rfl rfl (Y.assign) ?_
                  refine DL.nil ?_
                  have hesc : escJ s[i] = [92, 98] := by
                    have e25 : ¬ s[i] = 34 := u8_ne (n := 34) (by decide) c25
                    have e28 : ¬ s[i] = 92 := u8_ne (n := 92) (by decide) c28
                    have e38 : ¬ s[i] = 10 := u8_ne (n := 10) (by decide) c38
                    have e43 : ¬ s[i] = 9 := u8_ne (n := 9) (by decide) c43
                    have e48 : ¬ s[i] = 13 := u8_ne (n := 13) (by decide) c48
                    have e53 : s[i] = 8 := u8_eq (n := 8) (by decide) c53
                    rw [e53]; rfl
                  exact ⟨(i + 1, c55), ⟨G3, hi, by rw [h55, hout, escT_succ hi, hesc]; simp⟩, by show s.size - (i + 1) < s.size - i; omega, rfl, rfl⟩
                · refine DL.y rfl rfl (Y.assign) ?_
                  refine DL.nil ?_
                  show DC _ _ _ _ _ _
                  refine DC.condF rfl ?_
                  refine DC.seq ?_
                  refine DC.region ?_
                  refine DL.y rfl rfl (Y.move) ?_
                  refine DL.if rfl rfl (Y.eq rfl rfl) (fun c58 => ?_) (fun c58 => ?_)
                  · refine DL.y rfl rfl (Y.assign) ?_
                    refine DL.nil ?_
                    show DC _ _ _ _ _ _
                    refine DC.condT rfl ?_
                    refine DC.region ?_
                    refine DL.y rfl rfl (Y.move) ?_
                    refine DL.catE rfl rfl rfl rfl (by have := size_list out; rw [hout] at this; simp only [List.length_cons] at this; rw [show (⟨#[92, 102]⟩ : ByteArray).size = 2 from rfl]; omega) (fun c60 h60 => ?_)
                    refine DL.y rfl rfl (Y.assign) ?_
                    refine DL.nil ?_
                    show DC _ _ _ _ _ _
                    refine DC.region ?_
                    refine DL.y rfl rfl (Y.move) ?_
                    refine DL.y rfl rfl (Y.addI (c := ((i + 1 : Nat) : Int)) rfl rfl (by omega) (by omega) (by omega)) ?_
                    refine DL.y rfl rfl (Y.assign) ?_
                    refine DL.nil ?_
                    have hesc : escJ s[i] = [92, 102] := by
                      have e25 : ¬ s[i] = 34 := u8_ne (n := 34) (by decide) c25
                      have e28 : ¬ s[i] = 92 := u8_ne (n := 92) (by decide) c28
                      have e38 : ¬ s[i] = 10 := u8_ne (n := 10) (by decide) c38
                      have e43 : ¬ s[i] = 9 := u8_ne (n := 9) (by decide) c43
                      have e48 : ¬ s[i] = 13 := u8_ne (n := 13) (by decide) c48
                      have e53 : ¬ s[i] = 8 := u8_ne (n := 8) (by decide) c53
                      have e58 : s[i] = 12 := u8_eq (n := 12) (by decide) c58
                      rw [e58]; rfl
                    exact ⟨(i + 1, c60), ⟨G3, hi, by rw [h60, hout, escT_succ hi, hesc]; simp⟩, by show s.size - (i + 1) < s.size - i; omega, rfl, rfl⟩
                  · refine DL.y rfl rfl (Y.assign) ?_
                    refine DL.nil ?_
                    show DC _ _ _ _ _ _
                    refine DC.condF rfl ?_
                    refine DC.seq ?_
                    refine DC.region ?_
                    refine DL.y rfl rfl (Y.move) ?_
                    refine DL.if rfl rfl (Y.lt rfl rfl) (fun c63 => ?_) (fun c63 => ?_)
                    · refine DL.y rfl rfl (Y.assign) ?_
                      refine DL.nil ?_
                      show DC _ _ _ _ _ _
                      refine DC.condT rfl ?_
                      refine DC.still F.mixed (by kernel_rfl) ?_
                      intro w4 f5 hsw4
                      replace FR := FR.tr0 f5
                      replace G3 := G3.tr0 f5
                      replace HG3 := HG3.tr0 f5
                      refine DS.y rfl rfl (Y.move) ?_
                      refine DS.y rfl rfl (Y.move) ?_
                      refine DS.y rfl rfl (Y.quoI rfl rfl (by decide) (quo8 s[i])) ?_
                      refine DS.y rfl rfl (Y.move) ?_
                      refine DS.y rfl rfl (Y.quoI rfl rfl (by decide) (quo8 s[i])) ?_
                      refine DS.y rfl rfl (Y.addC (c := ((s[i].toNat / 16 + 1 : Nat) : Int)) rfl rfl (by rw [show ((s[i].toNat / 16 : Nat) : Int) + 1 = ((s[i].toNat / 16 + 1 : Nat) : Int) by omega]; exact wrap8 _ (by omega))) ?_
                      refine DS.y rfl rfl (v := .string ⟨#[hexd (s[i].toNat / 16)]⟩) (hex_ext (s[i].toNat / 16) (by omega) ▸ Y.strLH Tryz.underlying9 rfl rfl rfl (by omega) (by omega) (by show ((s[i].toNat / 16 + 1 : Nat) : Int) ≤ 16; omega)) ?_
                      refine DS.y rfl rfl (Y.cat rfl rfl (by rw [show (⟨#[92, 117, 48, 48]⟩ : ByteArray).size = 4 from rfl, show (⟨#[hexd (s[i].toNat / 16)]⟩ : ByteArray).size = 1 from rfl]; omega)) ?_
                      refine DS.y rfl rfl (Y.move) ?_
                      refine DS.y rfl rfl (Y.remC rfl rfl (by decide) (rem8 s[i])) ?_
                      refine DS.y rfl rfl (Y.move) ?_
                      refine DS.y rfl rfl (Y.remC rfl rfl (by decide) (rem8 s[i])) ?_
                      refine DS.y rfl rfl (Y.addC (c := ((s[i].toNat % 16 + 1 : Nat) : Int)) rfl rfl (by rw [show ((s[i].toNat % 16 : Nat) : Int) + 1 = ((s[i].toNat % 16 + 1 : Nat) : Int) by omega]; exact wrap8 _ (by omega))) ?_
                      refine DS.y rfl rfl (v := .string ⟨#[hexd (s[i].toNat % 16)]⟩) (hex_ext (s[i].toNat % 16) (by omega) ▸ Y.strLH Tryz.underlying9 rfl rfl rfl (by omega) (by omega) (by show ((s[i].toNat % 16 + 1 : Nat) : Int) ≤ 16; omega)) ?_
                      refine DS.y rfl rfl (Y.cat rfl rfl (by rw [ByteArray.size_append, show (⟨#[92, 117, 48, 48]⟩ : ByteArray).size = 4 from rfl, show (⟨#[hexd (s[i].toNat / 16)]⟩ : ByteArray).size = 1 from rfl, show (⟨#[hexd (s[i].toNat % 16)]⟩ : ByteArray).size = 1 from rfl]; omega)) ?_
                      refine DS.y rfl rfl (Y.cat rfl rfl (by have := size_list out; rw [hout] at this; simp only [List.length_cons] at this; rw [ByteArray.size_append, ByteArray.size_append, show (⟨#[92, 117, 48, 48]⟩ : ByteArray).size = 4 from rfl, show (⟨#[hexd (s[i].toNat / 16)]⟩ : ByteArray).size = 1 from rfl, show (⟨#[hexd (s[i].toNat % 16)]⟩ : ByteArray).size = 1 from rfl]; omega)) ?_
                      refine DS.y rfl rfl (Y.assign) ?_
                      refine DS.nil ?_
                      show DC _ _ _ _ _ _
                      refine DC.region ?_
                      refine DL.y rfl rfl (Y.move) ?_
                      refine DL.y rfl rfl (Y.addI (c := ((i + 1 : Nat) : Int)) rfl rfl (by omega) (by omega) (by omega)) ?_
                      refine DL.y rfl rfl (Y.assign) ?_
                      refine DL.nil ?_
                      have hesc : escJ s[i] = [92, 117, 48, 48, hexd (s[i].toNat / 16), hexd (s[i].toNat % 16)] := by
                        have e25 : ¬ s[i] = 34 := u8_ne (n := 34) (by decide) c25
                        have e28 : ¬ s[i] = 92 := u8_ne (n := 92) (by decide) c28
                        have e38 : ¬ s[i] = 10 := u8_ne (n := 10) (by decide) c38
                        have e43 : ¬ s[i] = 9 := u8_ne (n := 9) (by decide) c43
                        have e48 : ¬ s[i] = 13 := u8_ne (n := 13) (by decide) c48
                        have e53 : ¬ s[i] = 8 := u8_ne (n := 8) (by decide) c53
                        have e58 : ¬ s[i] = 12 := u8_ne (n := 12) (by decide) c58
                        unfold escJ
                        rw [if_neg e25, if_neg e28, if_neg e38, if_neg e43, if_neg e48, if_neg e53, if_neg e58, if_pos (Or.inl (by omega))]
                      exact ⟨(i + 1, out ++ (⟨#[92, 117, 48, 48]⟩ ++ ⟨#[hexd (s[i].toNat / 16)]⟩ ++ ⟨#[hexd (s[i].toNat % 16)]⟩)), ⟨G3, hi, by simp only [ByteArray.data_append, Array.toList_append]; rw [hout, escT_succ hi, hesc]; simp⟩, by show s.size - (i + 1) < s.size - i; omega, rfl, rfl⟩
                    · refine DL.y rfl rfl (Y.assign) ?_
                      refine DL.nil ?_
                      show DC _ _ _ _ _ _
                      refine DC.condF rfl ?_
                      refine DC.seq ?_
                      refine DC.region ?_
                      refine DL.y rfl rfl (Y.move) ?_
                      refine DL.if rfl rfl (Y.eq rfl rfl) (fun c82 => ?_) (fun c82 => ?_)
                      · refine DL.y rfl rfl (Y.assign) ?_
                        refine DL.nil ?_
                        show DC _ _ _ _ _ _
                        refine DC.condT rfl ?_
                        refine DC.seq ?_
                        refine DC.region ?_
                        refine DL.y rfl rfl (Y.assign) ?_
                        refine DL.y rfl rfl (Y.assign) ?_
                        refine DL.nil ?_
                        show DC _ _ _ _ _ _
                        refine DC.ret ?_
                        exact FinQ.ret2 rfl rfl (Ret.mk FR ⟨_, _, rfl, Or.inr rfl⟩)
                      · refine DL.y rfl rfl (Y.assign) ?_
                        refine DL.nil ?_
                        show DC _ _ _ _ _ _
                        refine DC.condF rfl ?_
                        refine DC.region ?_
                        refine DL.y rfl rfl (Y.move) ?_
                        refine DL.y rfl rfl (Y.move) ?_
                        refine DL.y rfl rfl (Y.move) ?_
                        refine DL.y rfl rfl (Y.move) ?_
                        refine DL.y rfl rfl (Y.addI rfl rfl (rfl) (by omega) (by omega)) ?_
                        have hx21 : (s.extract ((i : Int).toNat) (((i : Int) + 1).toNat)).data.toList = [s[i]] := ext1 hi
                        refine DL.y rfl rfl (Y.strLH Tryz.underlying9 rfl rfl rfl (by omega) (by omega) (by omega)) ?_
                        refine DL.catE rfl rfl rfl rfl (by have := size_list out; rw [hout] at this; simp only [List.length_cons] at this; have h2 : (s.extract ((i : Int).toNat) (((i : Int) + 1).toNat)).size = 1 := by { rw [size_list, hx21]; rfl }; omega) (fun c22 h22 => ?_)
                        refine DL.y rfl rfl (Y.assign) ?_
                        refine DL.nil ?_
                        show DC _ _ _ _ _ _
                        refine DC.region ?_
                        refine DL.y rfl rfl (Y.move) ?_
                        refine DL.y rfl rfl (Y.addI (c := ((i + 1 : Nat) : Int)) rfl rfl (by omega) (by omega) (by omega)) ?_
                        refine DL.y rfl rfl (Y.assign) ?_
                        refine DL.nil ?_
                        have hesc : escJ s[i] = [s[i]] := by
                          have e25 : ¬ s[i] = 34 := u8_ne (n := 34) (by decide) c25
                          have e28 : ¬ s[i] = 92 := u8_ne (n := 92) (by decide) c28
                          have e38 : ¬ s[i] = 10 := u8_ne (n := 10) (by decide) c38
                          have e43 : ¬ s[i] = 9 := u8_ne (n := 9) (by decide) c43
                          have e48 : ¬ s[i] = 13 := u8_ne (n := 13) (by decide) c48
                          have e53 : ¬ s[i] = 8 := u8_ne (n := 8) (by decide) c53
                          have e58 : ¬ s[i] = 12 := u8_ne (n := 12) (by decide) c58
                          have e82 : ¬ s[i] = 127 := u8_ne (n := 127) (by decide) c82
                          unfold escJ
                          rw [if_neg e25, if_neg e28, if_neg e38, if_neg e43, if_neg e48, if_neg e53, if_neg e58, if_neg (by intro h; rcases h with h | h; omega; exact e82 h)]
                        exact ⟨(i + 1, c22), ⟨G3, hi, by rw [h22, hout, escT_succ hi, hesc, hx21]; simp⟩, by show s.size - (i + 1) < s.size - i; omega, rfl, rfl⟩
    · have hel := escT_len (s.data.toList.take i)
      have hel : (escT (s.data.toList.take i)).length ≤ 6 * 1000000 := by have h1 : (s.data.toList.take i).length ≤ i := by { rw [List.length_take]; omega }; omega
      refine DL.nil ?_
      show DC _ _ _ _ _ _
      refine DC.condF rfl ?_
      refine DC.exit ?_
      show DC _ _ _ _ _ _
      refine DC.seq ?_
      refine DC.region ?_
      refine DL.y rfl rfl (Y.move) ?_
      refine DL.catE rfl rfl rfl rfl (by have := size_list out; rw [hout] at this; simp only [List.length_cons] at this; rw [show (⟨#[34]⟩ : ByteArray).size = 1 from rfl]; omega) (fun c84 h84 => ?_)
      refine DL.y rfl rfl (Y.assign) ?_
      refine DL.y rfl rfl (Y.assign) ?_
      refine DL.nil ?_
      show DC _ _ _ _ _ _
      refine DC.ret ?_
      refine FinQ.ret2 rfl rfl (Ret.mk FR ⟨_, _, rfl, Or.inl ⟨rfl, ?_⟩⟩)
      have hie : i = s.data.toList.length := by omega
      rw [h84, hout, hie, List.take_length]; rfl

end Go.Proofs.YtmbleojlnaofjaaGreatDoor

/- A drawn region that makes memory and writes at its end: some reads are taken first; of what is left each order is walked. -/
namespace Go.Proofs.YtmbleojlnaofjaaGreatDoor.D
open Go Go.RowKit Go.Deep
set_option linter.unusedVariables false
set_option linter.unusedSectionVars false
set_option linter.unusedSimpArgs false
section
variable (P : Program) (ops : Array Oper) (Q : Exit → Act → World → Prop) (S : World → Prop) (z : Nat)
/-- Any order from here on; until number z has come up, S holds behind each operation. -/
def anyZ : Nat → Array Bool → Act → World → Prop
  | 0, L, a, w => Region.ready .any ops L = [] ∧ Q .normal a w
  | f + 1, L, a, w => (Region.ready .any ops L = [] → Q .normal a w) ∧
    ∀ i ∈ Region.ready .any ops L, wpOp P ops Q i (fun a' w' => ((L.setIfInBounds i true).getD z false = true ∨ S w') ∧ anyZ f (L.setIfInBounds i true) a' w') a w
end
section
variable {P : Program} {ops : Array Oper} {Q : Exit → Act → World → Prop} {S : World → Prop} {z : Nat}
theorem wpAny_of_Z : ∀ (f : Nat) (L : Array Bool) (a : Act) (w : World), anyZ P ops Q S z f L a w → wpAny P .any ops Q f L a w
  | 0, _, _, _, h => h
  | f + 1, _, _, _, h => ⟨h.1, fun i hi => wpOp_mono (fun a' w' h' => wpAny_of_Z f _ a' w' h'.2) (h.2 i hi)⟩
/-- An operation for which z waits may be taken first, if it yields its value in each world that meets S. -/
theorem anyZ_first {i : Nat} {oi : Oper} {v : Value} (hi : ops[i]? = some oi) (hsel : ∀ (j : Nat) (o : Oper) cs b, ops[j]? = some o → o.op ≠ .select cs b) (hQ : ∀ c a w, ¬ Q (.panic c) a w)
    (hzi : ∀ oz, ops[z]? = some oz → ∃ e ∈ oz.after, Region.binds .any e = true ∧ e.on = i) (hne : z ≠ i) (f : Nat) : ∀ (L : Array Bool) (a : Act) (w : World),
    (∀ j oj, ops[j]? = some oj → j ≠ i → L.getD j true = false → (∀ e ∈ oj.after, Region.binds .any e = true → e.on ≠ i) → oi.apart ops oj = true) →
    i ∈ Region.ready .any ops L → YieldsIf P ops S oi v a → S w → L.getD z false = false → anyZ P ops Q S z f (L.setIfInBounds i true) (a.put oi.dst v) w → anyZ P ops Q S z (f + 1) L a w := by
  induction f with
  | zero =>
    intro L a w hf hr hy hS hz H
    refine ⟨fun h => absurd hr (by rw [h]; simp), fun j hj => ?_⟩
    rcases Classical.em (j = i) with rfl | hji
    · exact hy.wpOp hi hS ⟨Or.inr hS, H⟩
    · exact absurd (ready_mono hj hji) (by rw [H.1]; simp)
  | succ f ih =>
    intro L a w hf hr hy hS hz H
    refine ⟨fun h => absurd hr (by rw [h]; simp), fun j hj => ?_⟩
    rcases Classical.em (j = i) with rfl | hji
    · exact hy.wpOp hi hS ⟨Or.inr hS, H⟩
    obtain ⟨hju, oj, hoj, hwait⟩ := mem_ready.1 hj
    have hiu := (mem_ready.1 hr).1
    have hno : ∀ e ∈ oj.after, Region.binds .any e = true → e.on ≠ i := fun e he hb heq => by
      have h1 := hwait e he hb
      rw [heq] at h1
      rcases Nat.lt_or_ge i L.size with hl | hl
      · simp only [Array.getD_eq_getD_getElem?, Array.getElem?_eq_getElem hl, Option.getD_some] at h1 hiu
        rw [hiu] at h1; cases h1
      · simp [Array.getElem?_eq_none hl] at h1
    have hjz : j ≠ z := fun h => by
      subst h
      obtain ⟨e, he, hb, hon⟩ := hzi oj hoj
      exact hno e he hb hon
    have key := wpOp_putIf hoj (hf j oj hoj hji hju hno) (fun cs b => hsel i oi cs b hi) (fun cs b => hsel j oj cs b hoj) (fun c a w h => absurd h (hQ c _ w)) hy (H.2 j (ready_mono hj hji))
    refine wpOp_mono (fun a' w' h3 => ?_) key
    have hz1 : (L.setIfInBounds j true).getD z false = false := by rw [getD_set_ne false hjz]; exact hz
    have hz2 : ((L.setIfInBounds i true).setIfInBounds j true).getD z false = false := by rw [getD_set_ne false hjz, getD_set_ne false (Ne.symm hne)]; exact hz
    have hS' : S w' := h3.2.1.resolve_left (by rw [hz2]; simp)
    refine ⟨Or.inr hS', ih _ a' w' (fun k ok hk hki hku hkn => hf k ok hk hki ?_ hkn) (ready_mono hr (Ne.symm hji)) h3.1 hS' hz1 ?_⟩
    · rcases Classical.em (j = k) with rfl | hjk
      · exact hju
      · rw [getD_set_ne true hjk] at hku; exact hku
    · rw [Array.setIfInBounds_comm _ _ hji]; exact h3.2.2
end
/-- z waits for i, as a test. -/
def waitsB (l : List Oper) (z i : Nat) : Bool := !(Nat.beq z i) && (match nthO l z with | some o => o.after.toList.any (fun e => Region.binds .any e && Nat.beq e.on i) | none => true)
structure DG (P : Program) (n : Nat) (l : List Oper) (S : World → Prop) (z : Nat) (fuel : Nat) (listed : Array Bool) (e : Env) (w : World) (K : Env → World → Prop) : Prop where
  out : ∀ (a : Act) (Q : Exit → Act → World → Prop), Rep n a e → (listed.getD z false = true ∨ S w) → (∀ c a w, ¬ Q (.panic c) a w) → (∀ a' e' w', Rep n a' e' → (∀ t, t ∉ dstsL l → e' t = e t) → K e' w' → Q .normal a' w') →
    anyZ P l.toArray Q S z fuel listed a w
section
variable {P : Program} {n : Nat} {e : Env} {w : World} {l : List Oper} {S : World → Prop} {z fuel : Nat} {listed : Array Bool} {K : Env → World → Prop}
theorem DG.take {o : Oper} {v : Value} (i : Nat) (hi : nthO l i = some o) (hs : Region.noSelect l.toArray = true) (hf : Region.free .any l.toArray listed i = true) (hr : (Region.ready .any l.toArray listed).contains i = true) (hz : waitsB l z i = true) (hzl : listed.getD z false = false)
    (hg : wantB l e o.guard = true) (hd : ltB n o.dst = true) (h : ∀ w, S w → Y P e o w v) (k : DG P n l S z fuel (listed.setIfInBounds i true) (put e o.dst v) w K) : DG P n l S z (fuel + 1) listed e w K := by
  rw [nthO_eq] at hi
  unfold waitsB at hz
  rw [nthO_eq] at hz
  simp only [Bool.and_eq_true, Bool.not_eq_true'] at hz
  refine ⟨fun a Q ha hw hnp hq => ?_⟩
  have hS : S w := hw.resolve_left (by rw [hzl]; simp)
  refine anyZ_first (oi := o) (v := v) (by simpa using hi) (Region.noSelect_spec hs) hnp (fun oz hoz => ?_) (fun h => by rw [h, Nat.beq_refl] at hz; cases hz.1) fuel listed a w (Region.free_spec (by simpa using hi) hf) (by simpa using hr) (Or.inl ⟨by rw [wantB_eq ha, hg], fun w' hw' => by rw [ha.eval]; exact h w' hw'⟩) hS hzl
    (k.out _ Q (ha.put o.dst v (ltB_spec hd)) (Or.inr hS) hnp (fun a' e' w' h1 h2 h4 => hq a' e' w' h1 (fun t ht => ?_) h4))
  · have h2 := hz.2
    have hoz' : l[z]? = some oz := by simpa using hoz
    rw [hoz'] at h2
    obtain ⟨e, he, hb⟩ := List.any_eq_true.1 h2
    simp only [Bool.and_eq_true] at hb
    exact ⟨e, by simpa using he, hb.1, Nat.eq_of_beq_eq_true hb.2⟩
  · rw [h2 t ht, put_other hi ht]
/-- Whichever of rs comes next. -/
theorem DG.pick (rs : List Nat) (hr : Region.ready .any l.toArray listed = rs) (hne : rs ≠ [])
    (h : ∀ i ∈ rs, ∃ o, nthO l i = some o ∧ DL P n l [o] e w (fun e' w' => ((listed.setIfInBounds i true).getD z false = true ∨ S w') ∧ DG P n l S z fuel (listed.setIfInBounds i true) e' w' K)) : DG P n l S z (fuel + 1) listed e w K := by
  refine ⟨fun a Q ha hw hnp hq => ⟨fun h0 => absurd (hr ▸ h0) hne, fun i hi => ?_⟩⟩
  obtain ⟨o, ho, hd⟩ := h i (hr ▸ hi)
  rw [nthO_eq] at ho
  unfold wpOp
  have hi' : l.toArray[i]? = some o := by simpa using ho
  simp only [hi']
  have := hd.out a (fun x a' w' => match x with | .normal => ((listed.setIfInBounds i true).getD z false = true ∨ S w') ∧ anyZ P l.toArray Q S z fuel (listed.setIfInBounds i true) a' w' | x => Q x a' w') ha (fun a' e' w' h1 h2 h3 =>
    ⟨h3.1, h3.2.out a' Q h1 h3.1 hnp (fun a2 e2 w2 k1 k2 k4 => hq a2 e2 w2 k1 (fun t ht => by
      rw [k2 t ht]
      refine h2 t (fun hm => ht ?_)
      unfold dstsL at hm
      cases hod : o.dst with
      | none => rw [hod] at hm; simp [dstsL] at hm
      | some d => rw [hod] at hm; simp only [dstsL, List.mem_singleton] at hm; rw [hm]; exact dst_mem hod l i ho) k4)⟩)
  unfold wpList at this
  split
  · rename_i hwn
    rw [if_pos hwn] at this
    rcases this with h | h
    · exact Or.inl (wp_imp (fun a' w' h' => by unfold wpList at h'; exact h') (fun c a' w' h' => h') (fun h' => h') h)
    · exact Or.inr h
  · rename_i hwn
    rw [if_neg hwn] at this
    unfold wpList at this
    exact this
theorem DG.done (hr : Region.ready .any l.toArray listed = []) (h : K e w) : DG P n l S z fuel listed e w K :=
  ⟨fun a Q ha hw hnp hq => by
    have := hq a e w ha (fun _ _ => rfl) h
    cases fuel with
    | zero => exact ⟨hr, this⟩
    | succ f => exact ⟨fun _ => this, by rw [hr]; simp⟩⟩
/-- What is common to several orders, said once. -/
theorem DG.with (I : Env → World → Prop) (fuel' : Nat) (listed' : Array Bool) (fin : ∀ e' w', I e' w' → DG P n l S z fuel' listed' e' w' K)
    (h : (∀ (lst : Array Bool) e' w', lst = listed' → I e' w' → DG P n l S z fuel' lst e' w' K) → DG P n l S z fuel listed e w K) : DG P n l S z fuel listed e w K :=
  h (fun lst e' w' hl hi => by subst hl; exact fin e' w' hi)
theorem DC.drawn {id : Nat} {Q : Exit → Env → World → Prop} (S : World → World → Prop) (z : Nat) (hm : P.follows .mixedOrders = true)
    (h : ∀ w', Fr [] w w' → w'.heap.size = w.heap.size → S w' w' ∧ DG P n l (S w') z l.length (Array.replicate l.length false) e w' (fun e2 w2 => Q .normal e2 w2)) : DC P n (.region id l.toArray true) e w Q := by
  refine ⟨fun a ha => wp_region_noPanic (wp_region_any hm (wpAny_of_Z (S := S { w with drawn := w.drawn + 1 }) (z := z) _ _ _ _ ?_))⟩
  obtain ⟨hS, hD⟩ := h _ (Fr.drawn w (w.drawn + 1)) rfl
  have := hD.out a (NoPanic fun x a' w' => ∃ e', Rep n a' e' ∧ (∀ t, t ∉ dstsC (.region id l.toArray true) → e' t = e t) ∧ Q x e' w') ha (Or.inr hS) (fun c a w h => h) (fun a' e' w' h1 h2 h3 =>
    (show ∃ e', Rep n a' e' ∧ (∀ t, t ∉ dstsC (.region id l.toArray true) → e' t = e t) ∧ Q .normal e' w' from ⟨e', h1, fun t ht => h2 t (by simpa [dstsC] using ht), h3⟩))
  simpa using this
end
end Go.Proofs.YtmbleojlnaofjaaGreatDoor.D

/- A drawn region in whose worlds something holds all along (S): reads are taken first; of what is left each order is walked. -/
namespace Go.Proofs.YtmbleojlnaofjaaGreatDoor.D
open Go Go.RowKit Go.Deep
set_option linter.unusedVariables false
set_option linter.unusedSectionVars false
set_option linter.unusedSimpArgs false
structure DK (P : Program) (n : Nat) (l : List Oper) (S : World → Prop) (fuel : Nat) (listed : Array Bool) (e : Env) (w : World) (K : Env → World → Prop) : Prop where
  out : ∀ (a : Act) (Q : Exit → Act → World → Prop), Rep n a e → S w → (∀ c a w, ¬ Q (.panic c) a w) → (∀ a' e' w', Rep n a' e' → (∀ t, t ∉ dstsL l → e' t = e t) → K e' w' → Q .normal a' w') →
    wpAnyH P .any l.toArray Q S fuel listed a w
section
variable {P : Program} {n : Nat} {e : Env} {w : World} {l : List Oper} {S : World → Prop} {fuel : Nat} {listed : Array Bool} {K : Env → World → Prop}
theorem DK.take {o : Oper} {v : Value} (i : Nat) (hi : nthO l i = some o) (hs : Region.noSelect l.toArray = true) (hf : Region.free .any l.toArray listed i = true) (hr : (Region.ready .any l.toArray listed).contains i = true)
    (hg : wantB l e o.guard = true) (hd : ltB n o.dst = true) (h : ∀ w, S w → Y P e o w v) (k : DK P n l S fuel (listed.setIfInBounds i true) (put e o.dst v) w K) : DK P n l S (fuel + 1) listed e w K := by
  rw [nthO_eq] at hi
  refine ⟨fun a Q ha hw hnp hq => wpAnyH_take (oi := o) (v := v) (by simpa using hi) hs hf hr (fun c a w h => (hnp _ _ _ h).elim) (Or.inl ⟨by rw [wantB_eq ha, hg], fun w' hw' => by rw [ha.eval]; exact h w' hw'⟩) hw
    (k.out _ Q (ha.put o.dst v (ltB_spec hd)) hw hnp (fun a' e' w' h1 h2 h4 => hq a' e' w' h1 (fun t ht => ?_) h4))⟩
  rw [h2 t ht, put_other hi ht]
theorem DK.pick (rs : List Nat) (hr : Region.ready .any l.toArray listed = rs) (hne : rs ≠ [])
    (h : ∀ i ∈ rs, ∃ o, nthO l i = some o ∧ DL P n l [o] e w (fun e' w' => S w' ∧ DK P n l S fuel (listed.setIfInBounds i true) e' w' K)) : DK P n l S (fuel + 1) listed e w K := by
  refine ⟨fun a Q ha hw hnp hq => wpAnyH_all hr hne (fun i hi => ?_)⟩
  obtain ⟨o, ho, hd⟩ := h i hi
  rw [nthO_eq] at ho
  unfold wpOp
  have hi' : l.toArray[i]? = some o := by simpa using ho
  simp only [hi']
  have := hd.out a (fun x a' w' => match x with | .normal => S w' ∧ wpAnyH P .any l.toArray Q S fuel (listed.setIfInBounds i true) a' w' | x => Q x a' w') ha (fun a' e' w' h1 h2 h3 =>
    ⟨h3.1, h3.2.out a' Q h1 h3.1 hnp (fun a2 e2 w2 k1 k2 k4 => hq a2 e2 w2 k1 (fun t ht => by
      rw [k2 t ht]
      refine h2 t (fun hm => ht ?_)
      unfold dstsL at hm
      cases hod : o.dst with
      | none => rw [hod] at hm; simp [dstsL] at hm
      | some d => rw [hod] at hm; simp only [dstsL, List.mem_singleton] at hm; rw [hm]; exact dst_mem hod l i ho) k4)⟩)
  unfold wpList at this
  split
  · rename_i hwn
    rw [if_pos hwn] at this
    rcases this with h | h
    · exact Or.inl (wp_imp (fun a' w' h' => by unfold wpList at h'; exact h') (fun c a' w' h' => h') (fun h' => h') h)
    · exact Or.inr h
  · rename_i hwn
    rw [if_neg hwn] at this
    unfold wpList at this
    exact this
theorem DK.done (hr : Region.ready .any l.toArray listed = []) (h : K e w) : DK P n l S fuel listed e w K :=
  ⟨fun a Q ha hw hnp hq => wpAnyH_done hr (hq a e w ha (fun _ _ => rfl) h) fuel⟩
theorem DC.heldS {id : Nat} {Q : Exit → Env → World → Prop} (S : World → Prop) (hm : P.follows .mixedOrders = true)
    (h : ∀ w', Fr [] w w' → w'.heap.size = w.heap.size → S w' ∧ DK P n l S l.length (Array.replicate l.length false) e w' (fun e2 w2 => Q .normal e2 w2)) : DC P n (.region id l.toArray true) e w Q := by
  refine ⟨fun a ha => wp_region_noPanic (wp_region_held (S := S) hm ?_)⟩
  obtain ⟨hS, hD⟩ := h _ (Fr.drawn w (w.drawn + 1)) rfl
  have := hD.out a (NoPanic fun x a' w' => ∃ e', Rep n a' e' ∧ (∀ t, t ∉ dstsC (.region id l.toArray true) → e' t = e t) ∧ Q x e' w') ha hS (fun c a w h => h) (fun a' e' w' h1 h2 h3 =>
    (show ∃ e', Rep n a' e' ∧ (∀ t, t ∉ dstsC (.region id l.toArray true) → e' t = e t) ∧ Q .normal e' w' from ⟨e', h1, fun t ht => h2 t (by simpa [dstsC] using ht), h3⟩))
  simpa using this
theorem DC.drawnF {id : Nat} {Q : Exit → Env → World → Prop} (hm : P.follows .mixedOrders = true)
    (h : ∀ w', Fr [] w w' → w'.heap.size = w.heap.size → DK P n l (Fr [] w') l.length (Array.replicate l.length false) e w' (fun e2 w2 => Q .normal e2 w2)) : DC P n (.region id l.toArray true) e w Q := by
  refine ⟨fun a ha => wp_region_noPanic (wp_region_held (S := Fr [] { w with drawn := w.drawn + 1 }) hm ?_)⟩
  have := (h _ (Fr.drawn w (w.drawn + 1)) rfl).out a (NoPanic fun x a' w' => ∃ e', Rep n a' e' ∧ (∀ t, t ∉ dstsC (.region id l.toArray true) → e' t = e t) ∧ Q x e' w') ha (Fr.refl _ _) (fun c a w h => h) (fun a' e' w' h1 h2 h3 =>
    (show ∃ e', Rep n a' e' ∧ (∀ t, t ∉ dstsC (.region id l.toArray true) → e' t = e t) ∧ Q .normal e' w' from ⟨e', h1, fun t ht => h2 t (by simpa [dstsC] using ht), h3⟩))
  simpa using this
/-- Two parts, of which the first ends in one of the states s: only the slots of Fb are known behind it. -/
theorem DC.seqJ {x y : Code} {Q : Exit → Env → World → Prop} {σ : Type} (Fb : σ → List (Nat × Value)) (I : σ → World → Prop) (h1 : DC P n x e w (thenQ (fun e' w' => ∃ s, AllEq e' (Fb s) ∧ I s w') Q)) (h2 : ∀ s e0 w', I s w' → DC P n y (updL e0 (Fb s)) w' Q) : DC P n (.seq x y) e w Q := by
  refine DC.seq (h1.mono ?_)
  intro ex e' w' _ hq
  cases ex with
  | normal =>
    obtain ⟨s, hb, hi⟩ := hq
    have := h2 s e' w' hi
    rw [updL_same hb] at this
    exact this
  | _ => exact hq
theorem Y.nilI {x : Operand} {t : TypeId} {v : Value} {dst : Option Tmp} {ty : TypeId} {pos : String} {af : Array Edge} {g : Option (Nat × Bool)} (hx : ev e x = .iface t v) : Y P e ⟨dst, .nilCheck x, ty, pos, af, g⟩ w (.iface t v) := by
  unfold Y; simp [execOp, hx]
end
end Go.Proofs.YtmbleojlnaofjaaGreatDoor.D

/-
  DERIVED: THE SHELF's CONTRACTS AT THIS DUMP, IN PLAIN WORDS (tools/lay-plain.mjs out of 'TryzShelfDec.lean', which tools/lay-shelf.mjs wrote): THE SAME DECLARATIONS UNDER THE SAME NAMES: 'import', 'namespace', 'open', 'def', 'theorem' AND NOTHING ELSE: no command of the shelf's: FOR A HAND-IN. Each laying: the table of numbers ('.._ren') and one theorem, a field a fact of the dump's own or the kernel's comparison; each contract: ONE APPLICATION.
-/
namespace Go.Proofs
open Go.Shelf
def Tryz.laysDec_ren : Go.Shelf.Ren := ⟨fun | 197 => 188 | 260 => 200 | n => n, fun | 9 => 9 | 21 => 21 | 3 => 3 | 4 => 4 | 5 => 5 | 105 => 199 | 119 => 59 | 0 => 0 | 46 => 63 | 139 => 62 | 138 => 61 | n => n, fun | 3 => 0 | 4 => 1 | n => n⟩
theorem Tryz.laysDec : Go.Proofs.Lays.n197 Tryz.prog Tryz.laysDec_ren := {
  mixed := by kernel_rfl
  f197 := Tryz.func188.trans (congrArg some (by kernel_rfl))
  f260 := Tryz.func200.trans (congrArg some (by kernel_rfl))
  t0 := Tryz.underlying0
  a0 := Tryz.isAgg0
  z0 := Tryz.sizeOf0
  v0 := Tryz.zeroValue0
  t3 := Tryz.underlying3
  a3 := Tryz.isAgg3
  z3 := Tryz.sizeOf3
  v3 := Tryz.zeroValue3
  t4 := Tryz.underlying4
  a4 := Tryz.isAgg4
  z4 := Tryz.sizeOf4
  v4 := Tryz.zeroValue4
  t5 := Tryz.underlying5
  a5 := Tryz.isAgg5
  z5 := Tryz.sizeOf5
  v5 := Tryz.zeroValue5
  t9 := Tryz.underlying9
  a9 := Tryz.isAgg9
  z9 := Tryz.sizeOf9
  v9 := Tryz.zeroValue9
  t21 := Tryz.underlying21
  a21 := Tryz.isAgg21
  z21 := Tryz.sizeOf21
  v21 := Tryz.zeroValue21
  t46 := Tryz.underlying63
  a46 := Tryz.isAgg63
  z46 := Tryz.sizeOf63
  v46 := Tryz.zeroValue63
  t105 := Tryz.underlying199
  a105 := Tryz.isAgg199
  z105 := Tryz.sizeOf199
  v105 := Tryz.zeroValue199
  t119 := Tryz.underlying59
  a119 := Tryz.isAgg59
  z119 := Tryz.sizeOf59
  t138 := Tryz.underlying61
  a138 := Tryz.isAgg61
  z138 := Tryz.sizeOf61
  v138 := Tryz.zeroValue61
  t139 := Tryz.underlying62
  a139 := Tryz.isAgg62
  z139 := Tryz.sizeOf62
  v139 := Tryz.zeroValue62
  g3 := by kernel_rfl
  g4 := by kernel_rfl }
end Go.Proofs

/- The encoder's state; bytes of runes. -/
namespace Go.Proofs.YtmbleojlnaofjaaGreatDoor
open Go Go.RowKit D Go.Deep
set_option linter.unusedVariables false
set_option linter.unusedSimpArgs false


theorem hmWS (x a : Value) (w : World) : (callMethod (.iface 157 x) "WriteString" [a].toArray).run Tryz.prog w = .ok (.enter 267 (x :: [a]).toArray) w := by kernel_rfl
theorem hmWB (x a : Value) (w : World) : (callMethod (.iface 157 x) "WriteByte" [a].toArray).run Tryz.prog w = .ok (.enter 266 (x :: [a]).toArray) w := by kernel_rfl
theorem hmW (x a : Value) (w : World) : (callMethod (.iface 157 x) "Write" [a].toArray).run Tryz.prog w = .ok (.enter 265 (x :: [a]).toArray) w := by kernel_rfl
/-- An encoder in block be, over a builder in block b: the bytes written, the blocks that are theirs. -/
structure ES (w : World) (B be b : Nat) (X : List Nat) (l : List UInt8) : Prop where
  cell : w.cell? ⟨be, 0, none⟩ = some (.iface 157 (.pointer (some ⟨b, 0, none⟩)))
  row : ∃ buf, w.heap[be]? = some (.cells buf 164 (0, 0)) ∧ buf.size = 65
  bld : ∃ Xb, Bld w B b Xb l ∧ X = be :: Xb ∧ be ∉ Xb
  lo : B ≤ be
  two : 2 ≤ B
theorem ES.ge {w : World} {B be b : Nat} {X : List Nat} {l : List UInt8} (h : ES w B be b X l) : ∀ i ∈ X, B ≤ i ∧ i < w.heap.size := by
  obtain ⟨Xb, hb, rfl, hn⟩ := h.bld
  obtain ⟨buf, hr, _⟩ := h.row
  intro i hi
  rcases List.mem_cons.1 hi with rfl | hi
  · exact ⟨h.lo, lt_of_blk hr⟩
  · exact hb.ge i hi
theorem ES.fr {S : List Nat} {w w' : World} {B be b : Nat} {X : List Nat} {l : List UInt8} (h : ES w B be b X l) (f : Fr S w w') (hs : ∀ i ∈ S, i ∉ X) : ES w' B be b X l := by
  obtain ⟨Xb, hb, rfl, hn⟩ := h.bld
  obtain ⟨buf, hr, hz⟩ := h.row
  have hbe : be ∉ S := fun hi => hs be hi (by simp)
  exact ⟨f.cell h.cell hbe, ⟨buf, f.blk hr hbe, hz⟩, ⟨Xb, hb.fr f (fun i hi hx => hs i hi (by simp [hx])), rfl, hn⟩, h.lo, h.two⟩
theorem ES.fr0 {w w' : World} {B be b : Nat} {X : List Nat} {l : List UInt8} (h : ES w B be b X l) (f : Fr [] w w') : ES w' B be b X l := h.fr f (by simp)
theorem ES.put {w w' : World} {B be b : Nat} {X Xb Xb' : List Nat} {l l' : List UInt8} (h : ES w B be b (be :: Xb) l) (hn : be ∉ Xb) (f : Fr Xb w w') (hb : Bld w' B b Xb' l') (hs : Sub Xb' Xb w) : ES w' B be b (be :: Xb') l' := by
  obtain ⟨buf, hr, hz⟩ := h.row
  exact ⟨f.cell h.cell hn, ⟨buf, f.blk hr hn, hz⟩, ⟨Xb', hb, rfl, hs.not hn (lt_of_blk hr)⟩, h.lo, h.two⟩
theorem ES.wstr {w : World} {B be b : Nat} {X : List Nat} {l : List UInt8} {s : ByteArray} (h : ES w B be b X l) (hlen : l.length + s.data.toList.length ≤ 140737488355328) : Calls Tryz.prog 267 #[.pointer (some ⟨b, 0, none⟩), .string s] w (Ret w X fun r w' => ∃ X', ES w' B be b X' (l ++ s.data.toList) ∧ Sub X' X w) := by
  obtain ⟨Xb, hb, rfl, hn⟩ := h.bld
  refine (WriteString_any hb (by rw [size_list]; exact hlen)).mono (Ret.into (fun i hi => by simp [hi]) ?_)
  rintro v w' hf ⟨X', h1, h2⟩
  exact ⟨be :: X', h.put (X := []) hn hf h1 h2, h2.cons be⟩
theorem ES.wbyte {w : World} {B be b : Nat} {X : List Nat} {l : List UInt8} {c : UInt8} (h : ES w B be b X l) (hlen : l.length + 1 ≤ 140737488355328) : Calls Tryz.prog 266 #[.pointer (some ⟨b, 0, none⟩), .int .u8 (c.toNat : Int)] w (Ret w X fun r w' => ∃ X', ES w' B be b X' (l ++ [c]) ∧ Sub X' X w) := by
  obtain ⟨Xb, hb, rfl, hn⟩ := h.bld
  refine (WriteByte_any hb hlen).mono (Ret.into (fun i hi => by simp [hi]) ?_)
  rintro v w' hf ⟨X', h1, h2⟩
  exact ⟨be :: X', h.put (X := []) hn hf h1 h2, h2.cons be⟩
theorem ES.wbuf {w : World} {B be b o cap : Nat} {X : List Nat} {l m : List UInt8} (h : ES w B be b X l) (hm : ∀ i (hi : i < m.length), w.cell? ⟨be, o + i, none⟩ = some (.int .u8 (m[i].toNat : Int))) (hlen : l.length + m.length ≤ 140737488355328) : Calls Tryz.prog 265 #[.pointer (some ⟨b, 0, none⟩), .slice (some ⟨be, o, none⟩) m.length cap] w (Ret w X fun r w' => ∃ X', ES w' B be b X' (l ++ m) ∧ Sub X' X w) := by
  obtain ⟨Xb, hb, rfl, hn⟩ := h.bld
  refine (Write_any hb hn hm hlen).mono (Ret.into (fun i hi => by simp [hi]) ?_)
  rintro v w' hf ⟨X', h1, h2⟩
  exact ⟨be :: X', h.put (X := []) hn hf h1 h2, h2.cons be⟩
/-- The encoder's buffer is written. -/
theorem ES.buf {w w' : World} {B be b : Nat} {X : List Nat} {l : List UInt8} {cur : Array Value} (h : ES w B be b X l) (f : Fr [be] w w') (hr : w'.heap[be]? = some (.cells cur 164 (0, 0))) (hz : cur.size = 65) (hc : cur[0]? = some (.iface 157 (.pointer (some ⟨b, 0, none⟩)))) : ES w' B be b X l := by
  obtain ⟨Xb, hb, rfl, hn⟩ := h.bld
  exact ⟨cell_of_blk hr hc, ⟨cur, hr, hz⟩, ⟨Xb, hb.fr f (fun i hi hx => by rcases List.mem_singleton.1 hi with rfl; exact hn hx), rfl, hn⟩, h.lo, h.two⟩
theorem ES.mem {w : World} {B be b : Nat} {X : List Nat} {l : List UInt8} (h : ES w B be b X l) : be ∈ X := by
  obtain ⟨Xb, hb, rfl, hn⟩ := h.bld
  simp
theorem ES.cast {w : World} {B be b : Nat} {X : List Nat} {l l' : List UInt8} (h : ES w B be b X l) (e : l = l') : ES w B be b X l' := e ▸ h
theorem Tabs.es {w w' : World} {B be b : Nat} {X : List Nat} {l : List UInt8} (h : Tabs w) (hE : ES w B be b X l) (f : Fr X w w') : Tabs w' := h.fr f (fun c hc hm => by have := (hE.ge c hm).1; have := hE.two; omega)
/-! ### Bytes of runes -/
theorem decodeN_hi {n b0 b1 b2 b3 : Nat} (h0 : 128 ≤ b0) (hv : ¬ ((Lib.decodeN n b0 b1 b2 b3).1 = 65533 ∧ (Lib.decodeN n b0 b1 b2 b3).2 = 1)) :
    ((Lib.decodeN n b0 b1 b2 b3).2 = 2 ∧ 1 < n ∧ 128 ≤ b1) ∨ ((Lib.decodeN n b0 b1 b2 b3).2 = 3 ∧ 2 < n ∧ 128 ≤ b1 ∧ 128 ≤ b2) ∨ ((Lib.decodeN n b0 b1 b2 b3).2 = 4 ∧ 3 < n ∧ 128 ≤ b1 ∧ 128 ≤ b2 ∧ 128 ≤ b3) := by
  unfold Lib.decodeN at hv ⊢
  rw [if_neg (by omega)] at hv ⊢
  split at hv
  · rename_i h
    rw [if_pos h]
    split at hv
    · rename_i h2; rw [if_pos h2]; exact Or.inl ⟨rfl, h.2.1, by omega⟩
    · exact absurd ⟨rfl, rfl⟩ hv
  · rename_i h
    rw [if_neg h]
    split at hv
    · rename_i h
      rw [if_pos h]
      split at hv
      · rename_i h2; rw [if_pos h2]; exact Or.inr (Or.inl ⟨rfl, h.2.2.1, by omega, by omega⟩)
      · exact absurd ⟨rfl, rfl⟩ hv
    · rename_i h
      rw [if_neg h]
      split at hv
      · rename_i h
        rw [if_pos h]
        split at hv
        · rename_i h2; rw [if_pos h2]; exact Or.inr (Or.inr ⟨rfl, h.2.2.2.1, by omega, by omega, by omega⟩)
        · exact absurd ⟨rfl, rfl⟩ hv
      · exact absurd ⟨rfl, rfl⟩ hv
theorem escJ_hi {c : UInt8} (h : 128 ≤ c.toNat) : escJ c = [c] := by
  have k (d : UInt8) (hd : ¬ 128 ≤ d.toNat) : ¬ c = d := fun hc => hd (hc ▸ h)
  unfold escJ
  rw [if_neg (k 34 (by decide)), if_neg (k 92 (by decide)), if_neg (k 10 (by decide)), if_neg (k 9 (by decide)), if_neg (k 13 (by decide)), if_neg (k 8 (by decide)), if_neg (k 12 (by decide)), if_neg]
  rintro (h1 | h1)
  · omega
  · exact k 127 (by decide) h1
theorem escT_app (a b : List UInt8) : escT (a ++ b) = escT a ++ escT b := by simp [escT]
theorem escT_hi : ∀ (l : List UInt8), (∀ c ∈ l, 128 ≤ c.toNat) → escT l = l
  | [], _ => rfl
  | c :: l, h => by
    have h1 := escT_hi l (fun x hx => h x (by simp [hx]))
    simp only [escT, List.flatMap_cons] at h1 ⊢
    rw [h1, escJ_hi (h c (by simp))]; rfl
/-- A rune that does not stand in one byte: its width, and that none of its bytes is written otherwise. -/
theorem rune_hi {l : List UInt8} (hne : l ≠ []) (hv : Lib.validD l = true) (h0 : 128 ≤ (l.getD 0 0).toNat) :
    ¬ ((Lib.decodeL l).1 = 65533 ∧ (Lib.decodeL l).2 = 1) ∧ 1 ≤ (Lib.decodeL l).2 ∧ (Lib.decodeL l).2 ≤ l.length ∧ escT (l.take (Lib.decodeL l).2) = l.take (Lib.decodeL l).2 ∧ Lib.validD (l.drop (Lib.decodeL l).2) = true := by
  rw [Lib.validD_step l hne] at hv
  have hn : ¬ ((Lib.decodeL l).1 = 65533 ∧ (Lib.decodeL l).2 = 1) := fun h => by rw [if_pos h] at hv; cases hv
  rw [if_neg hn] at hv
  refine ⟨hn, ?_⟩
  have hN := Lib.decodeL_N l
  have hc := decodeN_hi (n := l.length) (b1 := (l.getD 1 0).toNat) (b2 := (l.getD 2 0).toNat) (b3 := (l.getD 3 0).toNat) h0 (by rw [← hN]; exact hn)
  rw [← hN] at hc
  have hget : ∀ j, j < l.length → l.getD j 0 = l[j]! := fun j hj => by simp [List.getD_eq_getElem?_getD, hj]
  refine ⟨by omega, by omega, escT_hi _ (fun c hc' => ?_), hv⟩
  obtain ⟨j, hj, rfl⟩ := List.getElem_of_mem hc'
  rw [List.getElem_take]
  have hjl : j < l.length := by rw [List.length_take] at hj; omega
  have hj2 : j < (Lib.decodeL l).2 := by rw [List.length_take] at hj; omega
  have e : l[j] = l.getD j 0 := by simp [List.getD_eq_getElem?_getD, hjl]
  rw [e]
  rcases hc with h | h | h
  · rcases (by omega : j = 0 ∨ j = 1) with rfl | rfl <;> omega
  · rcases (by omega : j = 0 ∨ j = 1 ∨ j = 2) with rfl | rfl | rfl <;> omega
  · rcases (by omega : j = 0 ∨ j = 1 ∨ j = 2 ∨ j = 3) with rfl | rfl | rfl | rfl <;> omega
theorem valid_ascii {c : UInt8} {t : List UInt8} (h : c.toNat < 128) (hv : Lib.validD (c :: t) = true) : Lib.validD t = true := by
  rw [Lib.validD_step _ (by simp), Lib.decodeL_ascii c t h] at hv
  split at hv
  · cases hv
  · simpa using hv
theorem decodeGo_drop {s : ByteArray} {i : Nat} (h : i < s.size) : Lib.decodeGo (s.extract i s.size) = Lib.decodeL (s.data.toList.drop i) := by
  unfold Lib.decodeGo
  rw [if_neg (by rw [Lib.tail_size]; omega), Lib.tail_decode, Nat.add_zero, Lib.decodeL_drop]
theorem dec_any {s : ByteArray} {i : Nat} {w : World} (h : i < s.size) (hT : Tabs w) : Calls Tryz.prog 188 #[.string (s.extract i s.size)] w (Ret w [] fun v _ => v = .tuple #[.int .i32 ((Lib.decodeL (s.data.toList.drop i)).1 : Int), .int .i64 ((Lib.decodeL (s.data.toList.drop i)).2 : Int)]) := by
  refine (Any.utf8_DecodeRuneInString Tryz.laysDec (s.extract i s.size) w hT).mono fun e w' h' => ?_
  obtain ⟨rfl, hb⟩ := h'
  exact Ret.mk (Fr.ofBelow hb) (by rw [decodeGo_drop h])

end Go.Proofs.YtmbleojlnaofjaaGreatDoor

/- The walk of the encoder's encodeString. -/
namespace Go.Proofs.YtmbleojlnaofjaaGreatDoor
open Go Go.RowKit D Go.Deep
set_option linter.unusedVariables false
set_option linter.unusedSimpArgs false


theorem take_drop_succ {s : ByteArray} {st i : Nat} (h : i < s.size) (hs : st ≤ i) : (s.data.toList.take (i + 1)).drop st = (s.data.toList.take i).drop st ++ [s[i]] := by
  have hl : i < s.data.toList.length := by simpa using h
  rw [List.take_succ_eq_append_getElem hl, List.drop_append_of_le_length (by rw [List.length_take]; omega)]
  rfl
theorem ext_list {s : ByteArray} {a b : Nat} : (s.extract ((a : Int).toNat) ((b : Int).toNat)).data.toList = (s.data.toList.take b).drop a := by
  rw [Int.toNat_natCast, Int.toNat_natCast, ByteArray.data_extract, Array.toList_extract, List.extract_eq_take_drop, ← List.drop_take]
theorem ext_tail {s : ByteArray} {a : Nat} : (s.extract ((a : Int).toNat) s.size).data.toList = s.data.toList.drop a := by
  rw [Int.toNat_natCast, ByteArray.data_extract, Array.toList_extract, List.extract_eq_take_drop]
  have : s.size = s.data.toList.length := size_list s
  rw [this, List.take_of_length_le (by simp)]
theorem drop_cons {s : ByteArray} {i : Nat} (h : i < s.size) : s.data.toList.drop i = s[i] :: s.data.toList.drop (i + 1) := by
  have hl : i < s.data.toList.length := by simpa using h
  rw [List.drop_eq_getElem_cons hl]; rfl


theorem hex_at : ∀ d : Nat, d < 16 → (⟨#[48, 49, 50, 51, 52, 53, 54, 55, 56, 57, 97, 98, 99, 100, 101, 102]⟩ : ByteArray).data.toList[d]? = some (hexd d) := by
  intro d hd
  have : ∀ d : Fin 16, (⟨#[48, 49, 50, 51, 52, 53, 54, 55, 56, 57, 97, 98, 99, 100, 101, 102]⟩ : ByteArray).data.toList[d.val]? = some (hexd d.val) := by decide +kernel
  exact this ⟨d, hd⟩
theorem and15 (c : UInt8) : IntKind.u8.wrap ((c.toNat &&& 15 : Nat) : Int) = ((c.toNat % 16 : Nat) : Int) := by
  have e : c.toNat &&& 15 = c.toNat % 16 := Nat.and_two_pow_sub_one_eq_mod c.toNat 4
  rw [e]; exact wrap_u8 (by omega)

set_option maxHeartbeats 1000000 in
theorem encodeString_any {B be b : Nat} {X : List Nat} {l : List UInt8} {s : ByteArray} {w : World} (hES : ES w B be b X l) (hT : Tabs w) (hv : Lib.validD s.data.toList = true) (hlen : l.length + 6 * s.size + 100 ≤ 140737488355328) : Calls Tryz.prog 170 #[(.pointer (some ⟨be, 0, none⟩)), .string s] w (Ret w X fun r w' => r = .tuple #[] ∧ ∃ X', ES w' B be b X' (l ++ qL s.data.toList) ∧ Sub X' X w) := by
  have xFR := Sub.refl X w
  have hsl0 := size_list s
  have hesl := escT_len s.data.toList
  refine calls_of Tryz.func170 rfl rfl rfl rfl ?_
  have FR := Fr.refl X w
  refine DC.seq ?_
  refine DC.region ?_
  refine DL.y rfl rfl (Y.move) ?_
  refine DL.y rfl rfl (Y.nil rfl) ?_
  refine DL.y rfl rfl (Y.field F.fd164_0 rfl) ?_
  refine DL.y rfl rfl (Y.load F.sc161 rfl hES.cell) ?_
  refine DL.invoke rfl rfl rfl rfl (hmWB _ _) (hES.wbyte (c := 34) (by first | omega | (simp only [List.length_append, List.length_cons, List.length_nil]; omega))) ?_
  rintro _ w4 f5 ⟨X1, hE3, hs2⟩
  have xFR' := xFR.step FR.size hs2
  replace FR := FR.put f5 xFR
  replace xFR := xFR'
  replace hT : Tabs w4 := by first | exact hT.es hES f5 | exact hT.fr f5 (by intro c hc hm; simp at hm)
  replace hES := hE3
  refine DL.nil ?_
  show DC _ _ _ _ _ _
  refine DC.seq ?_
  refine DC.region ?_
  refine DL.y rfl rfl (Y.assign) ?_
  refine DL.nil ?_
  show DC _ _ _ _ _ _
  refine DC.seq ?_
  refine DC.seq ?_
  refine DC.region ?_
  refine DL.y rfl rfl (Y.assign) ?_
  refine DL.nil ?_
  show DC _ _ _ _ _ _
  refine DC.block ?_
  refine DC.loopE (σ := Nat × Nat × List Nat) [(4, 8), (14, 169)] [(0, (.pointer (some ⟨be, 0, none⟩))), (1, .string s)] (fun (st, i, _) => [(4, .int .i64 (st : Int)), (5, .int .i64 (i : Int))]) (fun sg wl => Fr X1 w4 wl ∧ (fun (st, i, Xc) wl => st ≤ i ∧ i ≤ s.size ∧ ES wl B be b Xc (l ++ (34 :: escT (s.data.toList.take st))) ∧ Sub Xc X1 w4 ∧ escT (s.data.toList.take i) = escT (s.data.toList.take st) ++ (s.data.toList.take i).drop st ∧ Lib.validD (s.data.toList.drop i) = true ∧ Tabs wl) sg wl) (fun (_, i, _) => s.size - i) ((0, 0, X1)) (by kernel_rfl) ?_ ?_ ?_ ?_
  · exact ⟨rfl, rfl⟩
  · exact ⟨rfl, rfl⟩
  · exact ⟨Fr.refl _ _, Nat.le_refl _, Nat.zero_le _, hES, Sub.refl _ _, by simp [escT], by simpa using hv, hT⟩
  · rintro e0 ⟨st, i, Xc⟩ j w6 ⟨f7, hst, hi0, hEL, hsl, hE, hvd, hTL⟩
    have xFR' := xFR.step FR.size hsl
    replace FR := FR.put f7 xFR
    replace xFR := xFR'
    have G8 := f7
    have xG8 := hsl
    replace hES := hEL
    have hT := hTL
    have het := escT_len (s.data.toList.take st)
    have het2 : (escT (s.data.toList.take st)).length ≤ 6 * st := by { have h1 : (s.data.toList.take st).length ≤ st := by { rw [List.length_take]; omega }; omega }
    have het3 := escT_len (s.data.toList.take i)
    have het4 : (escT (s.data.toList.take i)).length ≤ 6 * i := by { have h1 : (s.data.toList.take i).length ≤ i := by { rw [List.length_take]; omega }; omega }
    refine DC.seq ?_
    refine DC.seq ?_
    refine DC.region ?_
    refine DL.y rfl rfl (Y.move) ?_
    refine DL.y rfl rfl (Y.move) ?_
    refine DL.y rfl rfl (Y.lenStr Tryz.underlying9 rfl) ?_
    refine DL.if rfl rfl (Y.lt rfl rfl) (fun c17 => ?_) (fun c17 => ?_)
    · have hi : i < s.size := by omega
      have hu8 : s[i].toNat < 2 ^ IntKind.u8.bits := s[i].toNat_lt
      have hu := s[i].toNat_lt
      refine DL.nil ?_
      show DC _ _ _ _ _ _
      refine DC.condT rfl ?_
      refine DC.skip ?_
      show DC _ _ _ _ _ _
      refine DC.block ?_
      refine DC.seq ?_
      refine DC.seq ?_
      refine DC.region ?_
      refine DL.y rfl rfl (Y.move) ?_
      refine DL.y rfl rfl (Y.move) ?_
      refine DL.y rfl rfl (Y.strIx (i := i) Tryz.underlying9 rfl rfl rfl hi) ?_
      refine DL.y rfl rfl (Y.assign) ?_
      refine DL.nil ?_
      show DC _ _ _ _ _ _
      refine DC.seq ?_
      refine DC.region ?_
      refine DL.y rfl rfl (Y.move) ?_
      refine DL.if rfl rfl (Y.lt rfl rfl) (fun c22 => ?_) (fun c22 => ?_)
      · have hvd1 : Lib.validD (s.data.toList.drop (i + 1)) = true := by rw [drop_cons hi] at hvd; exact valid_ascii (by omega) hvd
        refine DL.nil ?_
        show DC _ _ _ _ _ _
        refine DC.condT rfl ?_
        have J9 := Fr.refl Xc w6
        have xJ9 := Sub.refl Xc w6
        refine DC.seqJ (σ := List Nat) (fun _ => [(0, (.pointer (some ⟨be, 0, none⟩))), (1, .string s), (4, .int .i64 (st : Int)), (5, .int .i64 (i : Int)), (6, .int .u8 (s[i].toNat : Int))]) (fun sg wl => Fr Xc w6 wl ∧ (fun Xq wl => ES wl B be b Xq (l ++ (34 :: escT (s.data.toList.take st))) ∧ Sub Xq Xc w6 ∧ Tabs wl ∧ (s[i].toNat < 32 ∨ s[i] = 34 ∨ s[i] = 92 ∨ s[i] = 127)) sg wl) ?_ ?_
        · refine DC.seq ?_
          refine DC.region ?_
          refine DL.y rfl rfl (Y.move) ?_
          refine DL.if rfl rfl (Y.le rfl rfl) (fun c24 => ?_) (fun c24 => ?_)
          · refine DL.y rfl rfl (Y.move) ?_
            refine DL.y rfl rfl (Y.move) ?_
            refine DL.if rfl rfl (Y.le rfl rfl) (fun c27 => ?_) (fun c27 => ?_)
            · refine DL.y rfl rfl (Y.pickT rfl) ?_
              refine DL.y rfl rfl (Y.move) ?_
              refine DL.y rfl rfl (Y.move) ?_
              refine DL.if rfl rfl (Y.ne rfl rfl) (fun c31 => ?_) (fun c31 => ?_)
              · refine DL.y rfl rfl (Y.pickT rfl) ?_
                refine DL.y rfl rfl (Y.move) ?_
                refine DL.y rfl rfl (Y.move) ?_
                refine DL.if rfl rfl (Y.ne rfl rfl) (fun c35 => ?_) (fun c35 => ?_)
                · have hpl : escJ s[i] = [s[i]] := by
                    have e34 : ¬ s[i] = 34 := u8_ne (n := 34) (by decide) c31
                    have e92 : ¬ s[i] = 92 := u8_ne (n := 92) (by decide) c35
                    have e10 : ¬ s[i] = 10 := u8_ne (n := 10) (by decide) (by omega)
                    have e9 : ¬ s[i] = 9 := u8_ne (n := 9) (by decide) (by omega)
                    have e13 : ¬ s[i] = 13 := u8_ne (n := 13) (by decide) (by omega)
                    have e8 : ¬ s[i] = 8 := u8_ne (n := 8) (by decide) (by omega)
                    have e12 : ¬ s[i] = 12 := u8_ne (n := 12) (by decide) (by omega)
                    have e127 : ¬ s[i] = 127 := u8_ne (n := 127) (by decide) (by omega)
                    unfold escJ
                    rw [if_neg e34, if_neg e92, if_neg e10, if_neg e9, if_neg e13, if_neg e8, if_neg e12, if_neg (by rintro (h | h); omega; exact e127 h)]
                  refine DL.y rfl rfl (Y.pickT rfl) ?_
                  refine DL.nil ?_
                  show DC _ _ _ _ _ _
                  refine DC.condT rfl ?_
                  refine DC.seq ?_
                  refine DC.region ?_
                  refine DL.y rfl rfl (Y.move) ?_
                  refine DL.y rfl rfl (Y.addI (c := ((i + 1 : Nat) : Int)) rfl rfl (by omega) (by omega) (by omega)) ?_
                  refine DL.y rfl rfl (Y.assign) ?_
                  refine DL.nil ?_
                  show DC _ _ _ _ _ _
                  refine DC.exit ?_
                  have hes := escT_succ hi
                  rw [hpl] at hes
                  exact ⟨(st, i + 1, Xc), ⟨G8, by omega, hi, hES, xG8, by rw [take_drop_succ hi hst, hes, hE, List.append_assoc], hvd1, hT⟩, by show s.size - (i + 1) < s.size - i; omega, rfl, rfl⟩
                · refine DL.y rfl rfl (Y.pickT rfl) ?_
                  refine DL.nil ?_
                  show DC _ _ _ _ _ _
                  refine DC.condF rfl ?_
                  refine DC.skip ?_
                  refine ⟨Xc, ⟨rfl, rfl, rfl, rfl, rfl⟩, J9, hES, xJ9, hT, ?_⟩
                  right; right; left; exact u8_eq (n := 92) (by decide) (Classical.not_not.1 c35)
              · refine DL.y rfl rfl (Y.pickT rfl) ?_
                refine DL.y rfl rfl (Y.move) ?_
                refine DL.skip rfl rfl ?_
                refine DL.skip rfl rfl ?_
                refine DL.y rfl rfl (Y.pickF rfl) ?_
                refine DL.nil ?_
                show DC _ _ _ _ _ _
                refine DC.condF rfl ?_
                refine DC.skip ?_
                refine ⟨Xc, ⟨rfl, rfl, rfl, rfl, rfl⟩, J9, hES, xJ9, hT, ?_⟩
                right; left; exact u8_eq (n := 34) (by decide) (Classical.not_not.1 c31)
            · refine DL.y rfl rfl (Y.pickT rfl) ?_
              refine DL.y rfl rfl (Y.move) ?_
              refine DL.skip rfl rfl ?_
              refine DL.skip rfl rfl ?_
              refine DL.y rfl rfl (Y.pickF rfl) ?_
              refine DL.y rfl rfl (Y.move) ?_
              refine DL.skip rfl rfl ?_
              refine DL.skip rfl rfl ?_
              refine DL.y rfl rfl (Y.pickF rfl) ?_
              refine DL.nil ?_
              show DC _ _ _ _ _ _
              refine DC.condF rfl ?_
              refine DC.skip ?_
              refine ⟨Xc, ⟨rfl, rfl, rfl, rfl, rfl⟩, J9, hES, xJ9, hT, ?_⟩
              right; right; right; exact u8_eq (n := 127) (by decide) (by omega)
          · refine DL.y rfl rfl (Y.move) ?_
            refine DL.skip rfl rfl ?_
            refine DL.skip rfl rfl ?_
            refine DL.y rfl rfl (Y.pickF rfl) ?_
            refine DL.y rfl rfl (Y.move) ?_
            refine DL.skip rfl rfl ?_
            refine DL.skip rfl rfl ?_
            refine DL.y rfl rfl (Y.pickF rfl) ?_
            refine DL.y rfl rfl (Y.move) ?_
            refine DL.skip rfl rfl ?_
            refine DL.skip rfl rfl ?_
            refine DL.y rfl rfl (Y.pickF rfl) ?_
            refine DL.nil ?_
            show DC _ _ _ _ _ _
            refine DC.condF rfl ?_
            refine DC.skip ?_
            refine ⟨Xc, ⟨rfl, rfl, rfl, rfl, rfl⟩, J9, hES, xJ9, hT, ?_⟩
            left; omega
        · rintro X6 e0 w10 ⟨f11, hE6, hs6, hT6, hcs⟩
          have xFR' := xFR.step FR.size hs6
          replace FR := FR.put f11 xFR
          replace xFR := xFR'
          have xG8' := xG8.step G8.size hs6
          replace G8 := G8.put f11 xG8
          replace xG8 := xG8'
          replace hES := hE6
          have hT := hT6
          have J13 := Fr.refl X6 w10
          have xJ13 := Sub.refl X6 w10
          refine DC.seqJ (σ := List Nat) (fun _ => [(0, (.pointer (some ⟨be, 0, none⟩))), (1, .string s), (4, .int .i64 (st : Int)), (5, .int .i64 (i : Int)), (6, .int .u8 (s[i].toNat : Int))]) (fun sg wl => Fr X6 w10 wl ∧ (fun Xq wl => ES wl B be b Xq (l ++ (34 :: escT (s.data.toList.take i))) ∧ Sub Xq X6 w10 ∧ Tabs wl) sg wl) ?_ ?_
          · refine DC.seq ?_
            refine DC.region ?_
            refine DL.y rfl rfl (Y.move) ?_
            refine DL.y rfl rfl (Y.move) ?_
            refine DL.if rfl rfl (Y.lt rfl rfl) (fun c41 => ?_) (fun c41 => ?_)
            · refine DL.nil ?_
              show DC _ _ _ _ _ _
              refine DC.condT rfl ?_
              refine DC.heldS (fun w => w.cell? ⟨be, 0, none⟩ = some (.iface 157 (.pointer (some ⟨b, 0, none⟩)))) F.mixed ?_
              intro w17 f18 hsw17
              replace FR := FR.tr0 f18
              replace G8 := G8.tr0 f18
              replace J13 := J13.tr0 f18
              replace hES := hES.fr0 f18
              replace hT : Tabs w17 := by first | exact hT.es hES f18 | exact hT.fr f18 (by intro c hc hm; simp at hm)
              refine ⟨hES.cell, ?_⟩
              refine DK.take 0 rfl (by kernel_rfl) (by kernel_rfl) (by kernel_rfl) rfl rfl (fun wq sq => Y.move) ?_
              refine DK.take 1 rfl (by kernel_rfl) (by kernel_rfl) (by kernel_rfl) rfl rfl (fun wq sq => Y.nil rfl) ?_
              refine DK.take 2 rfl (by kernel_rfl) (by kernel_rfl) (by kernel_rfl) rfl rfl (fun wq sq => Y.field F.fd164_0 rfl) ?_
              refine DK.take 3 rfl (by kernel_rfl) (by kernel_rfl) (by kernel_rfl) rfl rfl (fun wq sq => Y.load F.sc161 rfl sq) ?_
              refine DK.take 4 rfl (by kernel_rfl) (by kernel_rfl) (by kernel_rfl) rfl rfl (fun wq sq => Y.move) ?_
              refine DK.take 5 rfl (by kernel_rfl) (by kernel_rfl) (by kernel_rfl) rfl rfl (fun wq sq => Y.move) ?_
              refine DK.take 6 rfl (by kernel_rfl) (by kernel_rfl) (by kernel_rfl) rfl rfl (fun wq sq => Y.move) ?_
              refine DK.take 7 rfl (by kernel_rfl) (by kernel_rfl) (by kernel_rfl) rfl rfl (fun wq sq => Y.strLH Tryz.underlying9 rfl rfl rfl (by omega) (by omega) (by omega)) ?_
              refine DK.take 8 rfl (by kernel_rfl) (by kernel_rfl) (by kernel_rfl) rfl rfl (fun wq sq => Y.nilI rfl) ?_
              refine DK.take 9 rfl (by kernel_rfl) (by kernel_rfl) (by kernel_rfl) rfl rfl (fun wq sq => Y.move) ?_
              refine DK.pick [10] (by kernel_rfl) (by simp) (fun ip hip => ?_)
              obtain rfl := List.mem_singleton.1 hip
              refine ⟨_, rfl, ?_⟩
              refine DL.invoke rfl rfl rfl rfl (hmWS _ _) (hES.wstr (by rw [ext_list, List.length_drop, List.length_take]; simp only [List.length_append, List.length_cons]; omega)) ?_
              rintro _ w22 f23 ⟨X19, hE21, hs20⟩
              have xFR' := xFR.step FR.size hs20
              replace FR := FR.put f23 xFR
              replace xFR := xFR'
              have xG8' := xG8.step G8.size hs20
              replace G8 := G8.put f23 xG8
              replace xG8 := xG8'
              have xJ13' := xJ13.step J13.size hs20
              replace J13 := J13.put f23 xJ13
              replace xJ13 := xJ13'
              replace hT : Tabs w22 := by first | exact hT.es hES f23 | exact hT.fr f23 (by intro c hc hm; simp at hm)
              replace hES := hE21
              replace hES := hES.cast (l' := l ++ (34 :: escT (s.data.toList.take i))) (by rw [hE, ext_list]; simp)
              refine DL.nil ⟨hES.cell, ?_⟩
              refine DK.done (by kernel_rfl) ?_
              exact ⟨X19, ⟨rfl, rfl, rfl, rfl, rfl⟩, J13, hES, xJ13, hT⟩
            · have hsi : st = i := by omega
              replace hES := hES.cast (l' := l ++ (34 :: escT (s.data.toList.take i))) (by rw [hsi])
              refine DL.nil ?_
              show DC _ _ _ _ _ _
              refine DC.condF rfl ?_
              refine DC.skip ?_
              exact ⟨X6, ⟨rfl, rfl, rfl, rfl, rfl⟩, J13, hES, xJ13, hT⟩
          · rintro X8 e0 w14 ⟨f15, hE8, hs8, hT8⟩
            have xFR' := xFR.step FR.size hs8
            replace FR := FR.put f15 xFR
            replace xFR := xFR'
            have xG8' := xG8.step G8.size hs8
            replace G8 := G8.put f15 xG8
            replace xG8 := xG8'
            replace hES := hE8
            have hT := hT8
            have J24 := Fr.refl X8 w14
            have xJ24 := Sub.refl X8 w14
            refine DC.seqJ (σ := List Nat) (fun _ => [(0, (.pointer (some ⟨be, 0, none⟩))), (1, .string s), (4, .int .i64 (st : Int)), (5, .int .i64 (i : Int)), (6, .int .u8 (s[i].toNat : Int))]) (fun sg wl => Fr X8 w14 wl ∧ (fun Xq wl => ES wl B be b Xq (l ++ (34 :: escT (s.data.toList.take (i + 1)))) ∧ Sub Xq X8 w14 ∧ Tabs wl) sg wl) ?_ ?_
            · refine DC.seq ?_
              refine DC.region ?_
              refine DL.y rfl rfl (Y.move) ?_
              refine DL.nil ?_
              show DC _ _ _ _ _ _
              refine DC.block ?_
              refine DC.seq ?_
              refine DC.region ?_
              refine DL.if rfl rfl (Y.eq rfl rfl) (fun c80 => ?_) (fun c80 => ?_)
              · refine DL.y rfl rfl (Y.assign) ?_
                refine DL.nil ?_
                show DC _ _ _ _ _ _
                refine DC.condT rfl ?_
                refine DC.region ?_
                refine DL.y rfl rfl (Y.move) ?_
                refine DL.y rfl rfl (Y.nil rfl) ?_
                refine DL.y rfl rfl (Y.field F.fd164_0 rfl) ?_
                refine DL.y rfl rfl (Y.load F.sc161 rfl hES.cell) ?_
                refine DL.invoke rfl rfl rfl rfl (hmWS _ _) (hES.wstr (Nat.le_trans (Nat.add_le_add_left (Nat.le_of_ble_eq_true rfl : _ ≤ 8) _) (by first | omega | (simp only [List.length_append, List.length_cons, List.length_nil]; omega)))) ?_
                rintro _ w31 f32 ⟨X28, hE30, hs29⟩
                have xFR' := xFR.step FR.size hs29
                replace FR := FR.put f32 xFR
                replace xFR := xFR'
                have xG8' := xG8.step G8.size hs29
                replace G8 := G8.put f32 xG8
                replace xG8 := xG8'
                have xJ24' := xJ24.step J24.size hs29
                replace J24 := J24.put f32 xJ24
                replace xJ24 := xJ24'
                replace hT : Tabs w31 := by first | exact hT.es hES f32 | exact hT.fr f32 (by intro c hc hm; simp at hm)
                replace hES := hE30
                refine DL.nil ?_
                have hc : s[i] = 34 := u8_eq (n := 34) (by decide) c80
                refine ⟨X28, ⟨rfl, rfl, rfl, rfl, rfl⟩, J24, hES.cast ?_, xJ24, hT⟩
                rw [escT_succ hi, hc]; simp only [List.append_assoc, List.cons_append, List.nil_append]; rfl
              · refine DL.y rfl rfl (Y.assign) ?_
                refine DL.nil ?_
                show DC _ _ _ _ _ _
                refine DC.condF rfl ?_
                refine DC.seq ?_
                refine DC.region ?_
                refine DL.if rfl rfl (Y.eq rfl rfl) (fun c87 => ?_) (fun c87 => ?_)
                · refine DL.y rfl rfl (Y.assign) ?_
                  refine DL.nil ?_
                  show DC _ _ _ _ _ _
                  refine DC.condT rfl ?_
                  refine DC.region ?_
                  refine DL.y rfl rfl (Y.move) ?_
                  refine DL.y rfl rfl (Y.nil rfl) ?_
                  refine DL.y rfl rfl (Y.field F.fd164_0 rfl) ?_
                  refine DL.y rfl rfl (Y.load F.sc161 rfl hES.cell) ?_
                  refine DL.invoke rfl rfl rfl rfl (hmWS _ _) (hES.wstr (Nat.le_trans (Nat.add_le_add_left (Nat.le_of_ble_eq_true rfl : _ ≤ 8) _) (by first | omega | (simp only [List.length_append, List.length_cons, List.length_nil]; omega)))) ?_
                  rintro _ w36 f37 ⟨X33, hE35, hs34⟩
                  have xFR' := xFR.step FR.size hs34
                  replace FR := FR.put f37 xFR
                  replace xFR := xFR'
                  have xG8' := xG8.step G8.size hs34
                  replace G8 := G8.put f37 xG8
                  replace xG8 := xG8'
                  have xJ24' := xJ24.step J24.size hs34
                  replace J24 := J24.put f37 xJ24
                  replace xJ24 := xJ24'
                  replace hT : Tabs w36 := by first | exact hT.es hES f37 | exact hT.fr f37 (by intro c hc hm; simp at hm)
                  replace hES := hE35
                  refine DL.nil ?_
                  have hc : s[i] = 92 := u8_eq (n := 92) (by decide) c87
                  refine ⟨X33, ⟨rfl, rfl, rfl, rfl, rfl⟩, J24, hES.cast ?_, xJ24, hT⟩
                  rw [escT_succ hi, hc]; simp only [List.append_assoc, List.cons_append, List.nil_append]; rfl
                · refine DL.y rfl rfl (Y.assign) ?_
                  refine DL.nil ?_
                  show DC _ _ _ _ _ _
                  refine DC.condF rfl ?_
                  refine DC.seq ?_
                  refine DC.region ?_
                  refine DL.if rfl rfl (Y.eq rfl rfl) (fun c94 => ?_) (fun c94 => ?_)
                  · refine DL.y rfl rfl (Y.assign) ?_
                    refine DL.nil ?_
                    show DC _ _ _ _ _ _
                    refine DC.condT rfl ?_
                    refine DC.region ?_
                    refine DL.y rfl rfl (Y.move) ?_
                    refine DL.y rfl rfl (Y.nil rfl) ?_
                    refine DL.y rfl rfl (Y.field F.fd164_0 rfl) ?_
                    refine DL.y rfl rfl (Y.load F.sc161 rfl hES.cell) ?_
                    refine DL.invoke rfl rfl rfl rfl (hmWS _ _) (hES.wstr (Nat.le_trans (Nat.add_le_add_left (Nat.le_of_ble_eq_true rfl : _ ≤ 8) _) (by first | omega | (simp only [List.length_append, List.length_cons, List.length_nil]; omega)))) ?_
                    rintro _ w41 f42 ⟨X38, hE40, hs39⟩
                    have xFR' := xFR.step FR.size hs39
                    replace FR := FR.put f42 xFR
                    replace xFR := xFR'
                    have xG8' := xG8.step G8.size hs39
                    replace G8 := G8.put f42 xG8
                    replace xG8 := xG8'
                    have xJ24' := xJ24.step J24.size hs39
                    replace J24 := J24.put f42 xJ24
                    replace xJ24 := xJ24'
                    replace hT : Tabs w41 := by first | exact hT.es hES f42 | exact hT.fr f42 (by intro c hc hm; simp at hm)
                    replace hES := hE40
                    refine DL.nil ?_
                    have hc : s[i] = 8 := u8_eq (n := 8) (by decide) c94
                    refine ⟨X38, ⟨rfl, rfl, rfl, rfl, rfl⟩, J24, hES.cast ?_, xJ24, hT⟩
                    rw [escT_succ hi, hc]; simp only [List.append_assoc, List.cons_append, List.nil_append]; rfl
                  · refine DL.y rfl rfl (Y.assign) ?_
                    refine DL.nil ?_
                    show DC _ _ _ _ _ _
                    refine DC.condF rfl ?_
                    refine DC.seq ?_
                    refine DC.region ?_
                    refine DL.if rfl rfl (Y.eq rfl rfl) (fun c101 => ?_) (fun c101 => ?_)
                    · refine DL.y rfl rfl (Y.assign) ?_
                      refine DL.nil ?_
                      show DC _ _ _ _ _ _
                      refine DC.condT rfl ?_
                      refine DC.region ?_
                      refine DL.y rfl rfl (Y.move) ?_
                      refine DL.y rfl rfl (Y.nil rfl) ?_
                      refine DL.y rfl rfl (Y.field F.fd164_0 rfl) ?_
                      refine DL.y rfl rfl (Y.load F.sc161 rfl hES.cell) ?_
                      refine DL.invoke rfl rfl rfl rfl (hmWS _ _) (hES.wstr (Nat.le_trans (Nat.add_le_add_left (Nat.le_of_ble_eq_true rfl : _ ≤ 8) _) (by first | omega | (simp only [List.length_append, List.length_cons, List.length_nil]; omega)))) ?_
                      rintro _ w46 f47 ⟨X43, hE45, hs44⟩
                      have xFR' := xFR.step FR.size hs44
                      replace FR := FR.put f47 xFR
                      replace xFR := xFR'
                      have xG8' := xG8.step G8.size hs44
                      replace G8 := G8.put f47 xG8
                      replace xG8 := xG8'
                      have xJ24' := xJ24.step J24.size hs44
                      replace J24 := J24.put f47 xJ24
                      replace xJ24 := xJ24'
                      replace hT : Tabs w46 := by first | exact hT.es hES f47 | exact hT.fr f47 (by intro c hc hm; simp at hm)
                      replace hES := hE45
                      refine DL.nil ?_
                      have hc : s[i] = 12 := u8_eq (n := 12) (by decide) c101
                      refine ⟨X43, ⟨rfl, rfl, rfl, rfl, rfl⟩, J24, hES.cast ?_, xJ24, hT⟩
                      rw [escT_succ hi, hc]; simp only [List.append_assoc, List.cons_append, List.nil_append]; rfl
                    · refine DL.y rfl rfl (Y.assign) ?_
                      refine DL.nil ?_
                      show DC _ _ _ _ _ _
                      refine DC.condF rfl ?_
                      refine DC.seq ?_
                      refine DC.region ?_
                      refine DL.if rfl rfl (Y.eq rfl rfl) (fun c108 => ?_) (fun c108 => ?_)
                      · refine DL.y rfl rfl (Y.assign) ?_
                        refine DL.nil ?_
                        show DC _ _ _ _ _ _
                        refine DC.condT rfl ?_
                        refine DC.region ?_
                        refine DL.y rfl rfl (Y.move) ?_
                        refine DL.y rfl rfl (Y.nil rfl) ?_
                        refine DL.y rfl rfl (Y.field F.fd164_0 rfl) ?_
                        refine DL.y rfl rfl (Y.load F.sc161 rfl hES.cell) ?_
                        refine DL.invoke rfl rfl rfl rfl (hmWS _ _) (hES.wstr (Nat.le_trans (Nat.add_le_add_left (Nat.le_of_ble_eq_true rfl : _ ≤ 8) _) (by first | omega | (simp only [List.length_append, List.length_cons, List.length_nil]; omega)))) ?_
                        rintro _ w51 f52 ⟨X48, hE50, hs49⟩
                        have xFR' := xFR.step FR.size hs49
                        replace FR := FR.put f52 xFR
                        replace xFR := xFR'
                        have xG8' := xG8.step G8.size hs49
                        replace G8 := G8.put f52 xG8
                        replace xG8 := xG8'
                        have xJ24' := xJ24.step J24.size hs49
                        replace J24 := J24.put f52 xJ24
                        replace xJ24 := xJ24'
                        replace hT : Tabs w51 := by first | exact hT.es hES f52 | exact hT.fr f52 (by intro c hc hm; simp at hm)
                        replace hES := hE50
                        refine DL.nil ?_
                        have hc : s[i] = 10 := u8_eq (n := 10) (by decide) c108
                        refine ⟨X48, ⟨rfl, rfl, rfl, rfl, rfl⟩, J24, hES.cast ?_, xJ24, hT⟩
                        rw [escT_succ hi, hc]; simp only [List.append_assoc, List.cons_append, List.nil_append]; rfl
                      · refine DL.y rfl rfl (Y.assign) ?_
                        refine DL.nil ?_
                        show DC _ _ _ _ _ _
                        refine DC.condF rfl ?_
                        refine DC.seq ?_
                        refine DC.region ?_
                        refine DL.if rfl rfl (Y.eq rfl rfl) (fun c115 => ?_) (fun c115 => ?_)
                        · refine DL.y rfl rfl (Y.assign) ?_
                          refine DL.nil ?_
                          show DC _ _ _ _ _ _
                          refine DC.condT rfl ?_
                          refine DC.region ?_
                          refine DL.y rfl rfl (Y.move) ?_
                          refine DL.y rfl rfl (Y.nil rfl) ?_
                          refine DL.y rfl rfl (Y.field F.fd164_0 rfl) ?_
                          refine DL.y rfl rfl (Y.load F.sc161 rfl hES.cell) ?_
                          refine DL.invoke rfl rfl rfl rfl (hmWS _ _) (hES.wstr (Nat.le_trans (Nat.add_le_add_left (Nat.le_of_ble_eq_true rfl : _ ≤ 8) _) (by first | omega | (simp only [List.length_append, List.length_cons, List.length_nil]; omega)))) ?_
                          rintro _ w56 f57 ⟨X53, hE55, hs54⟩
                          have xFR' := xFR.step FR.size hs54
                          replace FR := FR.put f57 xFR
                          replace xFR := xFR'
                          have xG8' := xG8.step G8.size hs54
                          replace G8 := G8.put f57 xG8
                          replace xG8 := xG8'
                          have xJ24' := xJ24.step J24.size hs54
                          replace J24 := J24.put f57 xJ24
                          replace xJ24 := xJ24'
                          replace hT : Tabs w56 := by first | exact hT.es hES f57 | exact hT.fr f57 (by intro c hc hm; simp at hm)
                          replace hES := hE55
                          refine DL.nil ?_
                          have hc : s[i] = 13 := u8_eq (n := 13) (by decide) c115
                          refine ⟨X53, ⟨rfl, rfl, rfl, rfl, rfl⟩, J24, hES.cast ?_, xJ24, hT⟩
                          rw [escT_succ hi, hc]; simp only [List.append_assoc, List.cons_append, List.nil_append]; rfl
                        · refine DL.y rfl rfl (Y.assign) ?_
                          refine DL.nil ?_
                          show DC _ _ _ _ _ _
                          refine DC.condF rfl ?_
                          refine DC.seq ?_
                          refine DC.region ?_
                          refine DL.if rfl rfl (Y.eq rfl rfl) (fun c122 => ?_) (fun c122 => ?_)
                          · refine DL.y rfl rfl (Y.assign) ?_
                            refine DL.nil ?_
                            show DC _ _ _ _ _ _
                            refine DC.condT rfl ?_
                            refine DC.region ?_
                            refine DL.y rfl rfl (Y.move) ?_
                            refine DL.y rfl rfl (Y.nil rfl) ?_
                            refine DL.y rfl rfl (Y.field F.fd164_0 rfl) ?_
                            refine DL.y rfl rfl (Y.load F.sc161 rfl hES.cell) ?_
                            refine DL.invoke rfl rfl rfl rfl (hmWS _ _) (hES.wstr (Nat.le_trans (Nat.add_le_add_left (Nat.le_of_ble_eq_true rfl : _ ≤ 8) _) (by first | omega | (simp only [List.length_append, List.length_cons, List.length_nil]; omega)))) ?_
                            rintro _ w61 f62 ⟨X58, hE60, hs59⟩
                            have xFR' := xFR.step FR.size hs59
                            replace FR := FR.put f62 xFR
                            replace xFR := xFR'
                            have xG8' := xG8.step G8.size hs59
                            replace G8 := G8.put f62 xG8
                            replace xG8 := xG8'
                            have xJ24' := xJ24.step J24.size hs59
                            replace J24 := J24.put f62 xJ24
                            replace xJ24 := xJ24'
                            replace hT : Tabs w61 := by first | exact hT.es hES f62 | exact hT.fr f62 (by intro c hc hm; simp at hm)
                            replace hES := hE60
                            refine DL.nil ?_
                            have hc : s[i] = 9 := u8_eq (n := 9) (by decide) c122
                            refine ⟨X58, ⟨rfl, rfl, rfl, rfl, rfl⟩, J24, hES.cast ?_, xJ24, hT⟩
                            rw [escT_succ hi, hc]; simp only [List.append_assoc, List.cons_append, List.nil_append]; rfl
                          · refine DL.y rfl rfl (Y.assign) ?_
                            refine DL.nil ?_
                            show DC _ _ _ _ _ _
                            refine DC.condF rfl ?_
                            refine DC.seq ?_
                            refine DC.region ?_
                            refine DL.y rfl rfl (Y.move) ?_
                            refine DL.y rfl rfl (Y.nil rfl) ?_
                            refine DL.y rfl rfl (Y.field F.fd164_0 rfl) ?_
                            refine DL.y rfl rfl (Y.load F.sc161 rfl hES.cell) ?_
                            refine DL.invoke rfl rfl rfl rfl (hmWS _ _) (hES.wstr (Nat.le_trans (Nat.add_le_add_left (Nat.le_of_ble_eq_true rfl : _ ≤ 8) _) (by first | omega | (simp only [List.length_append, List.length_cons, List.length_nil]; omega)))) ?_
                            rintro _ w66 f67 ⟨X63, hE65, hs64⟩
                            have xFR' := xFR.step FR.size hs64
                            replace FR := FR.put f67 xFR
                            replace xFR := xFR'
                            have xG8' := xG8.step G8.size hs64
                            replace G8 := G8.put f67 xG8
                            replace xG8 := xG8'
                            have xJ24' := xJ24.step J24.size hs64
                            replace J24 := J24.put f67 xJ24
                            replace xJ24 := xJ24'
                            replace hT : Tabs w66 := by first | exact hT.es hES f67 | exact hT.fr f67 (by intro c hc hm; simp at hm)
                            replace hES := hE65
                            refine DL.nil ?_
                            show DC _ _ _ _ _ _
                            refine DC.seq ?_
                            refine DC.heldS (fun w => w.cell? ⟨be, 0, none⟩ = some (.iface 157 (.pointer (some ⟨b, 0, none⟩)))) F.mixed ?_
                            intro w68 f69 hsw68
                            replace FR := FR.tr0 f69
                            replace G8 := G8.tr0 f69
                            replace J24 := J24.tr0 f69
                            replace hT : Tabs w68 := by first | exact hT.es hES f69 | exact hT.fr f69 (by intro c hc hm; simp at hm)
                            replace hES := hES.fr0 f69
                            refine ⟨hES.cell, ?_⟩
                            refine DK.take 0 rfl (by kernel_rfl) (by kernel_rfl) (by kernel_rfl) rfl rfl (fun wq sq => Y.move) ?_
                            refine DK.take 1 rfl (by kernel_rfl) (by kernel_rfl) (by kernel_rfl) rfl rfl (fun wq sq => Y.nil rfl) ?_
                            refine DK.take 2 rfl (by kernel_rfl) (by kernel_rfl) (by kernel_rfl) rfl rfl (fun wq sq => Y.field F.fd164_0 rfl) ?_
                            refine DK.take 3 rfl (by kernel_rfl) (by kernel_rfl) (by kernel_rfl) rfl rfl (fun wq sq => Y.load F.sc161 rfl sq) ?_
                            refine DK.take 4 rfl (by kernel_rfl) (by kernel_rfl) (by kernel_rfl) rfl rfl (fun wq sq => Y.move) ?_
                            refine DK.take 5 rfl (by kernel_rfl) (by kernel_rfl) (by kernel_rfl) rfl rfl (fun wq sq => Y.shrN (k := .u8) (k' := .u64) (m := 4) (a := s[i].toNat) (c := s[i].toNat / 16) rfl rfl (by decide) rfl) ?_
                            refine DK.take 6 rfl (by kernel_rfl) (by kernel_rfl) (by kernel_rfl) rfl rfl (fun wq sq => Y.strIxV (i := s[i].toNat / 16) Tryz.underlying9 rfl rfl rfl (hex_at (s[i].toNat / 16) (by omega))) ?_
                            refine DK.take 7 rfl (by kernel_rfl) (by kernel_rfl) (by kernel_rfl) rfl rfl (fun wq sq => Y.nilI rfl) ?_
                            refine DK.take 8 rfl (by kernel_rfl) (by kernel_rfl) (by kernel_rfl) rfl rfl (fun wq sq => Y.move) ?_
                            refine DK.pick [9] (by kernel_rfl) (by simp) (fun ip hip => ?_)
                            obtain rfl := List.mem_singleton.1 hip
                            refine ⟨_, rfl, ?_⟩
                            refine DL.invoke rfl rfl rfl rfl (hmWB _ _) (hES.wbyte (c := hexd (s[i].toNat / 16)) (by first | omega | (simp only [List.length_append, List.length_cons, List.length_nil]; omega))) ?_
                            rintro _ w73 f74 ⟨X70, hE72, hs71⟩
                            have xFR' := xFR.step FR.size hs71
                            replace FR := FR.put f74 xFR
                            replace xFR := xFR'
                            have xG8' := xG8.step G8.size hs71
                            replace G8 := G8.put f74 xG8
                            replace xG8 := xG8'
                            have xJ24' := xJ24.step J24.size hs71
                            replace J24 := J24.put f74 xJ24
                            replace xJ24 := xJ24'
                            replace hT : Tabs w73 := by first | exact hT.es hES f74 | exact hT.fr f74 (by intro c hc hm; simp at hm)
                            replace hES := hE72
                            refine DL.nil ⟨hES.cell, ?_⟩
                            refine DK.done (by kernel_rfl) ?_
                            show DC _ _ _ _ _ _
                            refine DC.heldS (fun w => w.cell? ⟨be, 0, none⟩ = some (.iface 157 (.pointer (some ⟨b, 0, none⟩)))) F.mixed ?_
                            intro w75 f76 hsw75
                            replace FR := FR.tr0 f76
                            replace G8 := G8.tr0 f76
                            replace J24 := J24.tr0 f76
                            replace hT : Tabs w75 := by first | exact hT.es hES f76 | exact hT.fr f76 (by intro c hc hm; simp at hm)
                            replace hES := hES.fr0 f76
                            refine ⟨hES.cell, ?_⟩
                            refine DK.take 0 rfl (by kernel_rfl) (by kernel_rfl) (by kernel_rfl) rfl rfl (fun wq sq => Y.move) ?_
                            refine DK.take 1 rfl (by kernel_rfl) (by kernel_rfl) (by kernel_rfl) rfl rfl (fun wq sq => Y.nil rfl) ?_
                            refine DK.take 2 rfl (by kernel_rfl) (by kernel_rfl) (by kernel_rfl) rfl rfl (fun wq sq => Y.field F.fd164_0 rfl) ?_
                            refine DK.take 3 rfl (by kernel_rfl) (by kernel_rfl) (by kernel_rfl) rfl rfl (fun wq sq => Y.load F.sc161 rfl sq) ?_
                            refine DK.take 4 rfl (by kernel_rfl) (by kernel_rfl) (by kernel_rfl) rfl rfl (fun wq sq => Y.move) ?_
                            refine DK.take 5 rfl (by kernel_rfl) (by kernel_rfl) (by kernel_rfl) rfl rfl (fun wq sq => Y.andN (k := .u8) (a := s[i].toNat) (b := 15) rfl rfl hu8 (by decide) (and15 s[i])) ?_
                            refine DK.take 6 rfl (by kernel_rfl) (by kernel_rfl) (by kernel_rfl) rfl rfl (fun wq sq => Y.strIxV (i := s[i].toNat % 16) Tryz.underlying9 rfl rfl rfl (hex_at (s[i].toNat % 16) (by omega))) ?_
                            refine DK.take 7 rfl (by kernel_rfl) (by kernel_rfl) (by kernel_rfl) rfl rfl (fun wq sq => Y.nilI rfl) ?_
                            refine DK.take 8 rfl (by kernel_rfl) (by kernel_rfl) (by kernel_rfl) rfl rfl (fun wq sq => Y.move) ?_
                            refine DK.pick [9] (by kernel_rfl) (by simp) (fun ip hip => ?_)
                            obtain rfl := List.mem_singleton.1 hip
                            refine ⟨_, rfl, ?_⟩
                            refine DL.invoke rfl rfl rfl rfl (hmWB _ _) (hES.wbyte (c := hexd (s[i].toNat % 16)) (by first | omega | (simp only [List.length_append, List.length_cons, List.length_nil]; omega))) ?_
                            rintro _ w80 f81 ⟨X77, hE79, hs78⟩
                            have xFR' := xFR.step FR.size hs78
                            replace FR := FR.put f81 xFR
                            replace xFR := xFR'
                            have xG8' := xG8.step G8.size hs78
                            replace G8 := G8.put f81 xG8
                            replace xG8 := xG8'
                            have xJ24' := xJ24.step J24.size hs78
                            replace J24 := J24.put f81 xJ24
                            replace xJ24 := xJ24'
                            replace hT : Tabs w80 := by first | exact hT.es hES f81 | exact hT.fr f81 (by intro c hc hm; simp at hm)
                            replace hES := hE79
                            refine DL.nil ⟨hES.cell, ?_⟩
                            refine DK.done (by kernel_rfl) ?_
                            have e80 : ¬ s[i] = 34 := u8_ne (n := 34) (by decide) c80
                            have e87 : ¬ s[i] = 92 := u8_ne (n := 92) (by decide) c87
                            have e94 : ¬ s[i] = 8 := u8_ne (n := 8) (by decide) c94
                            have e101 : ¬ s[i] = 12 := u8_ne (n := 12) (by decide) c101
                            have e108 : ¬ s[i] = 10 := u8_ne (n := 10) (by decide) c108
                            have e115 : ¬ s[i] = 13 := u8_ne (n := 13) (by decide) c115
                            have e122 : ¬ s[i] = 9 := u8_ne (n := 9) (by decide) c122
                            have hesc : escJ s[i] = [92, 117, 48, 48, hexd (s[i].toNat / 16), hexd (s[i].toNat % 16)] := by
                              unfold escJ
                              rw [if_neg e80, if_neg e87, if_neg e108, if_neg e122, if_neg e115, if_neg e94, if_neg e101, if_pos]
                              rcases hcs with h | h | h | h
                              · exact Or.inl h
                              · exact absurd h e80
                              · exact absurd h e87
                              · exact Or.inr h
                            refine ⟨X77, ⟨rfl, rfl, rfl, rfl, rfl⟩, J24, hES.cast ?_, xJ24, hT⟩
                            rw [escT_succ hi, hesc]; simp only [List.append_assoc, List.cons_append, List.nil_append]
            · rintro X10 e0 w25 ⟨f26, hE10, hs10, hT10⟩
              have xFR' := xFR.step FR.size hs10
              replace FR := FR.put f26 xFR
              replace xFR := xFR'
              have xG8' := xG8.step G8.size hs10
              replace G8 := G8.put f26 xG8
              replace xG8 := xG8'
              replace hES := hE10
              have hT := hT10
              refine DC.seq ?_
              refine DC.region ?_
              refine DL.y rfl rfl (Y.move) ?_
              refine DL.y rfl rfl (Y.addI (c := ((i + 1 : Nat) : Int)) rfl rfl (by omega) (by omega) (by omega)) ?_
              refine DL.y rfl rfl (Y.assign) ?_
              refine DL.nil ?_
              show DC _ _ _ _ _ _
              refine DC.seq ?_
              refine DC.region ?_
              refine DL.y rfl rfl (Y.move) ?_
              refine DL.y rfl rfl (Y.assign) ?_
              refine DL.nil ?_
              show DC _ _ _ _ _ _
              refine DC.exit ?_
              exact ⟨(i + 1, i + 1, X10), ⟨G8, Nat.le_refl _, hi, hES, xG8, by rw [List.drop_of_length_le (by rw [List.length_take]; omega), List.append_nil], hvd1, hT⟩, by show s.size - (i + 1) < s.size - i; omega, rfl, rfl⟩
      · have hne : s.data.toList.drop i ≠ [] := by rw [drop_cons hi]; simp
        have hr := rune_hi hne hvd (by rw [drop_cons hi]; show 128 ≤ s[i].toNat; omega)
        have hw : i + (Lib.decodeL (s.data.toList.drop i)).2 ≤ s.size := by have := hr.2.2.1; rw [List.length_drop] at this; omega
        refine DL.nil ?_
        show DC _ _ _ _ _ _
        refine DC.condF rfl ?_
        refine DC.skip ?_
        show DC _ _ _ _ _ _
        refine DC.seq ?_
        refine DC.region ?_
        refine DL.y rfl rfl (Y.move) ?_
        refine DL.y rfl rfl (Y.move) ?_
        refine DL.y rfl rfl (v := .string (s.extract i s.size)) (by rw [show s.extract i s.size = s.extract ((i : Int).toNat) s.size by rw [Int.toNat_natCast]]; exact Y.strL Tryz.underlying9 rfl rfl (by omega) (by omega)) ?_
        refine DL.call rfl rfl F.nm188 rfl (dec_any hi hT) ?_
        rintro _ w82 f83 rfl
        replace FR := FR.tr0 f83
        replace G8 := G8.tr0 f83
        replace hES := hES.fr0 f83
        replace hT : Tabs w82 := by first | exact hT.es hES f83 | exact hT.fr f83 (by intro c hc hm; simp at hm)
        refine DL.y rfl rfl (Y.move) ?_
        refine DL.y rfl rfl (Y.extract rfl rfl) ?_
        refine DL.y rfl rfl (Y.extract rfl rfl) ?_
        refine DL.y rfl rfl (Y.assign) ?_
        refine DL.y rfl rfl (Y.assign) ?_
        refine DL.nil ?_
        show DC _ _ _ _ _ _
        refine DC.seq ?_
        refine DC.seq ?_
        refine DC.region ?_
        refine DL.y rfl rfl (Y.move) ?_
        refine DL.if rfl rfl (Y.eq rfl rfl) (fun c139 => ?_) (fun c139 => ?_)
        · refine DL.y rfl rfl (Y.move) ?_
          refine DL.y rfl rfl (Y.move) ?_
          refine DL.if rfl rfl (Y.eq rfl rfl) (fun c142 => ?_) (fun c142 => ?_)
          · exact absurd ⟨by omega, by omega⟩ hr.1
          · refine DL.y rfl rfl (Y.pickT rfl) ?_
            refine DL.nil ?_
            show DC _ _ _ _ _ _
            refine DC.condF rfl ?_
            refine DC.skip ?_
            show DC _ _ _ _ _ _
            refine DC.region ?_
            refine DL.y rfl rfl (Y.move) ?_
            refine DL.y rfl rfl (Y.move) ?_
            refine DL.y rfl rfl (Y.addI (c := ((i + (Lib.decodeL (s.data.toList.drop i)).2 : Nat) : Int)) rfl rfl (by omega) (by omega) (by omega)) ?_
            refine DL.y rfl rfl (Y.assign) ?_
            refine DL.nil ?_
            have htk : s.data.toList.take (i + (Lib.decodeL (s.data.toList.drop i)).2) = s.data.toList.take i ++ (s.data.toList.drop i).take (Lib.decodeL (s.data.toList.drop i)).2 := List.take_add
            exact ⟨(st, i + (Lib.decodeL (s.data.toList.drop i)).2, Xc), ⟨G8, by omega, hw, hES, xG8, by rw [htk, escT_app, hr.2.2.2.1, hE, List.drop_append_of_le_length (by rw [List.length_take]; omega), List.append_assoc], by rw [← List.drop_drop]; exact hr.2.2.2.2, hT⟩, by have := hr.2.1; show s.size - (i + (Lib.decodeL (s.data.toList.drop i)).2) < s.size - i; omega, rfl, rfl⟩
        · refine DL.y rfl rfl (Y.move) ?_
          refine DL.skip rfl rfl ?_
          refine DL.skip rfl rfl ?_
          refine DL.y rfl rfl (Y.pickF rfl) ?_
          refine DL.nil ?_
          show DC _ _ _ _ _ _
          refine DC.condF rfl ?_
          refine DC.skip ?_
          show DC _ _ _ _ _ _
          refine DC.region ?_
          refine DL.y rfl rfl (Y.move) ?_
          refine DL.y rfl rfl (Y.move) ?_
          refine DL.y rfl rfl (Y.addI (c := ((i + (Lib.decodeL (s.data.toList.drop i)).2 : Nat) : Int)) rfl rfl (by omega) (by omega) (by omega)) ?_
          refine DL.y rfl rfl (Y.assign) ?_
          refine DL.nil ?_
          have htk : s.data.toList.take (i + (Lib.decodeL (s.data.toList.drop i)).2) = s.data.toList.take i ++ (s.data.toList.drop i).take (Lib.decodeL (s.data.toList.drop i)).2 := List.take_add
          exact ⟨(st, i + (Lib.decodeL (s.data.toList.drop i)).2, Xc), ⟨G8, by omega, hw, hES, xG8, by rw [htk, escT_app, hr.2.2.2.1, hE, List.drop_append_of_le_length (by rw [List.length_take]; omega), List.append_assoc], by rw [← List.drop_drop]; exact hr.2.2.2.2, hT⟩, by have := hr.2.1; show s.size - (i + (Lib.decodeL (s.data.toList.drop i)).2) < s.size - i; omega, rfl, rfl⟩
    · have hie : i = s.size := by omega
      have hEw : escT s.data.toList = escT (s.data.toList.take st) ++ s.data.toList.drop st := by rw [hie, hsl0, List.take_length] at hE; exact hE
      refine DL.nil ?_
      show DC _ _ _ _ _ _
      refine DC.condF rfl ?_
      refine DC.exit ?_
      show DC _ _ _ _ _ _
      refine DC.seq ?_
      refine DC.seq ?_
      refine DC.region ?_
      refine DL.y rfl rfl (Y.move) ?_
      refine DL.y rfl rfl (Y.move) ?_
      refine DL.y rfl rfl (Y.lenStr Tryz.underlying9 rfl) ?_
      refine DL.if rfl rfl (Y.lt rfl rfl) (fun c173 => ?_) (fun c173 => ?_)
      · refine DL.nil ?_
        show DC _ _ _ _ _ _
        refine DC.condT rfl ?_
        refine DC.heldS (fun w => w.cell? ⟨be, 0, none⟩ = some (.iface 157 (.pointer (some ⟨b, 0, none⟩)))) F.mixed ?_
        intro w84 f85 hsw84
        replace FR := FR.tr0 f85
        replace hES := hES.fr0 f85
        replace hT : Tabs w84 := by first | exact hT.es hES f85 | exact hT.fr f85 (by intro c hc hm; simp at hm)
        refine ⟨hES.cell, ?_⟩
        refine DK.take 0 rfl (by kernel_rfl) (by kernel_rfl) (by kernel_rfl) rfl rfl (fun wq sq => Y.move) ?_
        refine DK.take 1 rfl (by kernel_rfl) (by kernel_rfl) (by kernel_rfl) rfl rfl (fun wq sq => Y.nil rfl) ?_
        refine DK.take 2 rfl (by kernel_rfl) (by kernel_rfl) (by kernel_rfl) rfl rfl (fun wq sq => Y.field F.fd164_0 rfl) ?_
        refine DK.take 3 rfl (by kernel_rfl) (by kernel_rfl) (by kernel_rfl) rfl rfl (fun wq sq => Y.load F.sc161 rfl sq) ?_
        refine DK.take 4 rfl (by kernel_rfl) (by kernel_rfl) (by kernel_rfl) rfl rfl (fun wq sq => Y.move) ?_
        refine DK.take 5 rfl (by kernel_rfl) (by kernel_rfl) (by kernel_rfl) rfl rfl (fun wq sq => Y.move) ?_
        refine DK.take 6 rfl (by kernel_rfl) (by kernel_rfl) (by kernel_rfl) rfl rfl (fun wq sq => Y.strL Tryz.underlying9 rfl rfl (by omega) (by omega)) ?_
        refine DK.take 7 rfl (by kernel_rfl) (by kernel_rfl) (by kernel_rfl) rfl rfl (fun wq sq => Y.nilI rfl) ?_
        refine DK.take 8 rfl (by kernel_rfl) (by kernel_rfl) (by kernel_rfl) rfl rfl (fun wq sq => Y.move) ?_
        refine DK.pick [9] (by kernel_rfl) (by simp) (fun ip hip => ?_)
        obtain rfl := List.mem_singleton.1 hip
        refine ⟨_, rfl, ?_⟩
        refine DL.invoke rfl rfl rfl rfl (hmWS _ _) (hES.wstr (by rw [ext_tail, List.length_drop]; simp only [List.length_append, List.length_cons]; omega)) ?_
        rintro _ w89 f90 ⟨X86, hE88, hs87⟩
        have xFR' := xFR.step FR.size hs87
        replace FR := FR.put f90 xFR
        replace xFR := xFR'
        replace hT : Tabs w89 := by first | exact hT.es hES f90 | exact hT.fr f90 (by intro c hc hm; simp at hm)
        replace hES := hE88
        replace hES := hES.cast (l' := l ++ (34 :: escT s.data.toList)) (by rw [ext_tail, hEw]; simp)
        refine DL.nil ⟨hES.cell, ?_⟩
        refine DK.done (by kernel_rfl) ?_
        show DC _ _ _ _ _ _
        refine DC.region ?_
        refine DL.y rfl rfl (Y.move) ?_
        refine DL.y rfl rfl (Y.nil rfl) ?_
        refine DL.y rfl rfl (Y.field F.fd164_0 rfl) ?_
        refine DL.y rfl rfl (Y.load F.sc161 rfl hES.cell) ?_
        refine DL.invoke rfl rfl rfl rfl (hmWB _ _) (hES.wbyte (c := 34) (by first | omega | (simp only [List.length_append, List.length_cons, List.length_nil]; omega))) ?_
        rintro _ w94 f95 ⟨X91, hE93, hs92⟩
        have xFR' := xFR.step FR.size hs92
        replace FR := FR.put f95 xFR
        replace xFR := xFR'
        replace hT : Tabs w94 := by first | exact hT.es hES f95 | exact hT.fr f95 (by intro c hc hm; simp at hm)
        replace hES := hE93
        refine DL.nil ?_
        exact FinQ.end0 (Ret.mk FR ⟨rfl, _, hES.cast (by simp [qL]), xFR⟩)
      · replace hES := hES.cast (l' := l ++ (34 :: escT s.data.toList)) (by rw [show st = s.data.toList.length by omega, List.take_length])
        refine DL.nil ?_
        show DC _ _ _ _ _ _
        refine DC.condF rfl ?_
        refine DC.skip ?_
        show DC _ _ _ _ _ _
        refine DC.region ?_
        refine DL.y rfl rfl (Y.move) ?_
        refine DL.y rfl rfl (Y.nil rfl) ?_
        refine DL.y rfl rfl (Y.field F.fd164_0 rfl) ?_
        refine DL.y rfl rfl (Y.load F.sc161 rfl hES.cell) ?_
        refine DL.invoke rfl rfl rfl rfl (hmWB _ _) (hES.wbyte (c := 34) (by first | omega | (simp only [List.length_append, List.length_cons, List.length_nil]; omega))) ?_
        rintro _ w99 f100 ⟨X96, hE98, hs97⟩
        have xFR' := xFR.step FR.size hs97
        replace FR := FR.put f100 xFR
        replace xFR := xFR'
        replace hT : Tabs w99 := by first | exact hT.es hES f100 | exact hT.fr f100 (by intro c hc hm; simp at hm)
        replace hES := hE98
        refine DL.nil ?_
        exact FinQ.end0 (Ret.mk FR ⟨rfl, _, hES.cast (by simp [qL]), xFR⟩)

end Go.Proofs.YtmbleojlnaofjaaGreatDoor

/- How long JSON texts are. -/
namespace Go.Proofs.YtmbleojlnaofjaaGreatDoor
open Go Go.RowKit D
set_option linter.unusedVariables false
set_option linter.unusedSimpArgs false
def tot : List (List UInt8) → Nat
  | [] => 0
  | e :: r => e.length + 1 + tot r
theorem tot_take : ∀ (es : List (List UInt8)) (i : Nat), tot (es.take i) ≤ tot es
  | [], i => by simp [tot]
  | e :: r, 0 => by simp [tot]
  | e :: r, i + 1 => by have := tot_take r i; simp only [List.take_succ_cons, tot]; omega
theorem flat_tot : ∀ r : List (List UInt8), (r.flatMap (fun x => 44 :: x)).length = tot r
  | [] => rfl
  | e :: r => by have := flat_tot r; simp only [List.flatMap_cons, List.length_append, List.length_cons, this, tot]
theorem joinT_tot (es : List (List UInt8)) : (joinT es).length ≤ tot es := by
  cases es with
  | nil => simp [joinT, tot]
  | cons e r => simp only [joinT, List.length_append, flat_tot, tot]; omega
theorem tot_get : ∀ {es : List (List UInt8)} {i : Nat} (h : i < es.length), es[i].length + 1 + tot (es.take i) ≤ tot es
  | e :: r, 0, h => by simp [tot]
  | e :: r, i + 1, h => by
    have := tot_get (es := r) (i := i) (by simpa using h)
    simp only [List.getElem_cons_succ, List.take_succ_cons, tot]; omega
theorem numL_len' {h : Int} (hh : -18014398509481984 ≤ h ∧ h ≤ 18014398509481984) : (numL h).length ≤ 40 := by
  have h1 := decL_len 18 (h.natAbs / 2) (by omega)
  unfold numL
  simp only [List.length_append]
  split <;> split <;> simp <;> omega
theorem jLs_tot : ∀ l : List V, (∀ i (h : i < l.length), (jL l[i]).length + 5 ≤ 60 * l[i].nodes + 6 * l[i].bytes) → tot (jLs l) ≤ 60 * V.nodesL l + 6 * V.bytesL l
  | [], _ => by simp [jLs, tot]
  | v :: r, h => by
    have h0 := h 0 (by simp)
    have h1 := jLs_tot r (fun i hi => by have := h (i + 1) (by simpa using hi); simpa using this)
    simp only [List.getElem_cons_zero] at h0
    simp only [jLs, tot, V.nodesL, V.bytesL]; omega
theorem jMs_tot : ∀ (ks : List ByteArray) (l : List V), ks.length = l.length → (∀ i (h : i < l.length), (jL l[i]).length + 5 ≤ 60 * l[i].nodes + 6 * l[i].bytes) → tot (jMs ks l) ≤ 60 * V.nodesL l + 6 * V.bytesL l + 6 * bytesK ks
  | [], [], _, _ => by simp [jMs, tot]
  | k :: ks, v :: r, hk, h => by
    have h0 := h 0 (by simp)
    have h1 := jMs_tot ks r (by simpa using hk) (fun i hi => by have := h (i + 1) (by simpa using hi); simpa using this)
    have h2 := escT_len k.data.toList
    have h3 := size_list k
    simp only [List.getElem_cons_zero] at h0
    simp only [bytesK] at h1
    simp only [jMs, tot, V.nodesL, V.bytesL, bytesK, List.map_cons, List.sum_cons, qL, List.length_append, List.length_cons, List.length_nil]; omega
  | [], _ :: _, hk, _ => by cases hk
  | _ :: _, [], hk, _ => by cases hk
theorem jL_len : ∀ (m : Nat) (v : V), v.nodes ≤ m → Good v → (jL v).length + 5 ≤ 60 * v.nodes + 6 * v.bytes
  | 0, v, hm, _ => by have := nodes_pos v; omega
  | m + 1, .mk kind half text list keys vals, hm, hG => by
    obtain ⟨n, hgl, hgv⟩ := hG
    simp only [V.nodes] at hm
    have hl : ∀ i (h : i < list.length), (jL list[i]).length + 5 ≤ 60 * list[i].nodes + 6 * list[i].bytes := fun i h => jL_len m list[i] (by have := nodes_le h; omega) (hgl i h)
    have hv : ∀ i (h : i < vals.length), (jL vals[i]).length + 5 ≤ 60 * vals[i].nodes + 6 * vals[i].bytes := fun i h => jL_len m vals[i] (by have := nodes_le h; omega) (hgv i h)
    have h1 := jLs_tot list hl
    have h2 := jMs_tot keys vals n.same hv
    have h3 := joinT_tot (jLs list)
    have h4 := joinT_tot (jMs keys vals)
    have h5 := escT_len text.data.toList
    have h6 := size_list text
    have h7 := numL_len' n.hbound
    simp only [jL, V.nodes, V.bytes]
    split
    · simp; omega
    split
    · simp; omega
    split
    · simp; omega
    split
    · omega
    split
    · simp only [qL, List.length_append, List.length_cons, List.length_nil]; omega
    split
    · simp only [List.length_append, List.length_cons, List.length_nil]; omega
    · simp only [List.length_append, List.length_cons, List.length_nil]; omega
end Go.Proofs.YtmbleojlnaofjaaGreatDoor

/- Pairs of keys and values, sorted by their keys: plain facts. -/
namespace Go.Proofs.YtmbleojlnaofjaaGreatDoor
open Go Go.Sort
set_option linter.unusedVariables false
def ltF {n : Nat} (x y : Fin n) : Bool := decide (x < y)
theorem swo_ltF {n : Nat} [Inhabited (Fin n)] : SWO (ltF (n := n)) where
  irrefl x := by simp [ltF]
  trans x y z h1 h2 := by simp only [ltF, decide_eq_true_eq] at h1 h2 ⊢; omega
  ntrans x y z h1 h2 := by simp only [ltF, decide_eq_false_iff_not] at h1 h2 ⊢; omega
/-- All numbers below n, in some order, sorted: each stands at its own place. -/
theorem sorted_fin {n : Nat} [Inhabited (Fin n)] {d d' : Array (Fin n)} (hp : (d.toList.map (·.val)).Perm (List.range n)) (hP : PermIn 0 d.size d d') (hS : SortedIn ltF 0 d.size d') : d'.size = n ∧ ∀ i, i < n → (d'[i]!).val = i := by
  have hds : d.size = n := by have := hp.length_eq; simpa using this
  have hsz : d'.size = n := by rw [hP.1, hds]
  have hperm : d'.toList.Perm d.toList := by
    have h1 : (d'.extract 0 d.size) = d' := by rw [← hP.1]; simp
    have h2 : (d.extract 0 d.size) = d := by simp
    have := hP.2.2
    rwa [h1, h2] at this
  have hl : (d'.toList.map (·.val)) = List.range n := by
    refine List.Perm.eq_of_pairwise (le := fun a b => a ≤ b) (fun a b _ _ h1 h2 => by omega) ?_ ?_ ((hperm.map _).trans hp)
    · rw [List.pairwise_iff_getElem]
      intro i j hi hj hij
      simp only [List.length_map, Array.length_toList] at hi hj
      have h3 := hS i j (by omega) hij (by omega)
      simp only [ltF, decide_eq_false_iff_not, getElem!_pos d' i (by omega), getElem!_pos d' j (by omega)] at h3
      simp only [List.getElem_map, Array.getElem_toList]
      omega
    · exact List.pairwise_le_range
  refine ⟨hsz, fun i hi => ?_⟩
  have h4 : (d'.toList.map (·.val))[i]? = (List.range n)[i]? := by rw [hl]
  rw [getElem!_pos d' i (by omega)]
  simpa [hsz, hi] using h4
end Go.Proofs.YtmbleojlnaofjaaGreatDoor

/-
  DERIVED: THE SHELF's CONTRACTS AT THIS DUMP, IN PLAIN WORDS (tools/lay-plain.mjs out of 'TryzShelfSl.lean', which tools/lay-shelf.mjs wrote): THE SAME DECLARATIONS UNDER THE SAME NAMES: 'import', 'namespace', 'open', 'def', 'theorem' AND NOTHING ELSE: no command of the shelf's: FOR A HAND-IN. Each laying: the table of numbers ('.._ren') and one theorem, a field a fact of the dump's own or the kernel's comparison; each contract: ONE APPLICATION.
-/
namespace Go.Proofs
open Go.Shelf
def Tryz.laysSl_ren : Go.Shelf.Ren := ⟨fun | 6 => 189 | 10 => 201 | 11 => 202 | 12 => 203 | 13 => 165 | 14 => 204 | 24 => 182 | 25 => 183 | 26 => 225 | 27 => 226 | 28 => 227 | 29 => 228 | 30 => 229 | 31 => 230 | 32 => 231 | 33 => 232 | 34 => 242 | 35 => 243 | 36 => 244 | 37 => 245 | 38 => 246 | 39 => 247 | n => n, fun | 20 => 20 | 26 => 120 | 35 => 221 | 0 => 0 | 37 => 223 | 3 => 3 | 41 => 63 | 44 => 228 | 49 => 193 | 51 => 93 | 4 => 4 | 54 => 252 | 53 => 251 | 58 => 73 | 5 => 5 | 9 => 9 | 60 => 261 | 64 => 209 | 66 => 264 | 67 => 230 | 17 => 17 | 32 => 218 | 33 => 219 | 82 => 277 | 12 => 12 | 75 => 271 | 76 => 272 | 77 => 273 | 78 => 183 | 79 => 274 | 80 => 275 | n => n, fun | n => n⟩
theorem Tryz.laysSl : Go.Proofs.LaysGg.n6 Tryz.prog Tryz.laysSl_ren := {
  mixed := by kernel_rfl
  f6 := Tryz.func189.trans (congrArg some (by kernel_rfl))
  f10 := Tryz.func201.trans (congrArg some (by kernel_rfl))
  f11 := Tryz.func202.trans (congrArg some (by kernel_rfl))
  f12 := Tryz.func203.trans (congrArg some (by kernel_rfl))
  f13 := Tryz.func165.trans (congrArg some (by kernel_rfl))
  f14 := Tryz.func204.trans (congrArg some (by kernel_rfl))
  f24 := Tryz.func182.trans (congrArg some (by kernel_rfl))
  f25 := Tryz.func183.trans (congrArg some (by kernel_rfl))
  f26 := Tryz.func225.trans (congrArg some (by kernel_rfl))
  f27 := Tryz.func226.trans (congrArg some (by kernel_rfl))
  f28 := Tryz.func227.trans (congrArg some (by kernel_rfl))
  f29 := Tryz.func228.trans (congrArg some (by kernel_rfl))
  f30 := Tryz.func229.trans (congrArg some (by kernel_rfl))
  f31 := Tryz.func230.trans (congrArg some (by kernel_rfl))
  f32 := Tryz.func231.trans (congrArg some (by kernel_rfl))
  f33 := Tryz.func232.trans (congrArg some (by kernel_rfl))
  f34 := Tryz.func242.trans (congrArg some (by kernel_rfl))
  f35 := Tryz.func243.trans (congrArg some (by kernel_rfl))
  f36 := Tryz.func244.trans (congrArg some (by kernel_rfl))
  f37 := Tryz.func245.trans (congrArg some (by kernel_rfl))
  f38 := Tryz.func246.trans (congrArg some (by kernel_rfl))
  f39 := Tryz.func247.trans (congrArg some (by kernel_rfl))
  t0 := Tryz.underlying0
  a0 := Tryz.isAgg0
  z0 := Tryz.sizeOf0
  v0 := Tryz.zeroValue0
  i0 := by kernel_rfl
  t3 := Tryz.underlying3
  a3 := Tryz.isAgg3
  z3 := Tryz.sizeOf3
  v3 := Tryz.zeroValue3
  i3 := by kernel_rfl
  t4 := Tryz.underlying4
  a4 := Tryz.isAgg4
  z4 := Tryz.sizeOf4
  v4 := Tryz.zeroValue4
  i4 := by kernel_rfl
  t5 := Tryz.underlying5
  a5 := Tryz.isAgg5
  z5 := Tryz.sizeOf5
  v5 := Tryz.zeroValue5
  i5 := by kernel_rfl
  t9 := Tryz.underlying9
  a9 := Tryz.isAgg9
  z9 := Tryz.sizeOf9
  v9 := Tryz.zeroValue9
  i9 := by kernel_rfl
  t12 := Tryz.underlying12
  a12 := Tryz.isAgg12
  z12 := Tryz.sizeOf12
  v12 := Tryz.zeroValue12
  i12 := by kernel_rfl
  t17 := Tryz.underlying17
  a17 := Tryz.isAgg17
  z17 := Tryz.sizeOf17
  v17 := Tryz.zeroValue17
  i17 := by kernel_rfl
  t20 := Tryz.underlying20
  a20 := Tryz.isAgg20
  z20 := Tryz.sizeOf20
  v20 := Tryz.zeroValue20
  i20 := by kernel_rfl
  t26 := Tryz.underlying120
  a26 := Tryz.isAgg120
  z26 := Tryz.sizeOf120
  v26 := Tryz.zeroValue120
  i26 := by kernel_rfl
  t32 := Tryz.underlying218
  a32 := Tryz.isAgg218
  z32 := Tryz.sizeOf218
  v32 := Tryz.zeroValue218
  i32 := by kernel_rfl
  t33 := Tryz.underlying219
  a33 := Tryz.isAgg219
  z33 := Tryz.sizeOf219
  v33 := Tryz.zeroValue219
  i33 := by kernel_rfl
  t35 := Tryz.underlying221
  a35 := Tryz.isAgg221
  z35 := Tryz.sizeOf221
  v35 := Tryz.zeroValue221
  i35 := by kernel_rfl
  t37 := Tryz.underlying223
  a37 := Tryz.isAgg223
  z37 := Tryz.sizeOf223
  v37 := Tryz.zeroValue223
  i37 := by kernel_rfl
  t41 := Tryz.underlying63
  a41 := Tryz.isAgg63
  z41 := Tryz.sizeOf63
  v41 := Tryz.zeroValue63
  i41 := by kernel_rfl
  t44 := Tryz.underlying228
  a44 := Tryz.isAgg228
  z44 := Tryz.sizeOf228
  v44 := Tryz.zeroValue228
  i44 := by kernel_rfl
  t49 := Tryz.underlying193
  a49 := Tryz.isAgg193
  z49 := Tryz.sizeOf193
  v49 := Tryz.zeroValue193
  i49 := by kernel_rfl
  t51 := Tryz.underlying93
  a51 := Tryz.isAgg93
  z51 := Tryz.sizeOf93
  v51 := Tryz.zeroValue93
  i51 := by kernel_rfl
  t53 := Tryz.underlying251
  a53 := Tryz.isAgg251
  z53 := Tryz.sizeOf251
  v53 := Tryz.zeroValue251
  i53 := by kernel_rfl
  t54 := Tryz.underlying252
  a54 := Tryz.isAgg252
  z54 := Tryz.sizeOf252
  v54 := Tryz.zeroValue252
  i54 := by kernel_rfl
  t58 := Tryz.underlying73
  a58 := Tryz.isAgg73
  z58 := Tryz.sizeOf73
  v58 := Tryz.zeroValue73
  i58 := by kernel_rfl
  t60 := Tryz.underlying261
  a60 := Tryz.isAgg261
  z60 := Tryz.sizeOf261
  v60 := Tryz.zeroValue261
  i60 := by kernel_rfl
  t64 := Tryz.underlying209
  a64 := Tryz.isAgg209
  z64 := Tryz.sizeOf209
  v64 := Tryz.zeroValue209
  i64 := by kernel_rfl
  t66 := Tryz.underlying264
  a66 := Tryz.isAgg264
  z66 := Tryz.sizeOf264
  v66 := Tryz.zeroValue264
  i66 := by kernel_rfl
  t67 := Tryz.underlying230
  a67 := Tryz.isAgg230
  z67 := Tryz.sizeOf230
  v67 := Tryz.zeroValue230
  i67 := by kernel_rfl
  t75 := Tryz.underlying271
  a75 := Tryz.isAgg271
  z75 := Tryz.sizeOf271
  v75 := Tryz.zeroValue271
  i75 := by kernel_rfl
  t76 := Tryz.underlying272
  a76 := Tryz.isAgg272
  z76 := Tryz.sizeOf272
  v76 := Tryz.zeroValue272
  i76 := by kernel_rfl
  t77 := Tryz.underlying273
  a77 := Tryz.isAgg273
  z77 := Tryz.sizeOf273
  v77 := Tryz.zeroValue273
  i77 := by kernel_rfl
  t78 := Tryz.underlying183
  a78 := Tryz.isAgg183
  z78 := Tryz.sizeOf183
  v78 := Tryz.zeroValue183
  i78 := by kernel_rfl
  t79 := Tryz.underlying274
  a79 := Tryz.isAgg274
  z79 := Tryz.sizeOf274
  v79 := Tryz.zeroValue274
  i79 := by kernel_rfl
  t80 := Tryz.underlying275
  a80 := Tryz.isAgg275
  z80 := Tryz.sizeOf275
  v80 := Tryz.zeroValue275
  i80 := by kernel_rfl
  t82 := Tryz.underlying277
  a82 := Tryz.isAgg277
  z82 := Tryz.sizeOf277
  v82 := Tryz.zeroValue277
  i82 := by kernel_rfl }
end Go.Proofs

/- The encoder's own call of sort.Slice. -/
namespace Go.Proofs.YtmbleojlnaofjaaGreatDoor
open Go Go.RowKit D Go.Deep Go.Sort Go.Lib Go.Shelf Go.Proofs
set_option linter.unusedVariables false
set_option linter.unusedSimpArgs false


noncomputable def kvT : TypeInfo := (Tryz.prog.info? 201).get (by kernel_rfl)
noncomputable def kvE : TypeInfo := (Tryz.prog.info? 203).get (by kernel_rfl)
theorem kvK (n : Nat) (h2 : 2 ≤ n) : Lib.swapperK n kvE 25 = 9 := by
  have a : kvE.hasPointers = true := by kernel_rfl
  have b : kvE.bytes = 32 := by kernel_rfl
  have c : (n == 0) = false := by simp; omega
  have d : (n == 1) = false := by simp; omega
  simp [Lib.swapperK, a, b, c, d]
theorem kvK0 : Lib.swapperK 0 kvE 25 = 1 := rfl
theorem kvK1 : Lib.swapperK 1 kvE 25 = 2 := rfl
theorem rise_dec {keys : List ByteArray} (hrise : ∀ i (h : i + 1 < keys.length), Op.bytesLess keys[i].toList keys[i + 1].toList = true) (x y : Fin keys.length) : Op.bytesLess keys[x].toList keys[y].toList = ltF x y := by
  have key : ∀ i j (hi : i < keys.length) (hj : j < keys.length), i < j → (keys[i]'hi).data.toList < (keys[j]'hj).data.toList := fun i j hi hj hij => by
    have h1 := rise_lt hrise (j - i - 1) i (by omega)
    simp only [show i + (j - i - 1) + 1 = j by omega] at h1
    rw [Go.Proofs.bytesLess_eq, decide_eq_true_eq, ByteArray.toList_eq, ByteArray.toList_eq] at h1
    exact h1
  unfold ltF
  rw [Go.Proofs.bytesLess_eq, ByteArray.toList_eq, ByteArray.toList_eq]
  refine decide_eq_decide.2 ⟨fun h => ?_, fun h => key _ _ _ _ h⟩
  rcases Nat.lt_trichotomy x.val y.val with h1 | h1 | h1
  · exact h1
  · have : x = y := Fin.ext h1
    subst this; exact absurd h (List.lt_irrefl _)
  · exact absurd (List.lt_trans h (key _ _ _ _ h1)) (List.lt_irrefl _)
set_option maxHeartbeats 2000000 in
theorem kvLess (blk off Bs n : Nat) (W : World) (G : Nat → ByteArray) (hs : W.cell? ⟨Bs, 0, none⟩ = some (.slice (some ⟨blk, off, none⟩) n n))
    (hc : ∀ t, t < n → W.cell? ⟨blk, off + t * 2, none⟩ = some (.string (G t))) (i j : Nat) (hi : i < n) (hj : j < n) (_hsz : n < 4611686018427387904) :
    Calls Tryz.prog 190 #[.int .i64 i, .int .i64 j, .pointer (some ⟨Bs, 0, none⟩)] W fun e w' => e = .returned (.bool (Op.bytesLess (G i).toList (G j).toList)) ∧ ∃ q, w' = W.drewN q := by
  have ci := hc i hi
  have cj := hc j hj
  go_enter Tryz.func190, Tryz.ntmps190
  go_wp2
  go_quiet (fail)
  go_wp2
  go_ret
  exact ⟨rfl, nq, rfl⟩
def encKV (keys : List ByteArray) (xs : Nat → Value) (x : Fin keys.length) : List Value := [.string keys[x], xs x.val]
theorem fr_grow (w : World) (os : Array Obj) : Fr [] w (grow w os) := by
  refine ⟨rfl, rfl, rfl, ?_, fun i hi _ => ?_⟩
  · show w.heap.size ≤ (w.heap ++ os).size
    simp
  · show (w.heap ++ os)[i]? = _
    rw [Array.getElem?_append_left (by simpa using hi)]
theorem sort_kv {w : World} {blk Bs n : Nat} {cs : Array Value} {keys : List ByteArray} {xs : Nat → Value} {seen : List Nat} (hk : keys.length = n) (hb : w.heap[blk]? = some (.cells cs 203 (0, 0))) (hbox : w.heap[Bs]? = some (.cells #[.slice (some ⟨blk, 0, none⟩) n n] 201 (0, 0))) (hne : Bs ≠ blk)
    (hsl : ∀ x ∈ seen, x < keys.length) (hp : seen.Perm (List.range keys.length)) (h1 : ∀ i, i < n → (xs i).oneCell' = true) (hcs : ∀ j (h : j < seen.length), cs[j * 2]? = some (.string (keys.getD seen[j] default)) ∧ cs[j * 2 + 1]? = some (xs seen[j]))
    (hrise : ∀ i (h : i + 1 < keys.length), Op.bytesLess keys[i].toList keys[i + 1].toList = true) (hn : n ≤ 1000000) :
    Calls Tryz.prog 189 #[.iface 201 (.slice (some ⟨blk, 0, none⟩) n n), .func (.func 190) #[] #[.pointer (some ⟨Bs, 0, none⟩)]] w (Ret w [blk] fun v w' => v = .tuple #[] ∧ (∃ cur, w'.heap[blk]? = some (.cells cur 203 (0, 0))) ∧ ∀ i (h : i < keys.length), CellsAt w' blk (0 + i * 2) #[.string keys[i], xs i]) := by
  have hlt := lt_of_blk hb
  have hslen : seen.length = n := by have := hp.length_eq; simpa [hk] using this
  by_cases h2 : 2 ≤ n
  · haveI : Inhabited (Fin keys.length) := ⟨⟨0, by omega⟩⟩
    obtain ⟨d, hd⟩ : ∃ d : Array (Fin keys.length), d.toList.map (·.val) = seen := ⟨(seen.attach.map fun x => (⟨x.1, hsl x.1 x.2⟩ : Fin keys.length)).toArray, by simp⟩
    have hdz : d.size = n := by have := congrArg List.length hd; simpa [hslen] using this
    have hdj : ∀ j (h : j < n), (d[j]!).val = seen[j]'(by omega) := fun j h => by
      have h3 : (d.toList.map (·.val))[j]? = seen[j]? := by rw [hd]
      rw [getElem!_pos d j (by omega)]
      simpa [hdz, h, hslen] using h3
    have hF : ∀ x, (encKV keys xs x).length = 2 := fun _ => rfl
    have hH : HoldsK (encKV keys xs) 2 w blk 0 d := by
      intro t ht
      have ht2 : t < n * 2 := by simpa [hdz] using ht
      refine ⟨?_, by simp [World.frozen?, hb]⟩
      rw [get_flatK _ _ _ t (by simpa [hdz] using ht2), Nat.zero_add]
      refine cell_of_blk hb ?_
      have hq : t / 2 < n := by omega
      have hc := hcs (t / 2) (by omega)
      have hx := hdj (t / 2) hq
      have hg : keys.getD (seen[t / 2]'(by omega)) default = keys[d[t / 2]!] := by
        rw [← hx]; simp [List.getD_eq_getElem?_getD]
      rcases Nat.mod_two_eq_zero_or_one t with hm | hm
      · have e : t = t / 2 * 2 := by omega
        rw [hm]
        have := hc.1
        rw [← e, hg] at this
        rw [this]; rfl
      · have e : t = t / 2 * 2 + 1 := by omega
        rw [hm]
        have := hc.2
        rw [← e, ← hx] at this
        rw [this]; rfl
    have hBl : Bs < w.heap.size := lt_of_blk hbox
    have hless : LessReadsK Tryz.prog 190 #[.pointer (some ⟨Bs, 0, none⟩)] (encKV keys xs) 2 ltF blk 0 d.size w := by
      intro m os dk hs i j hi hj
      have e : sortWorldK (encKV keys xs) 2 w blk 0 m dk os = putRowK (encKV keys xs) 2 (grow (Sort.ahead w m) os) blk 0 dk := by
        unfold sortWorldK; rw [putRowK_grow _ _ (Sort.ahead w m) _ blk 0 _ hlt]
      have hHg : HoldsK (encKV keys xs) 2 (grow (Sort.ahead w m) os) blk 0 d := holdsK_grow _ _ _ _ blk 0 d hlt (holdsK_ahead _ _ _ _ _ _ _ hH)
      have hl := kvLess blk 0 Bs n (sortWorldK (encKV keys xs) 2 w blk 0 m dk os) (fun t => keys[dk[t]!]) ?_ (fun t ht => ?_) i j (by omega) (by omega) (by omega)
      · rw [← rise_dec hrise]; exact hl
      · rw [e, cell?_putRowK_other _ _ _ blk 0 dk _ (by exact hne), cell?_grow _ _ _ (by exact hBl)]; exact cell_of_blk hbox rfl
      · rw [e]; exact ((holdsK_putRowK _ _ _ blk 0 d dk hHg hs).cell (i := t) (c := 0) (by omega) (by omega)).1
    have hsort := Any.sort_Slice_cells_sorted Tryz.laysSl 201 203 kvT kvE (by kernel_rfl) (by kernel_rfl) (by kernel_rfl) (by kernel_rfl) 25 (fun _ => by kernel_rfl) (encKV keys xs) 2 (fun _ => rfl) (by kernel_rfl) (fun _ => by kernel_rfl)
      (fun x v hv => by simp only [encKV, List.mem_cons, List.not_mem_nil, or_false] at hv; rcases hv with rfl | rfl; rfl; exact h1 _ (by have := x.2; omega)) ltF swo_ltF 190 #[.pointer (some ⟨Bs, 0, none⟩)]
      (enters_of Tryz.func190 (by kernel_rfl) rfl) blk 0 n d (by omega) (by omega) 224 (by rw [kvK _ (by omega)]; kernel_rfl) false
      (fun args W => run_callFunc_extern Tryz.func224 (by kernel_rfl) (by kernel_rfl) (by kernel_rfl) (e := Extern.ReflectliteSwapper.swap false) (by kernel_rfl) args W) w hless hH hlt
    rw [hdz] at hsort
    refine Calls.mono hsort fun e w' h => ?_
    obtain ⟨rfl, d', m, os, hP, hS, rfl⟩ := h
    rw [← hdz] at hP hS
    obtain ⟨hz', hi'⟩ := sorted_fin (hd ▸ hp) hP hS
    have hgr : (putRowK (encKV keys xs) 2 (Sort.ahead w m) blk 0 d').heap = w.heap.modify blk (onCells (putCells id 0 (flatK (encKV keys xs) 2 d'))) := rfl
    have hpl : blk < (putRowK (encKV keys xs) 2 (Sort.ahead w m) blk 0 d').heap.size := by rw [size_putRowK]; exact hlt
    have hHp : HoldsK (encKV keys xs) 2 (grow (putRowK (encKV keys xs) 2 (Sort.ahead w m) blk 0 d') os) blk 0 d' := holdsK_grow _ _ _ _ blk 0 d' hpl (holdsK_putRowK _ _ _ blk 0 d d' (holdsK_ahead _ _ _ _ _ _ _ hH) hP.1)
    refine Ret.mk ⟨rfl, rfl, rfl, ?_, fun i hi hs => ?_⟩ ⟨rfl, ⟨putCells id 0 (flatK (encKV keys xs) 2 d') cs, ?_⟩, fun i hi q hq => ?_⟩
    · show w.heap.size ≤ ((putRowK (encKV keys xs) 2 (Sort.ahead w m) blk 0 d').heap ++ os).size
      rw [hgr]; simp
    · show ((putRowK (encKV keys xs) 2 (Sort.ahead w m) blk 0 d').heap ++ os)[i]? = _
      have hne' : blk ≠ i := fun h => hs (by simp [h])
      rw [hgr, Array.getElem?_append_left (by simpa using hi), Array.getElem?_modify, if_neg hne']
    · show ((putRowK (encKV keys xs) 2 (Sort.ahead w m) blk 0 d').heap ++ os)[blk]? = _
      rw [hgr, Array.getElem?_append_left (by simpa using hlt), Array.getElem?_modify, if_pos rfl, hb]
      rfl
    · have hq2 : q < 2 := hq
      have hc := (hHp.cell (i := i) (c := q) (by omega) hq2).1
      have hv := hi' i hi
      have hfe : d'[i]! = (⟨i, hi⟩ : Fin keys.length) := Fin.ext hv
      rw [hfe] at hc
      rw [hc]
      rcases (by omega : q = 0 ∨ q = 1) with rfl | rfl <;> rfl
  · have h01 : n = 0 ∨ n = 1 := by omega
    have tiny : ∀ (f : Nat), Tryz.prog.funcs.findIdx? (·.name == "internal/reflectlite" ++ ".Swapper$" ++ toString (Lib.swapperK n kvE 25)) = some f → Calls Tryz.prog 189 #[.iface 201 (.slice (some ⟨blk, 0, none⟩) n n), .func (.func 190) #[] #[.pointer (some ⟨Bs, 0, none⟩)]] w (Ret w [blk] fun v w' => v = .tuple #[] ∧ (∃ cur, w'.heap[blk]? = some (.cells cur 203 (0, 0))) ∧ ∀ i (h : i < keys.length), CellsAt w' blk (0 + i * 2) #[.string keys[i], xs i]) := fun f hf => by
      refine Calls.mono (Any.sort_Slice_tiny Tryz.laysSl 201 203 kvT kvE (by kernel_rfl) (by kernel_rfl) (by kernel_rfl) (by kernel_rfl) 25 (fun _ => by kernel_rfl) (some ⟨blk, 0, none⟩) n n (by omega) f hf (.func 190) #[] #[.pointer (some ⟨Bs, 0, none⟩)] w) fun e w' h => ?_
      obtain ⟨rfl, os, rfl⟩ := h
      have f0 := fr_grow w os
      refine Ret.mk (Fr.mono f0 (by simp)) ⟨rfl, ⟨cs, f0.blk0 hb⟩, fun i hi q hq => ?_⟩
      have hq2 : q < 2 := hq
      obtain rfl : i = 0 := by omega
      have h00 : seen[0]'(by omega) = 0 := by have := hsl _ (List.getElem_mem (show 0 < seen.length by omega)); omega
      have hc := hcs 0 (by omega)
      rw [h00] at hc
      have hg : keys.getD 0 default = keys[0] := by simp [List.getD_eq_getElem?_getD, hi]
      rw [hg] at hc
      rcases (by omega : q = 0 ∨ q = 1) with rfl | rfl
      · exact cell_of_blk (f0.blk0 hb) hc.1
      · exact cell_of_blk (f0.blk0 hb) hc.2
    rcases h01 with rfl | rfl
    · exact tiny 216 (by rw [kvK0]; kernel_rfl)
    · exact tiny 217 (by rw [kvK1]; kernel_rfl)

end Go.Proofs.YtmbleojlnaofjaaGreatDoor

