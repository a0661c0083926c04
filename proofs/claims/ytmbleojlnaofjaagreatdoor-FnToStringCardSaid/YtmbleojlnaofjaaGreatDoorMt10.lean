/- Own texts, merged: Js4, Txt, ShelfStr, Enc3, TsL, Open. -/
import Derived.Test.YtmbleojlnaofjaaGreatDoorMt09
import Derived.Test.YtmbleojlnaofjaaGreatDoorMt01
import Derived.Test.YtmbleojlnaofjaaGreatDoorMt02
import Derived.Test.YtmbleojlnaofjaaGreatDoorMt04
import Derived.Shelf.Strings.Builder1
import Derived.Test.YtmbleojlnaofjaaGreatDoorProg
import Derived.Test.YtmbleojlnaofjaaGreatDoorMt08
import Derived.Test.YtmbleojlnaofjaaGreatDoorMt03
import Derived.ChangeArms
import Derived.ChangeShapes
import Derived.SizedLaws
import Derived.DataReads
import Derived.Lib.LaidU8
/- The walks of spec.String and laws.control. -/
namespace Go.Proofs.YtmbleojlnaofjaaGreatDoor
open Go Go.RowKit D Go.Deep
set_option linter.unusedVariables false
set_option linter.unusedSimpArgs false


/-- The text that tostring gives. -/
def sL : V → List UInt8
  | .mk kind half text list keys vals => if kind = 4 then text.data.toList else jL (.mk kind half text list keys vals)

theorem string_any (v : V) (cs : Array Value) (B : Nat) (w : World) (hn : v.nodes ≤ 1000000) (hby : v.bytes ≤ 1000000) (hG : Good v) (hR : RV w B v cs) (hB : B ≤ w.heap.size) : Calls Tryz.prog 13 #[.agg cs] w (Ret w [] fun r _ => ∃ b how, r = .tuple #[.string b, .int .i64 how] ∧ Said b how (sL v)) := by
  obtain ⟨kind, half, text, list, keys, vals⟩ := v
  obtain ⟨la, lc, ka, kc, va, vc, rfl⟩ := hR.shape
  refine calls_of Tryz.func13 rfl rfl rfl rfl ?_
  have FR := Fr.refl [] w
  refine DC.seq ?_
  refine DC.region ?_
  refine DL.boxA rfl rfl rfl ?_
  intro b1 w1 f2 lo1 hi1 hb1
  replace lo1 := Nat.le_trans FR.size lo1
  replace FR := FR.tr0 f2
  replace hR := hR.fr f2 (by intro x hx; simp <;> omega)
  refine DL.y rfl rfl (Y.assign) ?_
  refine DL.y rfl rfl (Y.assign) ?_
  refine DL.nil ?_
  show DC _ _ _ _ _ _
  refine DC.seq ?_
  refine DC.seq ?_
  refine DC.region ?_
  refine DL.y rfl rfl (Y.field F.fd26_0 rfl) ?_
  refine DL.y rfl rfl (Y.loadB F.sc22 rfl hb1 rfl) ?_
  refine DL.if rfl rfl (Y.eq rfl rfl) (fun c6 => ?_) (fun c6 => ?_)
  · refine DL.nil ?_
    show DC _ _ _ _ _ _
    refine DC.condT rfl ?_
    refine DC.seq ?_
    refine DC.region ?_
    refine DL.y rfl rfl (Y.field F.fd26_2 rfl) ?_
    refine DL.y rfl rfl (Y.loadB F.sc9 rfl hb1 rfl) ?_
    refine DL.y rfl rfl (Y.assign) ?_
    refine DL.y rfl rfl (Y.assign) ?_
    refine DL.nil ?_
    show DC _ _ _ _ _ _
    refine DC.ret ?_
    refine FinQ.ret2 rfl rfl (Ret.mk FR ⟨_, _, rfl, ?_⟩)
    have e : sL (.mk kind half text list keys vals) = text.data.toList := by simp [sL, c6]
    rw [e]; exact Or.inl ⟨rfl, rfl⟩
  · refine DL.nil ?_
    show DC _ _ _ _ _ _
    refine DC.condF rfl ?_
    refine DC.skip ?_
    show DC _ _ _ _ _ _
    refine DC.seq ?_
    refine DC.region ?_
    refine DL.y rfl rfl (Y.loadW rfl hb1 F.ag26) ?_
    refine DL.call rfl rfl F.nm39 rfl (json_any _ _ _ B _ (Nat.le_refl _) hn hby hG hR (by have := FR.size; omega)) ?_
    rintro _ w3 f4 ⟨b, how, rfl, hsd⟩
    replace FR := FR.tr0 f4
    replace hR := hR.fr f4 (by intro x hx; simp <;> omega)
    replace hb1 := f4.blk0 hb1
    replace hi1 := Nat.lt_of_lt_of_le hi1 f4.size
    refine DL.y rfl rfl (Y.extract rfl rfl) ?_
    refine DL.y rfl rfl (Y.extract rfl rfl) ?_
    refine DL.y rfl rfl (Y.assign) ?_
    refine DL.y rfl rfl (Y.assign) ?_
    refine DL.nil ?_
    show DC _ _ _ _ _ _
    refine DC.ret ?_
    refine FinQ.ret2 rfl rfl (Ret.mk FR ⟨_, _, rfl, ?_⟩)
    have e : sL (.mk kind half text list keys vals) = jL (.mk kind half text list keys vals) := by simp [sL, c6]
    rw [e]; exact hsd


theorem RV.keyRow {w : World} {B : Nat} {kind half : Int} {text : ByteArray} {list : List V} {keys : List ByteArray} {vals : List V} {la ka va : Option Addr} {ln kn vn lc kc vc : Nat} (h : RV w B (.mk kind half text list keys vals) #[.int .i64 kind, .int .i64 half, .string text, .slice la ln lc, .slice ka kn kc, .slice va vn vc]) {k : Nat} (hk : k < keys.length) :
    ∃ b o, ka = some ⟨b, o, none⟩ ∧ b < B ∧ CellsAt w b (o + k * 1) (strCells keys k) := by
  cases h with
  | mk cl cv hk0 hh ht l1 k1 v1 ks hl rl hks hv rv =>
    obtain ⟨b, o, h1, h2, h3, _⟩ := hks k hk
    exact ⟨b, o, h1, h2, h3⟩


def StrRow (w : World) (E0 E1 : Nat) (a : Option Addr) (n : Nat) : Prop := ∀ i, i < n → ∃ (b : Nat) (s : ByteArray), a = some ⟨b, 0, none⟩ ∧ E0 ≤ b ∧ b < E1 ∧ w.cell? ⟨b, 0 + i * 1, none⟩ = some (.string s) ∧ s.size ≤ 140737488351232
theorem StrRow.fr {S : List Nat} {w w' : World} {E0 E1 : Nat} {a : Option Addr} {n : Nat} (h : StrRow w E0 E1 a n) (f : Fr S w w') (hs : ∀ b, E0 ≤ b → b < E1 → b ∉ S) : StrRow w' E0 E1 a n :=
  fun i hi => let ⟨b, s, h1, h2, h3, h4, h5⟩ := h i hi; ⟨b, s, h1, h2, h3, f.cell h4 (hs b h2 h3), h5⟩
theorem strRow_of {w : World} {E0 E1 : Nat} {v : Value} {text : ByteArray} {keys : List ByteArray} (h : w.ownsRow E0 9 1 v (1 + keys.length) (flatC ([#[.string text]] ++ (List.range keys.length).map (strCells keys)))) (hE : w.heap.size ≤ E1) (ht : text.size ≤ 140737488351232) (hk : ∀ s ∈ keys, s.size ≤ 140737488351232) :
    ∃ a c, v = .slice a (1 + keys.length) c ∧ StrRow w E0 E1 a (1 + keys.length) := by
  obtain ⟨a, cap, rfl, hl, hc⟩ := own_cells h
  refine ⟨a, cap, rfl, fun i hi => ?_⟩
  obtain ⟨b, rfl, hb1, hb2, hcell⟩ := hc i hi
  have h1 := hcell 0 (by omega)
  have hsz : ∀ c ∈ [#[Value.string text]] ++ (List.range keys.length).map (strCells keys), c.size = 1 := fun c hc => by
    rcases List.mem_append.1 hc with h | h
    · rw [List.mem_singleton.1 h]; rfl
    · obtain ⟨i, _, rfl⟩ := List.mem_map.1 h; rfl
  have hil : i < ([#[Value.string text]] ++ (List.range keys.length).map (strCells keys)).length := by simp; omega
  rw [flatC_get hsz i 0 hil (by omega)] at h1
  by_cases h0 : i = 0
  · subst h0
    exact ⟨b, text, rfl, hb1, by omega, by simpa using h1, ht⟩
  · obtain ⟨i, rfl⟩ : ∃ q, i = q + 1 := ⟨i - 1, by omega⟩
    have hik : i < keys.length := by omega
    refine ⟨b, keys[i], rfl, hb1, by omega, ?_, hk _ (List.getElem_mem hik)⟩
    simpa [strCells, hik] using h1
theorem own_lit {w : World} {E0 el b : Nat} {v : Value} (hb : w.heap[b]? = some (.cells #[v] el (0, 0))) (hE : E0 ≤ b) : w.ownsRow E0 el 1 (.slice (some ⟨b, 0, none⟩) 1 1) 1 (flatC [#[v]]) :=
  ⟨by simp [flatC], .inr ⟨b, 1, #[v], rfl, hE, hb, Nat.le_refl _, by decide, by simp, by simp [flatC]⟩⟩
def CtlC (m : Nat) : Prop := ∀ (v : V) (cs : Array Value) (B : Nat) (w : World), v.nodes ≤ m → v.nodes ≤ 1000000 → Good v → RV w B v cs → B ≤ w.heap.size → Calls Tryz.prog 14 #[.agg cs] w (Ret w [] fun r _ => ∃ q, r = .bool q)

set_option maxHeartbeats 1000000 in
theorem control_step (m : Nat) (ih : CtlC m) : CtlC (m + 1) := by
  intro v cs B w hm hm2 hG hR hB
  obtain ⟨kind, half, text, list, keys, vals⟩ := v
  obtain ⟨hgn, hgl, hgv⟩ := hG
  have hkvs := hgn.same
  obtain ⟨la, lc, ka, kc, va, vc, rfl⟩ := hR.shape
  obtain ⟨bt, bl, bk, bv, bkind, bhalf⟩ := hR.bounds
  have hkz : ∀ s ∈ keys, s.size ≤ 140737488351232 := fun s hs => by
    obtain ⟨i, hi, rfl⟩ := List.getElem_of_mem hs
    obtain ⟨_, _, _, _, _, h⟩ := hR.keyAt hi
    exact h
  simp only [V.nodes] at hm hm2
  have hnl := length_le_nodesL list
  have hnv := length_le_nodesL vals
  refine calls_of Tryz.func14 rfl rfl rfl rfl ?_
  have FR := Fr.refl [] w
  refine DC.seq ?_
  refine DC.region ?_
  refine DL.boxA rfl rfl rfl ?_
  intro b1 w1 f2 lo1 hi1 hb1
  replace lo1 := Nat.le_trans FR.size lo1
  replace FR := FR.tr0 f2
  replace hR := hR.fr f2 (by intro x hx; simp <;> omega)
  refine DL.y rfl rfl (Y.assign) ?_
  refine DL.nil ?_
  show DC _ _ _ _ _ _
  refine DC.seq ?_
  refine DC.seq ?_
  refine DC.region ?_
  refine DL.y rfl rfl (Y.field F.fd26_2 rfl) ?_
  refine DL.y rfl rfl (Y.loadB F.sc9 rfl hb1 rfl) ?_
  obtain ⟨E0, hE0⟩ : ∃ E0, E0 = w1.heap.size := ⟨_, rfl⟩
  have hb1E : b1 < E0 := by omega
  have hBE : B ≤ E0 := by have := FR.size; omega
  have hwE : w.heap.size ≤ E0 := by have := FR.size; omega
  refine DL.buildSl1 (cs := #[.string text]) rfl rfl F.el24 rfl rfl rfl ?_
  intro b10 w3 f4 lo10 hi10 hb10
  have hown10 := own_lit hb10 (by omega : E0 ≤ b10)
  have lt_b1_b10 : b1 < b10 := Nat.lt_of_lt_of_le hi1 lo10
  replace lo10 := Nat.le_trans FR.size lo10
  replace FR := FR.tr0 f4
  replace hR := hR.fr f4 (by intro x hx; simp <;> omega)
  replace hb1 := f4.blk0 hb1
  replace hi1 := Nat.lt_of_lt_of_le hi1 f4.size
  refine DL.y rfl rfl (Y.field F.fd26_4 rfl) ?_
  refine DL.y rfl rfl (Y.loadB F.sc24 rfl hb1 rfl) ?_
  refine DL.appendRow (css := [#[.string text]]) (cl := strCells keys) rfl rfl F.el24 rfl rfl hown10 (fun i hi => by obtain ⟨b, o, h1, _, h2⟩ := hR.keyRow hi; exact ⟨b, o, h1, h2, rfl, by simp [strCells, Value.oneCell']⟩) (by omega) (by omega) (by have := own_ge hown10 b10 (by simp [ownL, Value.ownBlock]); omega) ?_
  intro v13 w5 f6 hown13 hat13
  have hlo : ∀ i ∈ ownL (.slice (some ⟨b10, 0, none⟩) 1 1), E0 ≤ i := fun i hi => (own_ge hown10 i hi).1
  replace FR := FR.put f6 (fun i hi => Or.inr (by have := hlo i hi; omega))
  replace hR := hR.fr f6 (fun b hb hm => by have := hlo b hm; omega)
  replace hb1 := f6.blk hb1 (fun hm => by have := hlo _ hm; omega)
  replace hi1 := Nat.lt_of_lt_of_le hi1 f6.size
  obtain ⟨E1, hE1⟩ : ∃ E1, E1 = w5.heap.size := ⟨_, rfl⟩
  obtain ⟨a13, c13, rfl, hst⟩ := strRow_of hown13 (Nat.le_of_eq hE1.symm) bt hkz
  have hn13 : list.length ≤ 1000000 := by omega
  refine DL.y rfl rfl (Y.lenS Tryz.underlying24 rfl) ?_
  refine DL.y rfl rfl (Y.move) ?_
  refine DL.nil ?_
  show DC _ _ _ _ _ _
  refine DC.block ?_
  refine DC.loopE (σ := Nat) [(2, 2), (4, 5), (15, 35)] [(1, .pointer (some ⟨b1, 0, none⟩)), (13, .slice a13 (1 + keys.length) c13), (14, .int .i64 ((1 + keys.length : Nat) : Int))] (fun q => [(15, .int .i64 (q : Int))]) (fun sg wl => Fr [] w5 wl ∧ (fun q wl => q ≤ 1 + keys.length) sg wl) (fun q => 1 + keys.length - q) (0) rfl ?_ ?_ ?_ ?_
  · exact ⟨rfl, rfl, rfl⟩
  · exact rfl
  · exact ⟨Fr.refl _ _, Nat.zero_le _⟩
  · rintro e0 q j w7 ⟨f8, hq0⟩
    replace FR := FR.tr0 f8
    replace hR := hR.fr f8 (by intro x hx; simp <;> omega)
    replace hb1 := f8.blk0 hb1
    replace hi1 := Nat.lt_of_lt_of_le hi1 f8.size
    replace hst := hst.fr f8 (by intro b hb hb2 hm; first | (simp at hm; done) | (simp only [List.mem_singleton] at hm; omega))
    have G9 := f8
    have HG9 := Fr.refl [] w7
    refine DC.seq ?_
    refine DC.region ?_
    refine DL.if rfl rfl (Y.lt rfl rfl) (fun c16 => ?_) (fun c16 => ?_)
    · have hq : q < 1 + keys.length := by omega
      obtain ⟨bs, s, rfl, hbs0, hbs1, hsc, hss⟩ := hst q hq
      refine DL.nil ?_
      show DC _ _ _ _ _ _
      refine DC.seq ?_
      refine DC.condT rfl ?_
      refine DC.skip ?_
      show DC _ _ _ _ _ _
      refine DC.seq ?_
      refine DC.block ?_
      refine DC.seq ?_
      refine DC.region ?_
      refine DL.y rfl rfl (Y.index F.sl24 rfl rfl (rfl) (hq)) ?_
      refine DL.y rfl rfl (Y.load (v := .string s) F.sc9 rfl hsc) ?_
      refine DL.y rfl rfl (Y.assign) ?_
      refine DL.nil ?_
      show DC _ _ _ _ _ _
      refine DC.seq ?_
      refine DC.region ?_
      refine DL.y rfl rfl (Y.assign) ?_
      refine DL.nil ?_
      show DC _ _ _ _ _ _
      refine DC.block ?_
      refine DC.loop (σ := Nat) [(2, 2), (5, 5), (19, 34)] (fun p => [(5, .int .i64 (p : Int))]) (fun sg wl => Fr [] w7 wl ∧ (fun p wl => p ≤ s.size) sg wl) (fun p => s.size - p) (0) rfl ?_ ?_ ?_
      · exact rfl
      · exact ⟨Fr.refl _ _, Nat.zero_le _⟩
      · rintro p j w10 ⟨f11, hp0⟩
        replace FR := FR.tr0 f11
        replace G9 := G9.tr0 f11
        replace HG9 := HG9.tr0 f11
        replace hR := hR.fr f11 (by intro x hx; simp <;> omega)
        replace hb1 := f11.blk0 hb1
        replace hi1 := Nat.lt_of_lt_of_le hi1 f11.size
        replace hst := hst.fr f11 (by intro b hb hb2 hm; first | (simp at hm; done) | (simp only [List.mem_singleton] at hm; omega))
        have G12 := f11
        have HG12 := Fr.refl [] w10
        refine DC.seq ?_
        refine DC.seq ?_
        refine DC.region ?_
        refine DL.y rfl rfl (Y.move) ?_
        refine DL.y rfl rfl (Y.move) ?_
        refine DL.y rfl rfl (Y.lenStr Tryz.underlying9 rfl) ?_
        refine DL.if rfl rfl (Y.lt rfl rfl) (fun c22 => ?_) (fun c22 => ?_)
        · have hp : p < s.size := by omega
          refine DL.nil ?_
          show DC _ _ _ _ _ _
          refine DC.condT rfl ?_
          refine DC.skip ?_
          show DC _ _ _ _ _ _
          refine DC.seq ?_
          refine DC.block ?_
          refine DC.seq ?_
          refine DC.region ?_
          refine DL.y rfl rfl (Y.move) ?_
          refine DL.y rfl rfl (Y.move) ?_
          refine DL.y rfl rfl (Y.strIx (i := p) Tryz.underlying9 rfl rfl rfl hp) ?_
          refine DL.if rfl rfl (Y.lt rfl rfl) (fun c28 => ?_) (fun c28 => ?_)
          · refine DL.y rfl rfl (Y.move) ?_
            refine DL.skip rfl rfl ?_
            refine DL.skip rfl rfl ?_
            refine DL.skip rfl rfl ?_
            refine DL.skip rfl rfl ?_
            refine DL.y rfl rfl (Y.pickT rfl) ?_
            refine DL.nil ?_
            show DC _ _ _ _ _ _
            refine DC.condT rfl ?_
            refine DC.seq ?_
            refine DC.region ?_
            refine DL.y rfl rfl (Y.assign) ?_
            refine DL.nil ?_
            show DC _ _ _ _ _ _
            refine DC.ret ?_
            exact FinQ.ret1 rfl (Ret.mk FR ⟨_, rfl⟩)
          · refine DL.y rfl rfl (Y.move) ?_
            refine DL.y rfl rfl (Y.move) ?_
            refine DL.y rfl rfl (Y.move) ?_
            refine DL.y rfl rfl (Y.strIx (i := p) Tryz.underlying9 rfl rfl rfl hp) ?_
            refine DL.if rfl rfl (Y.eq rfl rfl) (fun c33 => ?_) (fun c33 => ?_)
            · refine DL.y rfl rfl (Y.pickF rfl) ?_
              refine DL.nil ?_
              show DC _ _ _ _ _ _
              refine DC.condT rfl ?_
              refine DC.seq ?_
              refine DC.region ?_
              refine DL.y rfl rfl (Y.assign) ?_
              refine DL.nil ?_
              show DC _ _ _ _ _ _
              refine DC.ret ?_
              exact FinQ.ret1 rfl (Ret.mk FR ⟨_, rfl⟩)
            · refine DL.y rfl rfl (Y.pickF rfl) ?_
              refine DL.nil ?_
              show DC _ _ _ _ _ _
              refine DC.condF rfl ?_
              refine DC.skip ?_
              show DC _ _ _ _ _ _
              refine DC.region ?_
              refine DL.y rfl rfl (Y.move) ?_
              refine DL.y rfl rfl (Y.addI (c := ((p + 1 : Nat) : Int)) rfl rfl (by omega) (by omega) (by omega)) ?_
              refine DL.y rfl rfl (Y.assign) ?_
              refine DL.nil ?_
              exact ⟨p + 1, ⟨G12, by omega⟩, by show s.size - (p + 1) < s.size - p; omega, rfl⟩
        · refine DL.nil ?_
          show DC _ _ _ _ _ _
          refine DC.condF rfl ?_
          refine DC.exit ?_
          show DC _ _ _ _ _ _
          refine DC.region ?_
          refine DL.y rfl rfl (Y.addI (c := ((q + 1 : Nat) : Int)) rfl rfl (by omega) (by omega) (by omega)) ?_
          refine DL.y rfl rfl (Y.move) ?_
          refine DL.nil ?_
          exact ⟨q + 1, ⟨G9, by omega⟩, by show 1 + keys.length - (q + 1) < 1 + keys.length - q; omega, rfl⟩
    · refine DL.nil ?_
      show DC _ _ _ _ _ _
      refine DC.seq ?_
      refine DC.condF rfl ?_
      refine DC.exit ?_
      show DC _ _ _ _ _ _
      refine DC.seq ?_
      refine DC.seq ?_
      refine DC.region ?_
      refine DL.y rfl rfl (Y.assign) ?_
      refine DL.nil ?_
      show DC _ _ _ _ _ _
      refine DC.block ?_
      refine DC.loopE (σ := Nat) [(2, 2), (6, 6), (36, 48)] [(1, .pointer (some ⟨b1, 0, none⟩))] (fun q => [(6, .int .i64 (q : Int))]) (fun sg wl => Fr [] w7 wl ∧ (fun q wl => q ≤ list.length) sg wl) (fun q => list.length - q) (0) rfl ?_ ?_ ?_ ?_
      · exact rfl
      · exact rfl
      · exact ⟨Fr.refl _ _, Nat.zero_le _⟩
      · rintro e0 q j w13 ⟨f14, hq0⟩
        replace FR := FR.tr0 f14
        replace hR := hR.fr f14 (by intro x hx; simp <;> omega)
        replace hb1 := f14.blk0 hb1
        replace hi1 := Nat.lt_of_lt_of_le hi1 f14.size
        replace hst := hst.fr f14 (by intro b hb hb2 hm; first | (simp at hm; done) | (simp only [List.mem_singleton] at hm; omega))
        have G15 := f14
        have HG15 := Fr.refl [] w13
        refine DC.seq ?_
        refine DC.seq ?_
        refine DC.region ?_
        refine DL.y rfl rfl (Y.move) ?_
        refine DL.y rfl rfl (Y.field F.fd26_3 rfl) ?_
        refine DL.y rfl rfl (Y.loadB F.sc23 rfl hb1 rfl) ?_
        refine DL.y rfl rfl (Y.lenS Tryz.underlying23 rfl) ?_
        refine DL.if rfl rfl (Y.lt rfl rfl) (fun c40 => ?_) (fun c40 => ?_)
        · have hq : q < list.length := by omega
          obtain ⟨ba, oa, cl, rfl, hba, hcl, hcs1, hRi⟩ := hR.elem hq
          refine DL.nil ?_
          show DC _ _ _ _ _ _
          refine DC.condT rfl ?_
          refine DC.skip ?_
          show DC _ _ _ _ _ _
          refine DC.seq ?_
          refine DC.block ?_
          refine DC.seq ?_
          refine DC.region ?_
          refine DL.y rfl rfl (Y.field F.fd26_3 rfl) ?_
          refine DL.y rfl rfl (Y.loadB F.sc23 rfl hb1 rfl) ?_
          refine DL.y rfl rfl (Y.move) ?_
          refine DL.y rfl rfl (Y.index F.sl23 rfl rfl (rfl) (hq)) ?_
          refine DL.y rfl rfl (Y.loadAn hcs1 F.ag26 rfl hcl) ?_
          refine DL.call rfl rfl F.nm14 rfl (ih _ _ B _ (by have := nodes_le hq; omega) (by have := nodes_le hq; omega) (hgl q hq) hRi (by have := FR.size; omega)) ?_
          rintro _ w16 f17 ⟨r, rfl⟩
          replace FR := FR.tr0 f17
          replace G15 := G15.tr0 f17
          replace HG15 := HG15.tr0 f17
          replace hR := hR.fr f17 (by intro x hx; simp <;> omega)
          replace hb1 := f17.blk0 hb1
          replace hi1 := Nat.lt_of_lt_of_le hi1 f17.size
          replace hst := hst.fr f17 (by intro b hb hb2 hm; first | (simp at hm; done) | (simp only [List.mem_singleton] at hm; omega))
          refine (Bool.eq_false_or_eq_true r).elim (fun hr => ?_) (fun hr => ?_)
          · subst hr
            refine DL.nil ?_
            show DC _ _ _ _ _ _
            refine DC.condT rfl ?_
            refine DC.seq ?_
            refine DC.region ?_
            refine DL.y rfl rfl (Y.assign) ?_
            refine DL.nil ?_
            show DC _ _ _ _ _ _
            refine DC.ret ?_
            exact FinQ.ret1 rfl (Ret.mk FR ⟨_, rfl⟩)
          · subst hr
            refine DL.nil ?_
            show DC _ _ _ _ _ _
            refine DC.condF rfl ?_
            refine DC.skip ?_
            show DC _ _ _ _ _ _
            refine DC.region ?_
            refine DL.y rfl rfl (Y.move) ?_
            refine DL.y rfl rfl (Y.addI (c := ((q + 1 : Nat) : Int)) rfl rfl (by omega) (by omega) (by omega)) ?_
            refine DL.y rfl rfl (Y.assign) ?_
            refine DL.nil ?_
            exact ⟨q + 1, ⟨G15, by omega⟩, by show list.length - (q + 1) < list.length - q; omega, rfl⟩
        · refine DL.nil ?_
          show DC _ _ _ _ _ _
          refine DC.condF rfl ?_
          refine DC.exit ?_
          show DC _ _ _ _ _ _
          refine DC.seq ?_
          refine DC.seq ?_
          refine DC.region ?_
          refine DL.y rfl rfl (Y.assign) ?_
          refine DL.nil ?_
          show DC _ _ _ _ _ _
          refine DC.block ?_
          refine DC.loopE (σ := Nat) [(2, 2), (7, 7), (49, 61)] [(1, .pointer (some ⟨b1, 0, none⟩))] (fun q => [(7, .int .i64 (q : Int))]) (fun sg wl => Fr [] w13 wl ∧ (fun q wl => q ≤ vals.length) sg wl) (fun q => vals.length - q) (0) rfl ?_ ?_ ?_ ?_
          · exact rfl
          · exact rfl
          · exact ⟨Fr.refl _ _, Nat.zero_le _⟩
          · rintro e0 q j w18 ⟨f19, hq0⟩
            replace FR := FR.tr0 f19
            replace hR := hR.fr f19 (by intro x hx; simp <;> omega)
            replace hb1 := f19.blk0 hb1
            replace hi1 := Nat.lt_of_lt_of_le hi1 f19.size
            replace hst := hst.fr f19 (by intro b hb hb2 hm; first | (simp at hm; done) | (simp only [List.mem_singleton] at hm; omega))
            have G20 := f19
            have HG20 := Fr.refl [] w18
            refine DC.seq ?_
            refine DC.seq ?_
            refine DC.region ?_
            refine DL.y rfl rfl (Y.move) ?_
            refine DL.y rfl rfl (Y.field F.fd26_5 rfl) ?_
            refine DL.y rfl rfl (Y.loadB F.sc23 rfl hb1 rfl) ?_
            refine DL.y rfl rfl (Y.lenS Tryz.underlying23 rfl) ?_
            refine DL.if rfl rfl (Y.lt rfl rfl) (fun c53 => ?_) (fun c53 => ?_)
            · have hq : q < vals.length := by omega
              obtain ⟨ba, oa, cl, rfl, hba, hcl, hcs1, hRi⟩ := hR.valAt hq
              refine DL.nil ?_
              show DC _ _ _ _ _ _
              refine DC.condT rfl ?_
              refine DC.skip ?_
              show DC _ _ _ _ _ _
              refine DC.seq ?_
              refine DC.block ?_
              refine DC.seq ?_
              refine DC.region ?_
              refine DL.y rfl rfl (Y.field F.fd26_5 rfl) ?_
              refine DL.y rfl rfl (Y.loadB F.sc23 rfl hb1 rfl) ?_
              refine DL.y rfl rfl (Y.move) ?_
              refine DL.y rfl rfl (Y.index F.sl23 rfl rfl (rfl) (hq)) ?_
              refine DL.y rfl rfl (Y.loadAn hcs1 F.ag26 rfl hcl) ?_
              refine DL.call rfl rfl F.nm14 rfl (ih _ _ B _ (by have := nodes_le hq; omega) (by have := nodes_le hq; omega) (hgv q hq) hRi (by have := FR.size; omega)) ?_
              rintro _ w21 f22 ⟨r, rfl⟩
              replace FR := FR.tr0 f22
              replace G20 := G20.tr0 f22
              replace HG20 := HG20.tr0 f22
              replace hR := hR.fr f22 (by intro x hx; simp <;> omega)
              replace hb1 := f22.blk0 hb1
              replace hi1 := Nat.lt_of_lt_of_le hi1 f22.size
              replace hst := hst.fr f22 (by intro b hb hb2 hm; first | (simp at hm; done) | (simp only [List.mem_singleton] at hm; omega))
              refine (Bool.eq_false_or_eq_true r).elim (fun hr => ?_) (fun hr => ?_)
              · subst hr
                refine DL.nil ?_
                show DC _ _ _ _ _ _
                refine DC.condT rfl ?_
                refine DC.seq ?_
                refine DC.region ?_
                refine DL.y rfl rfl (Y.assign) ?_
                refine DL.nil ?_
                show DC _ _ _ _ _ _
                refine DC.ret ?_
                exact FinQ.ret1 rfl (Ret.mk FR ⟨_, rfl⟩)
              · subst hr
                refine DL.nil ?_
                show DC _ _ _ _ _ _
                refine DC.condF rfl ?_
                refine DC.skip ?_
                show DC _ _ _ _ _ _
                refine DC.region ?_
                refine DL.y rfl rfl (Y.move) ?_
                refine DL.y rfl rfl (Y.addI (c := ((q + 1 : Nat) : Int)) rfl rfl (by omega) (by omega) (by omega)) ?_
                refine DL.y rfl rfl (Y.assign) ?_
                refine DL.nil ?_
                exact ⟨q + 1, ⟨G20, by omega⟩, by show vals.length - (q + 1) < vals.length - q; omega, rfl⟩
            · refine DL.nil ?_
              show DC _ _ _ _ _ _
              refine DC.condF rfl ?_
              refine DC.exit ?_
              show DC _ _ _ _ _ _
              refine DC.seq ?_
              refine DC.region ?_
              refine DL.y rfl rfl (Y.assign) ?_
              refine DL.nil ?_
              show DC _ _ _ _ _ _
              refine DC.ret ?_
              exact FinQ.ret1 rfl (Ret.mk FR ⟨_, rfl⟩)


theorem control_any : ∀ m, CtlC m
  | 0 => fun v cs B w hm => by have := nodes_pos v; omega
  | m + 1 => control_step m (control_any m)

end Go.Proofs.YtmbleojlnaofjaaGreatDoor

/- Texts and null: from a value to the program's own and back. -/
namespace Go.Proofs.YtmbleojlnaofjaaGreatDoor
open Go Go.RowKit D
set_option linter.unusedVariables false
set_option linter.unusedSimpArgs false


/-- A text, null, as the laws hand them about. -/
def strC (s : ByteArray) : Array Value := #[.int .i64 4, .int .i64 0, .string s, .slice none 0 0, .slice none 0 0, .slice none 0 0]
def nulC : Array Value := #[.int .i64 0, .int .i64 0, .string ⟨#[]⟩, .slice none 0 0, .slice none 0 0, .slice none 0 0]
def strR (s : ByteArray) : Array Value := #[.int .i64 4, .int .i64 0, .string s, .slice none 0 0, .slice none 0 0, .slice none 0 0, .int .i64 0]
def nulR : Array Value := #[.int .i64 0, .int .i64 0, .string ⟨#[]⟩, .slice none 0 0, .slice none 0 0, .slice none 0 0, .int .i64 0]
def strV (s : ByteArray) : V := .mk 4 0 s [] [] []
def nulV : V := .mk 0 0 ⟨#[]⟩ [] [] []
theorem strRV (w : World) (B : Nat) (s : ByteArray) (h : s.size ≤ 140737488351232) : RV w B (strV s) (strC s) :=
  .mk (fun _ => #[]) (fun _ => #[]) (by omega) (by omega) h (by simp) (by simp) (by simp) (by simp) (fun i hi => absurd hi (by simp)) (fun i hi => absurd hi (by simp)) (fun i hi => absurd hi (by simp)) (fun i hi => absurd hi (by simp)) (fun i hi => absurd hi (by simp))
theorem nulRV (w : World) (B : Nat) : RV w B nulV nulC :=
  .mk (fun _ => #[]) (fun _ => #[]) (by omega) (by omega) (by decide) (by simp) (by simp) (by simp) (by simp) (fun i hi => absurd hi (by simp)) (fun i hi => absurd hi (by simp)) (fun i hi => absurd hi (by simp)) (fun i hi => absurd hi (by simp)) (fun i hi => absurd hi (by simp))

theorem Str_any (s : ByteArray) (w : World) : Calls Tryz.prog 16 #[.string s] w (Ret w [] fun v _ => v = .agg (strC s)) := by
  refine calls_of Tryz.func16 rfl rfl rfl rfl ?_
  have FR := Fr.refl [] w
  refine DC.seq ?_
  refine DC.region ?_
  refine DL.alloc rfl rfl F.z26 rfl ?_
  intro b2 w1 f2 lo2 hi2 hb2
  replace lo2 := Nat.le_trans FR.size lo2
  replace FR := FR.tr0 f2
  refine DL.nil ?_
  show DC _ _ _ _ _ _
  refine DC.seq ?_
  refine DC.region ?_
  refine DL.y rfl rfl (Y.move) ?_
  refine DL.y rfl rfl (Y.build (cs := strC s) (by kernel_rfl)) ?_
  refine DL.storeA rfl F.ag26 rfl rfl rfl (by kernel_rfl) hb2 rfl ?_
  intro w3 f4 hs5 hb2'
  replace FR := FR.put f4 (by intro i hi; simp only [List.mem_cons, List.mem_singleton, List.not_mem_nil, or_false] at hi; rcases hi with rfl; all_goals (first | (left; simp; done) | (right; omega)))
  replace hi2 := Nat.lt_of_lt_of_le hi2 f4.size
  replace hb2 := hb2'
  refine DL.nil ?_
  show DC _ _ _ _ _ _
  refine DC.ret ?_
  exact FinQ.retC rfl (cs := strC s) F.ag26 (.ofBlk hb2) (Ret.mk FR rfl)

theorem toGo_txt (s : ByteArray) (w : World) : Calls Tryz.prog 36 #[.agg (strC s)] w (Ret w [] fun v _ => v = .tuple #[.iface 9 (.string s), .bool true]) := by
  refine calls_of Tryz.func36 rfl rfl rfl rfl ?_
  have FR := Fr.refl [] w
  refine DC.seq ?_
  refine DC.region ?_
  refine DL.boxA rfl rfl rfl ?_
  intro b1 w1 f2 lo1 hi1 hb1
  replace lo1 := Nat.le_trans FR.size lo1
  replace FR := FR.tr0 f2
  refine DL.y rfl rfl (Y.assign) ?_
  refine DL.y rfl rfl (Y.assign) ?_
  refine DL.nil ?_
  show DC _ _ _ _ _ _
  refine DC.seq ?_
  refine DC.seq ?_
  refine DC.region ?_
  refine DL.y rfl rfl (Y.field F.fd26_0 rfl) ?_
  refine DL.y rfl rfl (Y.loadB F.sc22 rfl hb1 rfl) ?_
  refine DL.nil ?_
  show DC _ _ _ _ _ _
  refine DC.block ?_
  refine DC.seq ?_
  refine DC.region ?_
  refine DL.if rfl rfl (Y.eq rfl rfl) (fun c7 => ?_) (fun c7 => ?_)
  · exfalso; omega
  · refine DL.y rfl rfl (Y.assign) ?_
    refine DL.nil ?_
    show DC _ _ _ _ _ _
    refine DC.condF rfl ?_
    refine DC.seq ?_
    refine DC.region ?_
    refine DL.if rfl rfl (Y.eq rfl rfl) (fun c9 => ?_) (fun c9 => ?_)
    · exfalso; omega
    · refine DL.y rfl rfl (Y.assign) ?_
      refine DL.nil ?_
      show DC _ _ _ _ _ _
      refine DC.condF rfl ?_
      refine DC.seq ?_
      refine DC.region ?_
      refine DL.if rfl rfl (Y.eq rfl rfl) (fun c12 => ?_) (fun c12 => ?_)
      · exfalso; omega
      · refine DL.y rfl rfl (Y.assign) ?_
        refine DL.nil ?_
        show DC _ _ _ _ _ _
        refine DC.condF rfl ?_
        refine DC.seq ?_
        refine DC.region ?_
        refine DL.if rfl rfl (Y.eq rfl rfl) (fun c15 => ?_) (fun c15 => ?_)
        · exfalso; omega
        · refine DL.y rfl rfl (Y.assign) ?_
          refine DL.nil ?_
          show DC _ _ _ _ _ _
          refine DC.condF rfl ?_
          refine DC.seq ?_
          refine DC.region ?_
          refine DL.if rfl rfl (Y.eq rfl rfl) (fun c30 => ?_) (fun c30 => ?_)
          · refine DL.y rfl rfl (Y.assign) ?_
            refine DL.nil ?_
            show DC _ _ _ _ _ _
            refine DC.condT rfl ?_
            refine DC.seq ?_
            refine DC.region ?_
            refine DL.y rfl rfl (Y.field F.fd26_2 rfl) ?_
            refine DL.y rfl rfl (Y.loadB F.sc9 rfl hb1 rfl) ?_
            refine DL.y rfl rfl (Y.mkI F.if9) ?_
            refine DL.y rfl rfl (Y.assign) ?_
            refine DL.y rfl rfl (Y.assign) ?_
            refine DL.nil ?_
            show DC _ _ _ _ _ _
            refine DC.ret ?_
            exact FinQ.ret2 rfl rfl (Ret.mk FR rfl)
          · exfalso; omega

theorem fromGo_txt (s : ByteArray) (w : World) : Calls Tryz.prog 72 #[.iface 9 (.string s)] w (Ret w [] fun v _ => v = .tuple #[.agg (strC s), .bool true]) := by
  refine calls_of Tryz.func72 rfl rfl rfl rfl ?_
  have FR := Fr.refl [] w
  refine DC.seq ?_
  refine DC.region ?_
  refine DL.alloc rfl rfl F.z26 rfl ?_
  intro b2 w1 f2 lo2 hi2 hb2
  replace lo2 := Nat.le_trans FR.size lo2
  replace FR := FR.tr0 f2
  refine DL.y rfl rfl (Y.assign) ?_
  refine DL.nil ?_
  show DC _ _ _ _ _ _
  refine DC.seq ?_
  refine DC.seq ?_
  refine DC.region ?_
  refine DL.y rfl rfl (Y.move) ?_
  refine DL.nil ?_
  show DC _ _ _ _ _ _
  refine DC.block ?_
  refine DC.seq ?_
  refine DC.region ?_
  refine DL.y rfl rfl (Y.eqNilI Tryz.underlying20 rfl) ?_
  refine DL.nil ?_
  show DC _ _ _ _ _ _
  refine DC.condF rfl ?_
  refine DC.seq ?_
  refine DC.region ?_
  refine DL.y rfl rfl (Y.asNo F.if4 F.z4 rfl rfl) ?_
  refine DL.y rfl rfl (Y.extract rfl rfl) ?_
  refine DL.y rfl rfl (Y.extract rfl rfl) ?_
  refine DL.nil ?_
  show DC _ _ _ _ _ _
  refine DC.condF rfl ?_
  refine DC.seq ?_
  refine DC.region ?_
  refine DL.y rfl rfl (Y.asNo F.if3 F.z3 rfl rfl) ?_
  refine DL.y rfl rfl (Y.extract rfl rfl) ?_
  refine DL.y rfl rfl (Y.extract rfl rfl) ?_
  refine DL.nil ?_
  show DC _ _ _ _ _ _
  refine DC.condF rfl ?_
  refine DC.seq ?_
  refine DC.region ?_
  refine DL.y rfl rfl (Y.asNo F.if79 F.z79 rfl rfl) ?_
  refine DL.y rfl rfl (Y.extract rfl rfl) ?_
  refine DL.y rfl rfl (Y.extract rfl rfl) ?_
  refine DL.nil ?_
  show DC _ _ _ _ _ _
  refine DC.condF rfl ?_
  refine DC.seq ?_
  refine DC.region ?_
  refine DL.y rfl rfl (Y.asYes F.if9 rfl) ?_
  refine DL.y rfl rfl (Y.extract rfl rfl) ?_
  refine DL.y rfl rfl (Y.extract rfl rfl) ?_
  refine DL.nil ?_
  show DC _ _ _ _ _ _
  refine DC.condT rfl ?_
  refine DC.seq ?_
  refine DC.region ?_
  refine DL.y rfl rfl (Y.assign) ?_
  refine DL.nil ?_
  show DC _ _ _ _ _ _
  refine DC.seq ?_
  refine DC.region ?_
  refine DL.y rfl rfl (Y.move) ?_
  refine DL.y rfl rfl (Y.build (cs := strC s) (by kernel_rfl)) ?_
  refine DL.storeA rfl F.ag26 rfl rfl rfl (by kernel_rfl) hb2 rfl ?_
  intro w3 f4 hs5 hb2'
  replace FR := FR.put f4 (by intro i hi; simp only [List.mem_cons, List.mem_singleton, List.not_mem_nil, or_false] at hi; rcases hi with rfl; all_goals (first | (left; simp; done) | (right; omega)))
  replace hi2 := Nat.lt_of_lt_of_le hi2 f4.size
  replace hb2 := hb2'
  refine DL.y rfl rfl (Y.assign) ?_
  refine DL.nil ?_
  show DC _ _ _ _ _ _
  refine DC.ret ?_
  exact FinQ.retCT rfl (cs := strC s) F.ag26 (.ofBlk hb2) rfl (Ret.mk FR rfl)

theorem fromGo_nil  (w : World) : Calls Tryz.prog 72 #[.nilIface] w (Ret w [] fun v _ => v = .tuple #[.agg (nulC), .bool true]) := by
  refine calls_of Tryz.func72 rfl rfl rfl rfl ?_
  have FR := Fr.refl [] w
  refine DC.seq ?_
  refine DC.region ?_
  refine DL.alloc rfl rfl F.z26 rfl ?_
  intro b2 w1 f2 lo2 hi2 hb2
  replace lo2 := Nat.le_trans FR.size lo2
  replace FR := FR.tr0 f2
  refine DL.y rfl rfl (Y.assign) ?_
  refine DL.nil ?_
  show DC _ _ _ _ _ _
  refine DC.seq ?_
  refine DC.seq ?_
  refine DC.region ?_
  refine DL.y rfl rfl (Y.move) ?_
  refine DL.nil ?_
  show DC _ _ _ _ _ _
  refine DC.block ?_
  refine DC.seq ?_
  refine DC.region ?_
  refine DL.y rfl rfl (Y.eqNilN Tryz.underlying20 rfl) ?_
  refine DL.nil ?_
  show DC _ _ _ _ _ _
  refine DC.condT rfl ?_
  refine DC.seq ?_
  refine DC.region ?_
  refine DL.y rfl rfl (Y.assign) ?_
  refine DL.nil ?_
  show DC _ _ _ _ _ _
  refine DC.seq ?_
  refine DC.region ?_
  refine DL.y rfl rfl (Y.build (cs := nulC) (by kernel_rfl)) ?_
  refine DL.storeA rfl F.ag26 rfl rfl rfl (by kernel_rfl) hb2 rfl ?_
  intro w3 f4 hs5 hb2'
  replace FR := FR.put f4 (by intro i hi; simp only [List.mem_cons, List.mem_singleton, List.not_mem_nil, or_false] at hi; rcases hi with rfl; all_goals (first | (left; simp; done) | (right; omega)))
  replace hi2 := Nat.lt_of_lt_of_le hi2 f4.size
  replace hb2 := hb2'
  refine DL.y rfl rfl (Y.assign) ?_
  refine DL.nil ?_
  show DC _ _ _ _ _ _
  refine DC.ret ?_
  exact FinQ.retCT rfl (cs := nulC) F.ag26 (.ofBlk hb2) rfl (Ret.mk FR rfl)

theorem result_txt (s : ByteArray) (w : World) : Calls Tryz.prog 37 #[.iface 9 (.string s)] w (Ret w [] fun v _ => v = .agg (strR s)) := by
  refine calls_of Tryz.func37 rfl rfl rfl rfl ?_
  have FR := Fr.refl [] w
  refine DC.seq ?_
  refine DC.region ?_
  refine DL.alloc rfl rfl F.z34 rfl ?_
  intro b2 w1 f2 lo2 hi2 hb2
  replace lo2 := Nat.le_trans FR.size lo2
  replace FR := FR.tr0 f2
  refine DL.nil ?_
  show DC _ _ _ _ _ _
  refine DC.seq ?_
  refine DC.seq ?_
  refine DC.region ?_
  refine DL.y rfl rfl (Y.move) ?_
  refine DL.y rfl rfl (Y.asIfNo (by kernel_rfl) F.z87 rfl) ?_
  refine DL.y rfl rfl (Y.move) ?_
  refine DL.y rfl rfl (Y.extract rfl rfl) ?_
  refine DL.y rfl rfl (Y.extract rfl rfl) ?_
  refine DL.y rfl rfl (Y.assign) ?_
  refine DL.y rfl rfl (Y.assign) ?_
  refine DL.nil ?_
  show DC _ _ _ _ _ _
  refine DC.seq ?_
  refine DC.region ?_
  refine DL.y rfl rfl (Y.move) ?_
  refine DL.nil ?_
  show DC _ _ _ _ _ _
  refine DC.condF rfl ?_
  refine DC.skip ?_
  show DC _ _ _ _ _ _
  refine DC.seq ?_
  refine DC.region ?_
  refine DL.y rfl rfl (Y.move) ?_
  refine DL.call rfl rfl F.nm72 rfl (fromGo_txt _ _) ?_
  rintro _ w3 f4 rfl
  replace FR := FR.tr0 f4
  replace hb2 := f4.blk0 hb2
  replace hi2 := Nat.lt_of_lt_of_le hi2 f4.size
  refine DL.y rfl rfl (Y.move) ?_
  refine DL.y rfl rfl (Y.extract rfl rfl) ?_
  refine DL.y rfl rfl (Y.extract rfl rfl) ?_
  refine DL.alloc rfl rfl F.z26 rfl ?_
  intro b5 w5 f6 lo5 hi5 hb5
  have lt_b2_b5 : b2 < b5 := Nat.lt_of_lt_of_le hi2 lo5
  replace lo5 := Nat.le_trans FR.size lo5
  replace FR := FR.tr0 f6
  replace hb2 := f6.blk0 hb2
  replace hi2 := Nat.lt_of_lt_of_le hi2 f6.size
  refine DL.storeA rfl F.ag26 rfl rfl rfl (by kernel_rfl) hb5 rfl ?_
  intro w7 f8 hs9 hb5'
  replace FR := FR.put f8 (by intro i hi; simp only [List.mem_cons, List.mem_singleton, List.not_mem_nil, or_false] at hi; rcases hi with rfl; all_goals (first | (left; simp; done) | (right; omega)))
  replace hb2 := f8.blk hb2 (by simp only [List.mem_cons, List.not_mem_nil, or_false, not_or]; omega)
  replace hi2 := Nat.lt_of_lt_of_le hi2 f8.size
  replace hi5 := Nat.lt_of_lt_of_le hi5 f8.size
  replace hb5 := hb5'
  refine DL.y rfl rfl (Y.assign) ?_
  refine DL.nil ?_
  show DC _ _ _ _ _ _
  refine DC.seq ?_
  refine DC.seq ?_
  refine DC.region ?_
  refine DL.y rfl rfl (Y.move) ?_
  refine DL.y rfl rfl (Y.not rfl) ?_
  refine DL.nil ?_
  show DC _ _ _ _ _ _
  refine DC.condF rfl ?_
  refine DC.skip ?_
  show DC _ _ _ _ _ _
  refine DC.seq ?_
  refine DC.region ?_
  refine DL.y rfl rfl (Y.loadW rfl hb5 F.ag26) ?_
  refine DL.y rfl rfl (Y.build (cs := strR s) (by kernel_rfl)) ?_
  refine DL.storeA rfl F.ag34 rfl rfl rfl (by kernel_rfl) hb2 rfl ?_
  intro w10 f11 hs12 hb2'
  replace FR := FR.put f11 (by intro i hi; simp only [List.mem_cons, List.mem_singleton, List.not_mem_nil, or_false] at hi; rcases hi with rfl; all_goals (first | (left; simp; done) | (right; omega)))
  replace hi2 := Nat.lt_of_lt_of_le hi2 f11.size
  replace hi5 := Nat.lt_of_lt_of_le hi5 f11.size
  replace hb5 := f11.blk hb5 (by simp only [List.mem_cons, List.not_mem_nil, or_false, not_or]; omega)
  replace hb2 := hb2'
  refine DL.nil ?_
  show DC _ _ _ _ _ _
  refine DC.ret ?_
  exact FinQ.retC rfl (cs := strR s) F.ag34 (.ofBlk hb2) (Ret.mk FR rfl)

theorem result_nil  (w : World) : Calls Tryz.prog 37 #[.nilIface] w (Ret w [] fun v _ => v = .agg (nulR)) := by
  refine calls_of Tryz.func37 rfl rfl rfl rfl ?_
  have FR := Fr.refl [] w
  refine DC.seq ?_
  refine DC.region ?_
  refine DL.alloc rfl rfl F.z34 rfl ?_
  intro b2 w1 f2 lo2 hi2 hb2
  replace lo2 := Nat.le_trans FR.size lo2
  replace FR := FR.tr0 f2
  refine DL.nil ?_
  show DC _ _ _ _ _ _
  refine DC.seq ?_
  refine DC.seq ?_
  refine DC.region ?_
  refine DL.y rfl rfl (Y.move) ?_
  refine DL.y rfl rfl (Y.asIfNil (by kernel_rfl) F.z87 rfl) ?_
  refine DL.y rfl rfl (Y.move) ?_
  refine DL.y rfl rfl (Y.extract rfl rfl) ?_
  refine DL.y rfl rfl (Y.extract rfl rfl) ?_
  refine DL.y rfl rfl (Y.assign) ?_
  refine DL.y rfl rfl (Y.assign) ?_
  refine DL.nil ?_
  show DC _ _ _ _ _ _
  refine DC.seq ?_
  refine DC.region ?_
  refine DL.y rfl rfl (Y.move) ?_
  refine DL.nil ?_
  show DC _ _ _ _ _ _
  refine DC.condF rfl ?_
  refine DC.skip ?_
  show DC _ _ _ _ _ _
  refine DC.seq ?_
  refine DC.region ?_
  refine DL.y rfl rfl (Y.move) ?_
  refine DL.call rfl rfl F.nm72 rfl (fromGo_nil  _) ?_
  rintro _ w3 f4 rfl
  replace FR := FR.tr0 f4
  replace hb2 := f4.blk0 hb2
  replace hi2 := Nat.lt_of_lt_of_le hi2 f4.size
  refine DL.y rfl rfl (Y.move) ?_
  refine DL.y rfl rfl (Y.extract rfl rfl) ?_
  refine DL.y rfl rfl (Y.extract rfl rfl) ?_
  refine DL.alloc rfl rfl F.z26 rfl ?_
  intro b5 w5 f6 lo5 hi5 hb5
  have lt_b2_b5 : b2 < b5 := Nat.lt_of_lt_of_le hi2 lo5
  replace lo5 := Nat.le_trans FR.size lo5
  replace FR := FR.tr0 f6
  replace hb2 := f6.blk0 hb2
  replace hi2 := Nat.lt_of_lt_of_le hi2 f6.size
  refine DL.storeA rfl F.ag26 rfl rfl rfl (by kernel_rfl) hb5 rfl ?_
  intro w7 f8 hs9 hb5'
  replace FR := FR.put f8 (by intro i hi; simp only [List.mem_cons, List.mem_singleton, List.not_mem_nil, or_false] at hi; rcases hi with rfl; all_goals (first | (left; simp; done) | (right; omega)))
  replace hb2 := f8.blk hb2 (by simp only [List.mem_cons, List.not_mem_nil, or_false, not_or]; omega)
  replace hi2 := Nat.lt_of_lt_of_le hi2 f8.size
  replace hi5 := Nat.lt_of_lt_of_le hi5 f8.size
  replace hb5 := hb5'
  refine DL.y rfl rfl (Y.assign) ?_
  refine DL.nil ?_
  show DC _ _ _ _ _ _
  refine DC.seq ?_
  refine DC.seq ?_
  refine DC.region ?_
  refine DL.y rfl rfl (Y.move) ?_
  refine DL.y rfl rfl (Y.not rfl) ?_
  refine DL.nil ?_
  show DC _ _ _ _ _ _
  refine DC.condF rfl ?_
  refine DC.skip ?_
  show DC _ _ _ _ _ _
  refine DC.seq ?_
  refine DC.region ?_
  refine DL.y rfl rfl (Y.loadW rfl hb5 F.ag26) ?_
  refine DL.y rfl rfl (Y.build (cs := nulR) (by kernel_rfl)) ?_
  refine DL.storeA rfl F.ag34 rfl rfl rfl (by kernel_rfl) hb2 rfl ?_
  intro w10 f11 hs12 hb2'
  replace FR := FR.put f11 (by intro i hi; simp only [List.mem_cons, List.mem_singleton, List.not_mem_nil, or_false] at hi; rcases hi with rfl; all_goals (first | (left; simp; done) | (right; omega)))
  replace hi2 := Nat.lt_of_lt_of_le hi2 f11.size
  replace hi5 := Nat.lt_of_lt_of_le hi5 f11.size
  replace hb5 := f11.blk hb5 (by simp only [List.mem_cons, List.not_mem_nil, or_false, not_or]; omega)
  replace hb2 := hb2'
  refine DL.nil ?_
  show DC _ _ _ _ _ _
  refine DC.ret ?_
  exact FinQ.retC rfl (cs := nulR) F.ag34 (.ofBlk hb2) (Ret.mk FR rfl)

theorem told_any (v : V) (c0 c1 c2 c3 c4 c5 : Value) (cb : Array Value) (B : Nat) (w : World) (hA : RV w B v #[c0, c1, c2, c3, c4, c5]) (hB : RV w B v cb) :
    Calls Tryz.prog 10 #[.agg #[c0, c1, c2, c3, c4, c5, .int .i64 0], .agg cb, .int .i64 0] w (Ret w [] fun r _ => r = .bool true) := by
  have sb := hB.size
  obtain ⟨kind, half, text, list, keys, vals⟩ := v
  obtain ⟨lb, ld, kb, kd, vb, vd, rfl⟩ := hB.shape
  refine calls_of Tryz.func10 rfl rfl rfl rfl ?_
  have FR := Fr.refl [] w
  refine DC.seq ?_
  refine DC.region ?_
  refine DL.boxA rfl rfl rfl ?_
  intro b3 w1 f2 lo3 hi3 hb3
  replace lo3 := Nat.le_trans FR.size lo3
  replace FR := FR.tr0 f2
  replace hA := hA.fr f2 (by intro x hx; simp <;> omega)
  replace hB := hB.fr f2 (by intro x hx; simp <;> omega)
  refine DL.boxA rfl rfl rfl ?_
  intro b4 w3 f4 lo4 hi4 hb4
  have lt_b3_b4 : b3 < b4 := Nat.lt_of_lt_of_le hi3 lo4
  replace lo4 := Nat.le_trans FR.size lo4
  replace FR := FR.tr0 f4
  replace hA := hA.fr f4 (by intro x hx; simp <;> omega)
  replace hB := hB.fr f4 (by intro x hx; simp <;> omega)
  replace hb3 := f4.blk0 hb3
  replace hi3 := Nat.lt_of_lt_of_le hi3 f4.size
  refine DL.y rfl rfl (Y.assign) ?_
  refine DL.nil ?_
  show DC _ _ _ _ _ _
  refine DC.seq ?_
  refine DC.seq ?_
  refine DC.region ?_
  refine DL.y rfl rfl (Y.move) ?_
  refine DL.nil ?_
  show DC _ _ _ _ _ _
  refine DC.block ?_
  refine DC.seq ?_
  refine DC.region ?_
  refine DL.if rfl rfl (Y.eq rfl rfl) (fun c9 => ?_) (fun c9 => ?_)
  · exfalso; omega
  · refine DL.y rfl rfl (Y.assign) ?_
    refine DL.nil ?_
    show DC _ _ _ _ _ _
    refine DC.condF rfl ?_
    refine DC.seq ?_
    refine DC.region ?_
    refine DL.if rfl rfl (Y.eq rfl rfl) (fun c14 => ?_) (fun c14 => ?_)
    · refine DL.y rfl rfl (Y.assign) ?_
      refine DL.nil ?_
      show DC _ _ _ _ _ _
      refine DC.condT rfl ?_
      refine DC.seq ?_
      refine DC.region ?_
      refine DL.y rfl rfl (Y.field F.fd34_1 rfl) ?_
      refine DL.y rfl rfl (Y.loadB F.sc3 rfl hb3 rfl) ?_
      refine DL.if rfl rfl (Y.eq rfl rfl) (fun c17 => ?_) (fun c17 => ?_)
      · refine DL.y rfl rfl (Y.move) ?_
        refine DL.y rfl rfl (Y.field F.fd34_0 rfl) ?_
        refine DL.y rfl rfl (Y.loadPart (sub := #[c0, c1, c2, c3, c4, c5]) rfl hb3 rfl F.ag26) ?_
        refine DL.y rfl rfl (Y.loadW rfl hb4 F.ag26) ?_
        refine DL.call rfl rfl F.nm35 rfl (same_any _ _ _ B _ hA hB) ?_
        rintro _ w5 f6 rfl
        replace FR := FR.tr0 f6
        replace hA := hA.fr f6 (by intro x hx; simp <;> omega)
        replace hB := hB.fr f6 (by intro x hx; simp <;> omega)
        replace hb3 := f6.blk0 hb3
        replace hi3 := Nat.lt_of_lt_of_le hi3 f6.size
        replace hb4 := f6.blk0 hb4
        replace hi4 := Nat.lt_of_lt_of_le hi4 f6.size
        refine DL.y rfl rfl (Y.pickT rfl) ?_
        refine DL.y rfl rfl (Y.assign) ?_
        refine DL.nil ?_
        show DC _ _ _ _ _ _
        refine DC.ret ?_
        exact FinQ.ret1 rfl (Ret.mk FR rfl)
      · exfalso; omega
    · exfalso; omega

end Go.Proofs.YtmbleojlnaofjaaGreatDoor

/-
  DERIVED: THE SHELF's CONTRACTS AT THIS DUMP, IN PLAIN WORDS (tools/lay-plain.mjs out of 'TryzShelfStr.lean', which tools/lay-shelf.mjs wrote): THE SAME DECLARATIONS UNDER THE SAME NAMES: 'import', 'namespace', 'open', 'def', 'theorem' AND NOTHING ELSE: no command of the shelf's: FOR A HAND-IN. Each laying: the table of numbers ('.._ren') and one theorem, a field a fact of the dump's own or the kernel's comparison; each contract: ONE APPLICATION.
-/
namespace Go.Proofs
open Go.Shelf
def Tryz.laysStr_ren : Go.Shelf.Ren := ⟨fun | 169 => 156 | n => n, fun | 70 => 157 | 9 => 9 | 0 => 0 | 72 => 159 | 37 => 107 | 127 => 183 | 3 => 3 | 5 => 5 | n => n, fun | n => n⟩
theorem Tryz.laysStr : Go.Proofs.Lays.n169 Tryz.prog Tryz.laysStr_ren := {
  mixed := by kernel_rfl
  f169 := Tryz.func156.trans (congrArg some (by kernel_rfl))
  t0 := Tryz.underlying0
  a0 := Tryz.isAgg0
  z0 := Tryz.sizeOf0
  v0 := Tryz.zeroValue0
  t3 := Tryz.underlying3
  a3 := Tryz.isAgg3
  z3 := Tryz.sizeOf3
  v3 := Tryz.zeroValue3
  t9 := Tryz.underlying9
  a9 := Tryz.isAgg9
  z9 := Tryz.sizeOf9
  v9 := Tryz.zeroValue9
  t37 := Tryz.underlying107
  a37 := Tryz.isAgg107
  z37 := Tryz.sizeOf107
  v37 := Tryz.zeroValue107
  t70 := Tryz.underlying157
  a70 := Tryz.isAgg157
  z70 := Tryz.sizeOf157
  v70 := Tryz.zeroValue157
  t72 := Tryz.underlying159
  a72 := Tryz.isAgg159
  z72 := Tryz.sizeOf159
  v72 := Tryz.zeroValue159
  t127 := Tryz.underlying183
  a127 := Tryz.isAgg183
  z127 := Tryz.sizeOf183
  v127 := Tryz.zeroValue183 }
end Go.Proofs

/- The walks from jsonMarshal to impl.ToString. -/
namespace Go.Proofs.YtmbleojlnaofjaaGreatDoor
open Go Go.RowKit D Go.Deep Go.Proofs
set_option linter.unusedVariables false
set_option linter.unusedSimpArgs false


theorem strX : Builder.Extra Tryz.prog Tryz.laysStr_ren where
  sizeBuilder := by kernel_rfl
  liesBuilder := by kernel_rfl
  t5 := Tryz.underlying5
  a5 := Tryz.isAgg5
  z5 := Tryz.sizeOf5
  v5 := Tryz.zeroValue5
  infoByte := by kernel_rfl
  cellsByte := by kernel_rfl
  sizeByte := by kernel_rfl
  neB5 := by decide
theorem String_any {B b : Nat} {X : List Nat} {l : List UInt8} {w : World} (h : Bld w B b X l) (h0 : l ≠ []) : Calls Tryz.prog 156 #[.pointer (some ⟨b, 0, none⟩)] w (Ret w (List.range' B (w.heap.size - B)) fun r w' => r = .string ⟨l.toArray⟩) := by
  obtain ⟨p, v, hb, hp, ho, _⟩ := h.out
  have hne : v.ownBlock ≠ some b := fun e => own_ne_b ho hb (mem_ownL.2 e)
  have hB : Lib.IsBuilder 159 5 B b (Lib.byteCells l) w := by
    have key : ∀ p, w.heap[b]? = some (.cells #[p, v] 159 (0, 0)) → Lib.BuilderAt 159 5 B b p (Lib.byteCells l) w := fun p hb => ⟨h.lo, v, hb, by rw [Lib.byteCells_length]; exact ho, hne⟩
    rcases hp with rfl | rfl
    · exact Or.inl (key _ hb)
    · exact Or.inr (key _ hb)
  refine Calls.mono (Any.Builder_String Tryz.laysStr strX B b l w hB h0) fun e w' hh => ?_
  obtain ⟨rfl, hbl⟩ := hh
  exact Ret.mk ⟨hbl.os, hbl.tape, hbl.output, hbl.size, fun i hi hs => hbl.block i (by
    rcases Nat.lt_or_ge i B with h1 | h1
    · exact h1
    · exact absurd (List.mem_range'_1.2 ⟨h1, by omega⟩) hs)⟩ rfl
def encC (b : Nat) : Array Value := #[.iface 157 (.pointer (some ⟨b, 0, none⟩)), .int .u8 0, .int .u8 0, .int .u8 0, .int .u8 0, .int .u8 0, .int .u8 0, .int .u8 0, .int .u8 0, .int .u8 0, .int .u8 0, .int .u8 0, .int .u8 0, .int .u8 0, .int .u8 0, .int .u8 0, .int .u8 0, .int .u8 0, .int .u8 0, .int .u8 0, .int .u8 0, .int .u8 0, .int .u8 0, .int .u8 0, .int .u8 0, .int .u8 0, .int .u8 0, .int .u8 0, .int .u8 0, .int .u8 0, .int .u8 0, .int .u8 0, .int .u8 0, .int .u8 0, .int .u8 0, .int .u8 0, .int .u8 0, .int .u8 0, .int .u8 0, .int .u8 0, .int .u8 0, .int .u8 0, .int .u8 0, .int .u8 0, .int .u8 0, .int .u8 0, .int .u8 0, .int .u8 0, .int .u8 0, .int .u8 0, .int .u8 0, .int .u8 0, .int .u8 0, .int .u8 0, .int .u8 0, .int .u8 0, .int .u8 0, .int .u8 0, .int .u8 0, .int .u8 0, .int .u8 0, .int .u8 0, .int .u8 0, .int .u8 0, .int .u8 0]

theorem jsonMarshal_any (v : V) (x : Value) (B : Nat) (w : World) (hn : v.nodes ≤ 1000000) (hby : v.bytes ≤ 1000000) (hG : Good v) (hgv : GV w (· < B) v x) (hB : B ≤ w.heap.size) (h2 : 2 ≤ B) (hT : Tabs w) : Calls Tryz.prog 145 #[x] w (Ret w [] fun r w' => r = .string ⟨(jL v).toArray⟩) := by
  refine calls_of Tryz.func145 rfl rfl rfl rfl ?_
  have FR := Fr.refl [] w
  refine DC.seq ?_
  refine DC.region ?_
  refine DL.y rfl rfl (Y.assign) ?_
  refine DL.nil ?_
  show DC _ _ _ _ _ _
  refine DC.seq ?_
  refine DC.region ?_
  refine DL.alloc rfl rfl F.z159 rfl ?_
  intro b3 w1 f2 lo3 hi3 hb3
  replace lo3 := Nat.le_trans FR.size lo3
  replace FR := FR.tr0 f2
  replace hgv := hgv.fr f2 (by intro c hc hm; first | (simp at hm; done) | (simp only [List.mem_cons, List.mem_singleton, List.not_mem_nil, or_false] at hm; have : c < B := hc; omega))
  replace hT : Tabs w1 := hT.fr f2 (by intro c hc hm; first | (simp at hm; done) | (simp only [List.mem_cons, List.mem_singleton, List.not_mem_nil, or_false] at hm; omega))
  refine DL.nil ?_
  show DC _ _ _ _ _ _
  refine DC.seq ?_
  refine DC.region ?_
  refine DL.y rfl rfl (Y.mkI F.if157) ?_
  refine DL.y rfl rfl (Y.build (cs := encC b3) (by kernel_rfl)) ?_
  refine DL.boxA rfl rfl rfl ?_
  intro b6 w3 f4 lo6 hi6 hb6
  have lt_b3_b6 : b3 < b6 := Nat.lt_of_lt_of_le hi3 lo6
  replace lo6 := Nat.le_trans FR.size lo6
  replace FR := FR.tr0 f4
  replace hgv := hgv.fr f4 (by intro c hc hm; first | (simp at hm; done) | (simp only [List.mem_cons, List.mem_singleton, List.not_mem_nil, or_false] at hm; have : c < B := hc; omega))
  replace hT : Tabs w3 := hT.fr f4 (by intro c hc hm; first | (simp at hm; done) | (simp only [List.mem_cons, List.mem_singleton, List.not_mem_nil, or_false] at hm; omega))
  replace hb3 := f4.blk0 hb3
  replace hi3 := Nat.lt_of_lt_of_le hi3 f4.size
  refine DL.y rfl rfl (Y.move) ?_
  have hTw := hT
  have hXb : Bld w3 w.heap.size b3 [b3] [] := ⟨⟨_, _, hb3, Or.inl rfl, World.ownsRow_nil _ _ _ _, rfl⟩, lo3⟩
  have hE6 : ES w3 w.heap.size b6 b3 [b6, b3] [] := ⟨cell_of_blk hb6 rfl, ⟨_, hb6, rfl⟩, ⟨[b3], hXb, rfl, by simp only [List.mem_singleton]; omega⟩, lo6, by omega⟩
  refine DL.call rfl rfl F.nm155 rfl (encode_any 1000000 v x w.heap.size b6 b3 [b6, b3] [] _ hn (Nat.le_refl _) hby hG (hgv.mono (fun j hj => by have : j < B := hj; show j < w.heap.size; omega)) hE6 hT (by decide)) ?_
  rintro _ w5 f6 ⟨rfl, X8, hE8, hs8⟩
  replace FR := FR.put f6 (by intro i hi; simp only [List.mem_cons, List.mem_singleton, List.not_mem_nil, or_false] at hi; rcases hi with rfl | rfl; all_goals (first | (left; simp; done) | (right; omega)))
  replace hgv := hgv.fr f6 (by intro c hc hm; first | (simp at hm; done) | (simp only [List.mem_cons, List.mem_singleton, List.not_mem_nil, or_false] at hm; have : c < B := hc; omega))
  replace hT : Tabs w5 := hT.fr f6 (by intro c hc hm; first | (simp at hm; done) | (simp only [List.mem_cons, List.mem_singleton, List.not_mem_nil, or_false] at hm; omega))
  replace hi3 := Nat.lt_of_lt_of_le hi3 f6.size
  replace hi6 := Nat.lt_of_lt_of_le hi6 f6.size
  obtain ⟨Xb8, hB8, _, _⟩ := hE8.bld
  refine DL.nil ?_
  show DC _ _ _ _ _ _
  refine DC.seq ?_
  refine DC.region ?_
  refine DL.call rfl rfl F.nm156 rfl (String_any hB8 (by simpa using jL_ne v)) ?_
  rintro _ w7 f8 rfl
  replace FR := FR.put f8 (fun i hi => Or.inr (by have := (List.mem_range'_1.1 hi).1; omega))
  refine DL.y rfl rfl (Y.assign) ?_
  refine DL.nil ?_
  show DC _ _ _ _ _ _
  refine DC.ret ?_
  exact FinQ.ret1 rfl (Ret.mk FR rfl)

theorem funcToJSON_any (v : V) (x : Value) (B : Nat) (w : World) (hn : v.nodes ≤ 1000000) (hby : v.bytes ≤ 1000000) (hG : Good v) (hgv : GV w (· < B) v x) (hB : B ≤ w.heap.size) (h2 : 2 ≤ B) (hT : Tabs w) : Calls Tryz.prog 124 #[x] w (Ret w [] fun r w' => r = .iface 9 (.string ⟨(jL v).toArray⟩)) := by
  refine calls_of Tryz.func124 rfl rfl rfl rfl ?_
  have FR := Fr.refl [] w
  refine DC.seq ?_
  refine DC.region ?_
  refine DL.y rfl rfl (Y.assign) ?_
  refine DL.nil ?_
  show DC _ _ _ _ _ _
  refine DC.seq ?_
  refine DC.region ?_
  refine DL.y rfl rfl (Y.move) ?_
  refine DL.call rfl rfl F.nm145 rfl (jsonMarshal_any v x B _ hn hby hG hgv (by have := FR.size; omega) h2 hT) ?_
  rintro _ w1 f2 rfl
  replace FR := FR.tr0 f2
  refine DL.y rfl rfl (Y.mkI F.if9) ?_
  refine DL.y rfl rfl (Y.assign) ?_
  refine DL.nil ?_
  show DC _ _ _ _ _ _
  refine DC.ret ?_
  exact FinQ.ret1 rfl (Ret.mk FR rfl)


theorem GVtext {w : World} {D : Nat → Prop} {half : Int} {text : ByteArray} {list : List V} {keys : List ByteArray} {vals : List V} : True := trivial

theorem toString_nil (v : V)  (B : Nat) (w : World) (hn : v.nodes ≤ 1000000) (hby : v.bytes ≤ 1000000) (hG : Good v) (hgv : GV w (· < B) v (.nilIface)) (hB : B ≤ w.heap.size) (h2 : 2 ≤ B) (hT : Tabs w) : Calls Tryz.prog 76 #[.nilIface] w (Ret w [] fun r w' => r = .iface 9 (.string ⟨(jL v).toArray⟩)) := by
  refine calls_of Tryz.func76 rfl rfl rfl rfl ?_
  have FR := Fr.refl [] w
  refine DC.seq ?_
  refine DC.region ?_
  refine DL.y rfl rfl (Y.assign) ?_
  refine DL.nil ?_
  show DC _ _ _ _ _ _
  refine DC.seq ?_
  refine DC.seq ?_
  refine DC.region ?_
  refine DL.y rfl rfl (Y.move) ?_
  refine DL.y rfl rfl (Y.asNil F.if9 F.z9 rfl) ?_
  refine DL.y rfl rfl (Y.move) ?_
  refine DL.y rfl rfl (Y.extract rfl rfl) ?_
  refine DL.y rfl rfl (Y.extract rfl rfl) ?_
  refine DL.y rfl rfl (Y.assign) ?_
  refine DL.y rfl rfl (Y.assign) ?_
  refine DL.nil ?_
  show DC _ _ _ _ _ _
  refine DC.seq ?_
  refine DC.region ?_
  refine DL.y rfl rfl (Y.move) ?_
  refine DL.nil ?_
  show DC _ _ _ _ _ _
  refine DC.condF rfl ?_
  refine DC.skip ?_
  show DC _ _ _ _ _ _
  refine DC.seq ?_
  refine DC.region ?_
  refine DL.y rfl rfl (Y.move) ?_
  refine DL.call rfl rfl F.nm124 rfl (funcToJSON_any v (.nilIface) B _ hn hby hG hgv (by have := FR.size; omega) h2 hT) ?_
  rintro _ w1 f2 rfl
  replace FR := FR.tr0 f2
  refine DL.y rfl rfl (Y.assign) ?_
  refine DL.nil ?_
  show DC _ _ _ _ _ _
  refine DC.ret ?_
  exact FinQ.ret1 rfl (Ret.mk FR rfl)

theorem toString_bool (v : V) (q : Bool) (B : Nat) (w : World) (hn : v.nodes ≤ 1000000) (hby : v.bytes ≤ 1000000) (hG : Good v) (hgv : GV w (· < B) v (.iface 4 (.bool q))) (hB : B ≤ w.heap.size) (h2 : 2 ≤ B) (hT : Tabs w) : Calls Tryz.prog 76 #[.iface 4 (.bool q)] w (Ret w [] fun r w' => r = .iface 9 (.string ⟨(jL v).toArray⟩)) := by
  refine calls_of Tryz.func76 rfl rfl rfl rfl ?_
  have FR := Fr.refl [] w
  refine DC.seq ?_
  refine DC.region ?_
  refine DL.y rfl rfl (Y.assign) ?_
  refine DL.nil ?_
  show DC _ _ _ _ _ _
  refine DC.seq ?_
  refine DC.seq ?_
  refine DC.region ?_
  refine DL.y rfl rfl (Y.move) ?_
  refine DL.y rfl rfl (Y.asNo F.if9 F.z9 rfl rfl) ?_
  refine DL.y rfl rfl (Y.move) ?_
  refine DL.y rfl rfl (Y.extract rfl rfl) ?_
  refine DL.y rfl rfl (Y.extract rfl rfl) ?_
  refine DL.y rfl rfl (Y.assign) ?_
  refine DL.y rfl rfl (Y.assign) ?_
  refine DL.nil ?_
  show DC _ _ _ _ _ _
  refine DC.seq ?_
  refine DC.region ?_
  refine DL.y rfl rfl (Y.move) ?_
  refine DL.nil ?_
  show DC _ _ _ _ _ _
  refine DC.condF rfl ?_
  refine DC.skip ?_
  show DC _ _ _ _ _ _
  refine DC.seq ?_
  refine DC.region ?_
  refine DL.y rfl rfl (Y.move) ?_
  refine DL.call rfl rfl F.nm124 rfl (funcToJSON_any v (.iface 4 (.bool q)) B _ hn hby hG hgv (by have := FR.size; omega) h2 hT) ?_
  rintro _ w1 f2 rfl
  replace FR := FR.tr0 f2
  refine DL.y rfl rfl (Y.assign) ?_
  refine DL.nil ?_
  show DC _ _ _ _ _ _
  refine DC.ret ?_
  exact FinQ.ret1 rfl (Ret.mk FR rfl)

theorem toString_int (v : V) (z : Int) (B : Nat) (w : World) (hn : v.nodes ≤ 1000000) (hby : v.bytes ≤ 1000000) (hG : Good v) (hgv : GV w (· < B) v (.iface 3 (.int .i64 z))) (hB : B ≤ w.heap.size) (h2 : 2 ≤ B) (hT : Tabs w) : Calls Tryz.prog 76 #[.iface 3 (.int .i64 z)] w (Ret w [] fun r w' => r = .iface 9 (.string ⟨(jL v).toArray⟩)) := by
  refine calls_of Tryz.func76 rfl rfl rfl rfl ?_
  have FR := Fr.refl [] w
  refine DC.seq ?_
  refine DC.region ?_
  refine DL.y rfl rfl (Y.assign) ?_
  refine DL.nil ?_
  show DC _ _ _ _ _ _
  refine DC.seq ?_
  refine DC.seq ?_
  refine DC.region ?_
  refine DL.y rfl rfl (Y.move) ?_
  refine DL.y rfl rfl (Y.asNo F.if9 F.z9 rfl rfl) ?_
  refine DL.y rfl rfl (Y.move) ?_
  refine DL.y rfl rfl (Y.extract rfl rfl) ?_
  refine DL.y rfl rfl (Y.extract rfl rfl) ?_
  refine DL.y rfl rfl (Y.assign) ?_
  refine DL.y rfl rfl (Y.assign) ?_
  refine DL.nil ?_
  show DC _ _ _ _ _ _
  refine DC.seq ?_
  refine DC.region ?_
  refine DL.y rfl rfl (Y.move) ?_
  refine DL.nil ?_
  show DC _ _ _ _ _ _
  refine DC.condF rfl ?_
  refine DC.skip ?_
  show DC _ _ _ _ _ _
  refine DC.seq ?_
  refine DC.region ?_
  refine DL.y rfl rfl (Y.move) ?_
  refine DL.call rfl rfl F.nm124 rfl (funcToJSON_any v (.iface 3 (.int .i64 z)) B _ hn hby hG hgv (by have := FR.size; omega) h2 hT) ?_
  rintro _ w1 f2 rfl
  replace FR := FR.tr0 f2
  refine DL.y rfl rfl (Y.assign) ?_
  refine DL.nil ?_
  show DC _ _ _ _ _ _
  refine DC.ret ?_
  exact FinQ.ret1 rfl (Ret.mk FR rfl)

theorem toString_float (v : V) (z : Nat) (B : Nat) (w : World) (hn : v.nodes ≤ 1000000) (hby : v.bytes ≤ 1000000) (hG : Good v) (hgv : GV w (· < B) v (.iface 79 (.float .f64 z))) (hB : B ≤ w.heap.size) (h2 : 2 ≤ B) (hT : Tabs w) : Calls Tryz.prog 76 #[.iface 79 (.float .f64 z)] w (Ret w [] fun r w' => r = .iface 9 (.string ⟨(jL v).toArray⟩)) := by
  refine calls_of Tryz.func76 rfl rfl rfl rfl ?_
  have FR := Fr.refl [] w
  refine DC.seq ?_
  refine DC.region ?_
  refine DL.y rfl rfl (Y.assign) ?_
  refine DL.nil ?_
  show DC _ _ _ _ _ _
  refine DC.seq ?_
  refine DC.seq ?_
  refine DC.region ?_
  refine DL.y rfl rfl (Y.move) ?_
  refine DL.y rfl rfl (Y.asNo F.if9 F.z9 rfl rfl) ?_
  refine DL.y rfl rfl (Y.move) ?_
  refine DL.y rfl rfl (Y.extract rfl rfl) ?_
  refine DL.y rfl rfl (Y.extract rfl rfl) ?_
  refine DL.y rfl rfl (Y.assign) ?_
  refine DL.y rfl rfl (Y.assign) ?_
  refine DL.nil ?_
  show DC _ _ _ _ _ _
  refine DC.seq ?_
  refine DC.region ?_
  refine DL.y rfl rfl (Y.move) ?_
  refine DL.nil ?_
  show DC _ _ _ _ _ _
  refine DC.condF rfl ?_
  refine DC.skip ?_
  show DC _ _ _ _ _ _
  refine DC.seq ?_
  refine DC.region ?_
  refine DL.y rfl rfl (Y.move) ?_
  refine DL.call rfl rfl F.nm124 rfl (funcToJSON_any v (.iface 79 (.float .f64 z)) B _ hn hby hG hgv (by have := FR.size; omega) h2 hT) ?_
  rintro _ w1 f2 rfl
  replace FR := FR.tr0 f2
  refine DL.y rfl rfl (Y.assign) ?_
  refine DL.nil ?_
  show DC _ _ _ _ _ _
  refine DC.ret ?_
  exact FinQ.ret1 rfl (Ret.mk FR rfl)

theorem toString_list (v : V) (a : Option Addr) (n c : Nat) (B : Nat) (w : World) (hn : v.nodes ≤ 1000000) (hby : v.bytes ≤ 1000000) (hG : Good v) (hgv : GV w (· < B) v (.iface 80 (.slice a n c))) (hB : B ≤ w.heap.size) (h2 : 2 ≤ B) (hT : Tabs w) : Calls Tryz.prog 76 #[.iface 80 (.slice a n c)] w (Ret w [] fun r w' => r = .iface 9 (.string ⟨(jL v).toArray⟩)) := by
  refine calls_of Tryz.func76 rfl rfl rfl rfl ?_
  have FR := Fr.refl [] w
  refine DC.seq ?_
  refine DC.region ?_
  refine DL.y rfl rfl (Y.assign) ?_
  refine DL.nil ?_
  show DC _ _ _ _ _ _
  refine DC.seq ?_
  refine DC.seq ?_
  refine DC.region ?_
  refine DL.y rfl rfl (Y.move) ?_
  refine DL.y rfl rfl (Y.asNo F.if9 F.z9 rfl rfl) ?_
  refine DL.y rfl rfl (Y.move) ?_
  refine DL.y rfl rfl (Y.extract rfl rfl) ?_
  refine DL.y rfl rfl (Y.extract rfl rfl) ?_
  refine DL.y rfl rfl (Y.assign) ?_
  refine DL.y rfl rfl (Y.assign) ?_
  refine DL.nil ?_
  show DC _ _ _ _ _ _
  refine DC.seq ?_
  refine DC.region ?_
  refine DL.y rfl rfl (Y.move) ?_
  refine DL.nil ?_
  show DC _ _ _ _ _ _
  refine DC.condF rfl ?_
  refine DC.skip ?_
  show DC _ _ _ _ _ _
  refine DC.seq ?_
  refine DC.region ?_
  refine DL.y rfl rfl (Y.move) ?_
  refine DL.call rfl rfl F.nm124 rfl (funcToJSON_any v (.iface 80 (.slice a n c)) B _ hn hby hG hgv (by have := FR.size; omega) h2 hT) ?_
  rintro _ w1 f2 rfl
  replace FR := FR.tr0 f2
  refine DL.y rfl rfl (Y.assign) ?_
  refine DL.nil ?_
  show DC _ _ _ _ _ _
  refine DC.ret ?_
  exact FinQ.ret1 rfl (Ret.mk FR rfl)

theorem toString_map (v : V) (r : Option Nat) (B : Nat) (w : World) (hn : v.nodes ≤ 1000000) (hby : v.bytes ≤ 1000000) (hG : Good v) (hgv : GV w (· < B) v (.iface 83 (.map r))) (hB : B ≤ w.heap.size) (h2 : 2 ≤ B) (hT : Tabs w) : Calls Tryz.prog 76 #[.iface 83 (.map r)] w (Ret w [] fun r w' => r = .iface 9 (.string ⟨(jL v).toArray⟩)) := by
  refine calls_of Tryz.func76 rfl rfl rfl rfl ?_
  have FR := Fr.refl [] w
  refine DC.seq ?_
  refine DC.region ?_
  refine DL.y rfl rfl (Y.assign) ?_
  refine DL.nil ?_
  show DC _ _ _ _ _ _
  refine DC.seq ?_
  refine DC.seq ?_
  refine DC.region ?_
  refine DL.y rfl rfl (Y.move) ?_
  refine DL.y rfl rfl (Y.asNo F.if9 F.z9 rfl rfl) ?_
  refine DL.y rfl rfl (Y.move) ?_
  refine DL.y rfl rfl (Y.extract rfl rfl) ?_
  refine DL.y rfl rfl (Y.extract rfl rfl) ?_
  refine DL.y rfl rfl (Y.assign) ?_
  refine DL.y rfl rfl (Y.assign) ?_
  refine DL.nil ?_
  show DC _ _ _ _ _ _
  refine DC.seq ?_
  refine DC.region ?_
  refine DL.y rfl rfl (Y.move) ?_
  refine DL.nil ?_
  show DC _ _ _ _ _ _
  refine DC.condF rfl ?_
  refine DC.skip ?_
  show DC _ _ _ _ _ _
  refine DC.seq ?_
  refine DC.region ?_
  refine DL.y rfl rfl (Y.move) ?_
  refine DL.call rfl rfl F.nm124 rfl (funcToJSON_any v (.iface 83 (.map r)) B _ hn hby hG hgv (by have := FR.size; omega) h2 hT) ?_
  rintro _ w1 f2 rfl
  replace FR := FR.tr0 f2
  refine DL.y rfl rfl (Y.assign) ?_
  refine DL.nil ?_
  show DC _ _ _ _ _ _
  refine DC.ret ?_
  exact FinQ.ret1 rfl (Ret.mk FR rfl)

theorem toString_text (s : ByteArray) (w : World) : Calls Tryz.prog 76 #[.iface 9 (.string s)] w (Ret w [] fun r w' => r = .iface 9 (.string s)) := by
  refine calls_of Tryz.func76 rfl rfl rfl rfl ?_
  have FR := Fr.refl [] w
  refine DC.seq ?_
  refine DC.region ?_
  refine DL.y rfl rfl (Y.assign) ?_
  refine DL.nil ?_
  show DC _ _ _ _ _ _
  refine DC.seq ?_
  refine DC.seq ?_
  refine DC.region ?_
  refine DL.y rfl rfl (Y.move) ?_
  refine DL.y rfl rfl (Y.asYes F.if9 rfl) ?_
  refine DL.y rfl rfl (Y.move) ?_
  refine DL.y rfl rfl (Y.extract rfl rfl) ?_
  refine DL.y rfl rfl (Y.extract rfl rfl) ?_
  refine DL.y rfl rfl (Y.assign) ?_
  refine DL.y rfl rfl (Y.assign) ?_
  refine DL.nil ?_
  show DC _ _ _ _ _ _
  refine DC.seq ?_
  refine DC.region ?_
  refine DL.y rfl rfl (Y.move) ?_
  refine DL.nil ?_
  show DC _ _ _ _ _ _
  refine DC.condT rfl ?_
  refine DC.seq ?_
  refine DC.region ?_
  refine DL.y rfl rfl (Y.move) ?_
  refine DL.y rfl rfl (Y.mkI F.if9) ?_
  refine DL.y rfl rfl (Y.assign) ?_
  refine DL.nil ?_
  show DC _ _ _ _ _ _
  refine DC.ret ?_
  exact FinQ.ret1 rfl (Ret.mk FR rfl)


theorem funcToString_any (v : V) (x : Value) (B : Nat) (w : World) (hn : v.nodes ≤ 1000000) (hby : v.bytes ≤ 1000000) (hG : Good v) (hgv : GV w (· < B) v x) (hB : B ≤ w.heap.size) (h2 : 2 ≤ B) (hT : Tabs w) : Calls Tryz.prog 76 #[x] w (Ret w [] fun r w' => r = .iface 9 (.string ⟨(sL v).toArray⟩)) := by
  have key : sL v = jL v → (Calls Tryz.prog 76 #[x] w (Ret w [] fun r w' => r = .iface 9 (.string ⟨(jL v).toArray⟩))) → Calls Tryz.prog 76 #[x] w (Ret w [] fun r w' => r = .iface 9 (.string ⟨(sL v).toArray⟩)) := fun e h => by rw [e]; exact h
  have hgv' := hgv
  cases hgv with
  | null => exact key (by simp [sL]) (toString_nil _ B w hn hby hG hgv' hB h2 hT)
  | fls => exact key (by simp [sL]) (toString_bool _ false B w hn hby hG hgv' hB h2 hT)
  | tru => exact key (by simp [sL]) (toString_bool _ true B w hn hby hG hgv' hB h2 hT)
  | whole h => exact key (by simp [sL]) (toString_int _ _ B w hn hby hG hgv' hB h2 hT)
  | frac h => exact key (by simp [sL]) (toString_float _ _ B w hn hby hG hgv' hB h2 hT)
  | text =>
    rename_i half text list keys vals
    have e : (⟨(sL (.mk 4 half text list keys vals)).toArray⟩ : ByteArray) = text := by simp [sL]
    rw [e]
    exact toString_text _ w
  | list xs hr hx => exact key (by simp [sL]) (toString_list _ _ _ _ B w hn hby hG hgv' hB h2 hT)
  | map es xs hd hr hs he hx => exact key (by simp [sL]) (toString_map _ _ B w hn hby hG hgv' hB h2 hT)

theorem zzToString_any (v : V) (x : Value) (B : Nat) (w : World) (hn : v.nodes ≤ 1000000) (hby : v.bytes ≤ 1000000) (hG : Good v) (hgv : GV w (· < B) v x) (hB : B ≤ w.heap.size) (h2 : 2 ≤ B) (hT : Tabs w) : Calls Tryz.prog 40 #[x] w (Ret w [] fun r w' => r = .iface 9 (.string ⟨(sL v).toArray⟩)) := by
  refine calls_of Tryz.func40 rfl rfl rfl rfl ?_
  have FR := Fr.refl [] w
  refine DC.seq ?_
  refine DC.region ?_
  refine DL.y rfl rfl (Y.assign) ?_
  refine DL.nil ?_
  show DC _ _ _ _ _ _
  refine DC.seq ?_
  refine DC.region ?_
  refine DL.y rfl rfl (Y.move) ?_
  refine DL.call rfl rfl F.nm76 rfl (funcToString_any v x B _ hn hby hG hgv (by have := FR.size; omega) h2 hT) ?_
  rintro _ w1 f2 rfl
  replace FR := FR.tr0 f2
  refine DL.y rfl rfl (Y.assign) ?_
  refine DL.nil ?_
  show DC _ _ _ _ _ _
  refine DC.ret ?_
  exact FinQ.ret1 rfl (Ret.mk FR rfl)

theorem ToString_any (v : V) (cs : Array Value) (B : Nat) (w : World) (hn : v.nodes ≤ 1000000) (hby : v.bytes ≤ 1000000) (hG : Good v) (hR : RV w B v cs) (hB : B ≤ w.heap.size) (h2 : 2 ≤ B) (hT : Tabs w) : Calls Tryz.prog 15 #[.agg cs] w (Ret w [] fun r w' => r = .agg (strR ⟨(sL v).toArray⟩)) := by
  obtain ⟨v', hv'⟩ : ∃ v', v' = v := ⟨_, rfl⟩
  obtain ⟨kind, half, text, list, keys, vals⟩ := v
  obtain ⟨la, lc, ka, kc, va, vc, rfl⟩ := hR.shape
  rw [← hv'] at hn hby hG hR ⊢
  refine calls_of Tryz.func15 rfl rfl rfl rfl ?_
  have FR := Fr.refl [] w
  refine DC.seq ?_
  refine DC.region ?_
  refine DL.boxA rfl rfl rfl ?_
  intro b1 w1 f2 lo1 hi1 hb1
  replace lo1 := Nat.le_trans FR.size lo1
  replace FR := FR.tr0 f2
  replace hR := hR.fr f2 (by intro x hx; simp <;> omega)
  replace hT := hT.fr f2 (by intro x hx; simp <;> omega)
  refine DL.alloc rfl rfl F.z34 rfl ?_
  intro b2 w3 f4 lo2 hi2 hb2
  have lt_b1_b2 : b1 < b2 := Nat.lt_of_lt_of_le hi1 lo2
  replace lo2 := Nat.le_trans FR.size lo2
  replace FR := FR.tr0 f4
  replace hR := hR.fr f4 (by intro x hx; simp <;> omega)
  replace hT := hT.fr f4 (by intro x hx; simp <;> omega)
  replace hb1 := f4.blk0 hb1
  replace hi1 := Nat.lt_of_lt_of_le hi1 f4.size
  refine DL.nil ?_
  show DC _ _ _ _ _ _
  refine DC.seq ?_
  refine DC.region ?_
  refine DL.y rfl rfl (Y.loadW rfl hb1 F.ag26) ?_
  refine DL.call rfl rfl F.nm36 rfl (toGo_any _ v' _ B _ (Nat.le_refl _) hn hG hR (by have := FR.size; omega)) ?_
  rintro _ w5 f6 ⟨x, rfl, hgx⟩
  replace FR := FR.tr0 f6
  replace hR := hR.fr f6 (by intro x hx; simp <;> omega)
  replace hT := hT.fr f6 (by intro x hx; simp <;> omega)
  replace hb1 := f6.blk0 hb1
  replace hi1 := Nat.lt_of_lt_of_le hi1 f6.size
  replace hb2 := f6.blk0 hb2
  replace hi2 := Nat.lt_of_lt_of_le hi2 f6.size
  replace hgx := hgx.mono (D' := (· < w5.heap.size)) (fun j hj => hj.2)
  refine DL.y rfl rfl (Y.move) ?_
  refine DL.y rfl rfl (Y.extract rfl rfl) ?_
  refine DL.y rfl rfl (Y.extract rfl rfl) ?_
  refine DL.y rfl rfl (Y.assign) ?_
  refine DL.y rfl rfl (Y.assign) ?_
  refine DL.nil ?_
  show DC _ _ _ _ _ _
  refine DC.seq ?_
  refine DC.seq ?_
  refine DC.region ?_
  refine DL.y rfl rfl (Y.move) ?_
  refine DL.y rfl rfl (Y.not rfl) ?_
  refine DL.nil ?_
  show DC _ _ _ _ _ _
  refine DC.condF rfl ?_
  refine DC.skip ?_
  show DC _ _ _ _ _ _
  refine DC.seq ?_
  refine DC.region ?_
  refine DL.y rfl rfl (Y.move) ?_
  refine DL.call rfl rfl F.nm40 rfl (zzToString_any v' x _ _ hn hby hG hgx (Nat.le_refl _) (by have := FR.size; omega) hT) ?_
  rintro _ w7 f8 rfl
  replace FR := FR.tr0 f8
  replace hR := hR.fr f8 (by intro x hx; simp <;> omega)
  replace hT := hT.fr f8 (by intro x hx; simp <;> omega)
  replace hb1 := f8.blk0 hb1
  replace hi1 := Nat.lt_of_lt_of_le hi1 f8.size
  replace hb2 := f8.blk0 hb2
  replace hi2 := Nat.lt_of_lt_of_le hi2 f8.size
  refine DL.call rfl rfl F.nm37 rfl (result_txt _ _) ?_
  rintro _ w9 f10 rfl
  replace FR := FR.tr0 f10
  replace hR := hR.fr f10 (by intro x hx; simp <;> omega)
  replace hT := hT.fr f10 (by intro x hx; simp <;> omega)
  replace hb1 := f10.blk0 hb1
  replace hi1 := Nat.lt_of_lt_of_le hi1 f10.size
  replace hb2 := f10.blk0 hb2
  replace hi2 := Nat.lt_of_lt_of_le hi2 f10.size
  refine DL.storeA rfl F.ag34 rfl rfl rfl (by kernel_rfl) hb2 rfl ?_
  intro w11 f12 hs13 hb2'
  replace FR := FR.put f12 (by intro i hi; simp only [List.mem_cons, List.mem_singleton, List.not_mem_nil, or_false] at hi; rcases hi with rfl; all_goals (first | (left; simp; done) | (right; omega)))
  replace hR := hR.fr f12 (by intro x hx; simp <;> omega)
  replace hT := hT.fr f12 (by intro x hx; simp <;> omega)
  replace hb1 := f12.blk hb1 (by simp only [List.mem_cons, List.not_mem_nil, or_false, not_or]; omega)
  replace hi1 := Nat.lt_of_lt_of_le hi1 f12.size
  replace hi2 := Nat.lt_of_lt_of_le hi2 f12.size
  replace hb2 := hb2'
  refine DL.nil ?_
  show DC _ _ _ _ _ _
  refine DC.ret ?_
  exact FinQ.retC rfl (cs := strR ⟨(sL v').toArray⟩) F.ag34 (.ofBlk hb2) (Ret.mk FR rfl)

end Go.Proofs.YtmbleojlnaofjaaGreatDoor

/- The walk of laws.FnToString. -/
namespace Go.Proofs.YtmbleojlnaofjaaGreatDoor
open Go Go.RowKit D Go.Deep
set_option linter.unusedVariables false
set_option linter.unusedSimpArgs false

theorem fine_any (v : V) (cs : Array Value) (B bs : Nat) (w : World) (hR : RV w B v cs) (hB : B ≤ w.heap.size) (h2 : 2 ≤ B) (hT : Tabs w) (hbs : w.heap[bs]? = some (.cells cs 26 (0, 0))) :
    Calls Tryz.prog 12 #[.slice (some ⟨bs, 0, none⟩) 1 1] w (Ret w [] fun r _ => ∃ ok, r = .bool ok ∧ (ok = true → Good v ∧ v.nodes ≤ 400 ∧ v.bytes ≤ 2000)) := by
  have hbsl := lt_of_blk hbs
  have hcz := hR.size
  obtain ⟨kind, half, text, list, keys, vals⟩ := v
  obtain ⟨la, lc, ka, kc, va, vc, rfl⟩ := hR.shape
  refine calls_of Tryz.func12 rfl rfl rfl rfl ?_
  have FR := Fr.refl [] w
  refine DC.seq ?_
  refine DC.region ?_
  refine DL.y rfl rfl (Y.assign) ?_
  refine DL.nil ?_
  show DC _ _ _ _ _ _
  refine DC.seq ?_
  refine DC.seq ?_
  refine DC.region ?_
  refine DL.y rfl rfl (Y.assign) ?_
  refine DL.nil ?_
  show DC _ _ _ _ _ _
  refine DC.block ?_
  refine DC.loop (σ := Nat) [(2, 24)] (fun k => [(3, .int .i64 (k : Int))]) (fun sg wl => Fr [] w wl ∧ (fun k wl => k ≤ 1 ∧ (k = 1 → Good (.mk kind half text list keys vals) ∧ (V.mk kind half text list keys vals).nodes ≤ 400 ∧ (V.mk kind half text list keys vals).bytes ≤ 2000)) sg wl) (fun k => 1 - k) (0) rfl ?_ ?_ ?_
  · exact rfl
  · exact ⟨Fr.refl _ _, Nat.zero_le _, fun h => by omega⟩
  · rintro k j w1 ⟨f2, hk0, hgd⟩
    replace FR := FR.tr0 f2
    replace hR := hR.fr f2 (by intro x hx; simp <;> omega)
    replace hT := hT.fr f2 (by intro x hx; simp <;> omega)
    replace hbs := f2.blk0 hbs
    have G3 := f2
    have HG3 := Fr.refl [] w1
    refine DC.seq ?_
    refine DC.seq ?_
    refine DC.region ?_
    refine DL.y rfl rfl (Y.move) ?_
    refine DL.y rfl rfl (Y.move) ?_
    refine DL.y rfl rfl (Y.lenS Tryz.underlying23 rfl) ?_
    refine DL.if rfl rfl (Y.lt rfl rfl) (fun c7 => ?_) (fun c7 => ?_)
    · have hk : k < 1 := by omega
      obtain rfl : k = 0 := by omega
      refine DL.nil ?_
      show DC _ _ _ _ _ _
      refine DC.condT rfl ?_
      refine DC.skip ?_
      show DC _ _ _ _ _ _
      refine DC.seq ?_
      refine DC.block ?_
      refine DC.seq ?_
      refine DC.region ?_
      refine DL.y rfl rfl (Y.move) ?_
      refine DL.y rfl rfl (Y.move) ?_
      refine DL.y rfl rfl (Y.index F.sl23 rfl rfl (rfl) (hk)) ?_
      refine DL.y rfl rfl (Y.field F.fd26_2 rfl) ?_
      refine DL.y rfl rfl (Y.loadB F.sc9 rfl hbs rfl) ?_
      refine DL.y rfl rfl (Y.lenStr Tryz.underlying9 rfl) ?_
      refine DL.if rfl rfl (Y.gt rfl rfl) (fun c16 => ?_) (fun c16 => ?_)
      · refine DL.y rfl rfl (Y.move) ?_
        refine DL.skip rfl rfl ?_
        refine DL.skip rfl rfl ?_
        refine DL.skip rfl rfl ?_
        refine DL.skip rfl rfl ?_
        refine DL.skip rfl rfl ?_
        refine DL.skip rfl rfl ?_
        refine DL.y rfl rfl (Y.pickT rfl) ?_
        refine DL.nil ?_
        show DC _ _ _ _ _ _
        refine DC.condT rfl ?_
        refine DC.seq ?_
        refine DC.region ?_
        refine DL.y rfl rfl (Y.assign) ?_
        refine DL.nil ?_
        show DC _ _ _ _ _ _
        refine DC.ret ?_
        exact FinQ.ret1 rfl (Ret.mk FR ⟨false, rfl, fun h => by cases h⟩)
      · refine DL.y rfl rfl (Y.move) ?_
        refine DL.y rfl rfl (Y.move) ?_
        refine DL.y rfl rfl (Y.move) ?_
        refine DL.y rfl rfl (Y.index F.sl23 rfl rfl (rfl) (hk)) ?_
        refine DL.y rfl rfl (Y.loadAn hcz F.ag26 rfl (.ofBlk hbs)) ?_
        refine DL.call rfl rfl F.nm25 rfl (Fit_any _ _ B _ hR (by have := FR.size; omega) h2 hT) ?_
        rintro _ w4 f5 ⟨q, rfl, hqa⟩
        replace FR := FR.tr0 f5
        replace G3 := G3.tr0 f5
        replace HG3 := HG3.tr0 f5
        replace hR := hR.fr f5 (by intro x hx; simp <;> omega)
        replace hT := hT.fr f5 (by intro x hx; simp <;> omega)
        replace hbs := f5.blk0 hbs
        refine (Bool.eq_false_or_eq_true q).elim (fun hq => ?_) (fun hq => ?_)
        · subst hq
          refine DL.y rfl rfl (Y.not rfl) ?_
          refine DL.y rfl rfl (Y.pickF rfl) ?_
          refine DL.nil ?_
          show DC _ _ _ _ _ _
          refine DC.condF rfl ?_
          refine DC.skip ?_
          show DC _ _ _ _ _ _
          refine DC.region ?_
          refine DL.y rfl rfl (Y.move) ?_
          refine DL.y rfl rfl (Y.addI (c := ((0 + 1 : Nat) : Int)) rfl rfl (by omega) (by omega) (by omega)) ?_
          refine DL.y rfl rfl (Y.assign) ?_
          refine DL.nil ?_
          exact ⟨0 + 1, ⟨G3, by omega, fun _ => hqa rfl⟩, by show 1 - (0 + 1) < 1 - 0; omega, rfl⟩
        · subst hq
          refine DL.y rfl rfl (Y.not rfl) ?_
          refine DL.y rfl rfl (Y.pickF rfl) ?_
          refine DL.nil ?_
          show DC _ _ _ _ _ _
          refine DC.condT rfl ?_
          refine DC.seq ?_
          refine DC.region ?_
          refine DL.y rfl rfl (Y.assign) ?_
          refine DL.nil ?_
          show DC _ _ _ _ _ _
          refine DC.ret ?_
          exact FinQ.ret1 rfl (Ret.mk FR ⟨false, rfl, fun h => by cases h⟩)
    · refine DL.nil ?_
      show DC _ _ _ _ _ _
      refine DC.condF rfl ?_
      refine DC.exit ?_
      show DC _ _ _ _ _ _
      refine DC.seq ?_
      refine DC.region ?_
      refine DL.y rfl rfl (Y.assign) ?_
      refine DL.nil ?_
      show DC _ _ _ _ _ _
      refine DC.ret ?_
      exact FinQ.ret1 rfl (Ret.mk FR ⟨true, rfl, fun h => hgd (by omega)⟩)

theorem told_silent (c0 c1 c2 c3 c4 c5 c6 d0 d1 d2 d3 d4 d5 : Value) (w : World) :
    Calls Tryz.prog 10 #[.agg #[c0, c1, c2, c3, c4, c5, c6], .agg #[d0, d1, d2, d3, d4, d5], .int .i64 2] w (Ret w [] fun r _ => r = .bool true) := by
  refine calls_of Tryz.func10 rfl rfl rfl rfl ?_
  have FR := Fr.refl [] w
  refine DC.seq ?_
  refine DC.region ?_
  refine DL.boxA rfl rfl rfl ?_
  intro b3 w1 f2 lo3 hi3 hb3
  replace lo3 := Nat.le_trans FR.size lo3
  replace FR := FR.tr0 f2
  refine DL.boxA rfl rfl rfl ?_
  intro b4 w3 f4 lo4 hi4 hb4
  have lt_b3_b4 : b3 < b4 := Nat.lt_of_lt_of_le hi3 lo4
  replace lo4 := Nat.le_trans FR.size lo4
  replace FR := FR.tr0 f4
  replace hb3 := f4.blk0 hb3
  replace hi3 := Nat.lt_of_lt_of_le hi3 f4.size
  refine DL.y rfl rfl (Y.assign) ?_
  refine DL.nil ?_
  show DC _ _ _ _ _ _
  refine DC.seq ?_
  refine DC.seq ?_
  refine DC.region ?_
  refine DL.y rfl rfl (Y.move) ?_
  refine DL.nil ?_
  show DC _ _ _ _ _ _
  refine DC.block ?_
  refine DC.seq ?_
  refine DC.region ?_
  refine DL.if rfl rfl (Y.eq rfl rfl) (fun c9 => ?_) (fun c9 => ?_)
  · exfalso; omega
  · refine DL.y rfl rfl (Y.assign) ?_
    refine DL.nil ?_
    show DC _ _ _ _ _ _
    refine DC.condF rfl ?_
    refine DC.seq ?_
    refine DC.region ?_
    refine DL.if rfl rfl (Y.eq rfl rfl) (fun c14 => ?_) (fun c14 => ?_)
    · exfalso; omega
    · refine DL.y rfl rfl (Y.assign) ?_
      refine DL.nil ?_
      show DC _ _ _ _ _ _
      refine DC.condF rfl ?_
      refine DC.skip ?_
      show DC _ _ _ _ _ _
      refine DC.seq ?_
      refine DC.region ?_
      refine DL.y rfl rfl (Y.assign) ?_
      refine DL.nil ?_
      show DC _ _ _ _ _ _
      refine DC.ret ?_
      exact FinQ.ret1 rfl (Ret.mk FR rfl)


theorem sL_len {v : V} (hG : Good v) (hn : v.nodes ≤ 400) (hby : v.bytes ≤ 2000) : (sL v).length ≤ 40000 := by
  obtain ⟨kind, half, text, list, keys, vals⟩ := v
  have h1 := jL_len _ _ (Nat.le_refl _) hG
  have h2 := size_list text
  simp only [V.bytes] at hby
  have hb : (V.mk kind half text list keys vals).bytes ≤ 2000 := by simp only [V.bytes]; exact hby
  simp only [sL]
  split <;> omega
theorem told_said {w : World} {v : V} {b : ByteArray} {how : Int} (hs : Said b how (sL v)) (hl : (sL v).length ≤ 40000) :
    Calls Tryz.prog 10 #[.agg (strR ⟨(sL v).toArray⟩), .agg (strC b), .int .i64 how] w (Ret w [] fun x _ => x = .bool true) := by
  rcases hs with ⟨rfl, h⟩ | rfl
  · have e : b = ⟨(sL v).toArray⟩ := by rw [← h]
    subst e
    exact told_any _ _ _ _ _ _ _ _ 0 w (strRV w 0 _ (by rw [size_list]; simpa using by omega)) (strRV w 0 _ (by rw [size_list]; simpa using by omega))
  · exact told_silent _ _ _ _ _ _ _ _ _ _ _ _ _ w

set_option maxHeartbeats 1000000 in
theorem law_any (v : V) (ca : Array Value) (B : Nat) (w : World) (hR : RV w B v ca) (hB : B ≤ w.heap.size) (h2 : 2 ≤ B) (hT : Tabs w) : Calls Tryz.prog 4 #[.agg ca] w (Ret w [] fun r _ => r = .bool true) := by
  obtain ⟨kind, half, text, list, keys, vals⟩ := v
  obtain ⟨la, lc, ka, kc, va, vc, rfl⟩ := hR.shape
  refine calls_of Tryz.func4 rfl rfl rfl rfl ?_
  have FR := Fr.refl [] w
  refine DC.seq ?_
  refine DC.region ?_
  refine DL.boxA rfl rfl rfl ?_
  intro b1 w1 f2 lo1 hi1 hb1
  replace lo1 := Nat.le_trans FR.size lo1
  replace FR := FR.tr0 f2
  replace hR := hR.fr f2 (by intro x hx; simp <;> omega)
  replace hT := hT.fr f2 (by intro x hx; simp <;> omega)
  refine DL.y rfl rfl (Y.assign) ?_
  refine DL.nil ?_
  show DC _ _ _ _ _ _
  refine DC.seq ?_
  refine DC.seq ?_
  refine DC.region ?_
  refine DL.y rfl rfl (Y.loadW rfl hb1 F.ag26) ?_
  refine DL.call rfl rfl F.nm7 rfl (zzFits1_any _ _ B _ hR (by have := FR.size; omega)) ?_
  rintro _ w3 f4 ⟨r1, rfl⟩
  replace FR := FR.tr0 f4
  replace hR := hR.fr f4 (by intro x hx; simp <;> omega)
  replace hT := hT.fr f4 (by intro x hx; simp <;> omega)
  replace hb1 := f4.blk0 hb1
  replace hi1 := Nat.lt_of_lt_of_le hi1 f4.size
  refine (Bool.eq_false_or_eq_true r1).elim (fun hr1 => ?_) (fun hr1 => ?_)
  · subst hr1
    refine DL.y rfl rfl (Y.not rfl) ?_
    refine DL.nil ?_
    show DC _ _ _ _ _ _
    refine DC.condF rfl ?_
    refine DC.skip ?_
    show DC _ _ _ _ _ _
    refine DC.seq ?_
    refine DC.seq ?_
    refine DC.region ?_
    refine DL.y rfl rfl (Y.loadW rfl hb1 F.ag26) ?_
    refine DL.buildSl1 rfl rfl (F.el23) rfl rfl rfl ?_
    intro b9 w5 f6 lo9 hi9 hb9
    have lt_b1_b9 : b1 < b9 := Nat.lt_of_lt_of_le hi1 lo9
    replace lo9 := Nat.le_trans FR.size lo9
    replace FR := FR.tr0 f6
    replace hR := hR.fr f6 (by intro x hx; simp <;> omega)
    replace hT := hT.fr f6 (by intro x hx; simp <;> omega)
    replace hb1 := f6.blk0 hb1
    replace hi1 := Nat.lt_of_lt_of_le hi1 f6.size
    refine DL.call rfl rfl F.nm12 rfl (fine_any _ _ B b9 _ hR (by have := FR.size; omega) h2 hT hb9) ?_
    rintro _ w7 f8 ⟨q2, rfl, hq2a⟩
    replace FR := FR.tr0 f8
    replace hR := hR.fr f8 (by intro x hx; simp <;> omega)
    replace hT := hT.fr f8 (by intro x hx; simp <;> omega)
    replace hb1 := f8.blk0 hb1
    replace hi1 := Nat.lt_of_lt_of_le hi1 f8.size
    replace hb9 := f8.blk0 hb9
    replace hi9 := Nat.lt_of_lt_of_le hi9 f8.size
    refine (Bool.eq_false_or_eq_true q2).elim (fun hq2 => ?_) (fun hq2 => ?_)
    · obtain ⟨hG, hn, hby⟩ := hq2a hq2
      subst hq2
      refine DL.y rfl rfl (Y.not rfl) ?_
      refine DL.nil ?_
      show DC _ _ _ _ _ _
      refine DC.condF rfl ?_
      refine DC.skip ?_
      show DC _ _ _ _ _ _
      refine DC.seq ?_
      refine DC.region ?_
      refine DL.y rfl rfl (Y.loadW rfl hb1 F.ag26) ?_
      refine DL.call rfl rfl F.nm13 rfl (string_any _ _ B _ (by omega) (by omega) hG hR (by have := FR.size; omega)) ?_
      rintro _ w9 f10 ⟨bs14, how, rfl, hsd⟩
      replace FR := FR.tr0 f10
      replace hR := hR.fr f10 (by intro x hx; simp <;> omega)
      replace hT := hT.fr f10 (by intro x hx; simp <;> omega)
      replace hb1 := f10.blk0 hb1
      replace hi1 := Nat.lt_of_lt_of_le hi1 f10.size
      replace hb9 := f10.blk0 hb9
      replace hi9 := Nat.lt_of_lt_of_le hi9 f10.size
      refine DL.y rfl rfl (Y.move) ?_
      refine DL.y rfl rfl (Y.extract rfl rfl) ?_
      refine DL.y rfl rfl (Y.extract rfl rfl) ?_
      refine DL.y rfl rfl (Y.assign) ?_
      refine DL.y rfl rfl (Y.assign) ?_
      refine DL.nil ?_
      show DC _ _ _ _ _ _
      refine DC.seq ?_
      refine DC.seq ?_
      refine DC.region ?_
      refine DL.y rfl rfl (Y.field F.fd26_0 rfl) ?_
      refine DL.y rfl rfl (Y.loadB F.sc22 rfl hb1 rfl) ?_
      refine DL.if rfl rfl (Y.ne rfl rfl) (fun c19 => ?_) (fun c19 => ?_)
      · refine DL.y rfl rfl (Y.move) ?_
        refine DL.y rfl rfl (Y.loadW rfl hb1 F.ag26) ?_
        refine DL.call rfl rfl F.nm14 rfl (control_any _ _ _ B _ (Nat.le_refl _) (by omega) hG hR (by have := FR.size; omega)) ?_
        rintro _ w11 f12 ⟨q22, rfl⟩
        replace FR := FR.tr0 f12
        replace hR := hR.fr f12 (by intro x hx; simp <;> omega)
        replace hT := hT.fr f12 (by intro x hx; simp <;> omega)
        replace hb1 := f12.blk0 hb1
        replace hi1 := Nat.lt_of_lt_of_le hi1 f12.size
        replace hb9 := f12.blk0 hb9
        replace hi9 := Nat.lt_of_lt_of_le hi9 f12.size
        refine (Bool.eq_false_or_eq_true q22).elim (fun hq22 => ?_) (fun hq22 => ?_)
        · subst hq22
          refine DL.y rfl rfl (Y.pickT rfl) ?_
          refine DL.nil ?_
          show DC _ _ _ _ _ _
          refine DC.condT rfl ?_
          refine DC.seq ?_
          refine DC.region ?_
          refine DL.y rfl rfl (Y.assign) ?_
          refine DL.nil ?_
          show DC _ _ _ _ _ _
          refine DC.ret ?_
          exact FinQ.ret1 rfl (Ret.mk FR rfl)
        · subst hq22
          refine DL.y rfl rfl (Y.pickT rfl) ?_
          refine DL.nil ?_
          show DC _ _ _ _ _ _
          refine DC.condF rfl ?_
          refine DC.skip ?_
          show DC _ _ _ _ _ _
          refine DC.seq ?_
          refine DC.region ?_
          refine DL.y rfl rfl (Y.loadW rfl hb1 F.ag26) ?_
          refine DL.call rfl rfl F.nm15 rfl (ToString_any _ _ B _ (by omega) (by omega) hG hR (by have := FR.size; omega) h2 hT) ?_
          rintro _ w13 f14 rfl
          replace FR := FR.tr0 f14
          replace hR := hR.fr f14 (by intro x hx; simp <;> omega)
          replace hT := hT.fr f14 (by intro x hx; simp <;> omega)
          replace hb1 := f14.blk0 hb1
          replace hi1 := Nat.lt_of_lt_of_le hi1 f14.size
          replace hb9 := f14.blk0 hb9
          replace hi9 := Nat.lt_of_lt_of_le hi9 f14.size
          refine DL.y rfl rfl (Y.move) ?_
          refine DL.call rfl rfl F.nm16 rfl (Str_any _ _) ?_
          rintro _ w15 f16 rfl
          replace FR := FR.tr0 f16
          replace hR := hR.fr f16 (by intro x hx; simp <;> omega)
          replace hT := hT.fr f16 (by intro x hx; simp <;> omega)
          replace hb1 := f16.blk0 hb1
          replace hi1 := Nat.lt_of_lt_of_le hi1 f16.size
          replace hb9 := f16.blk0 hb9
          replace hi9 := Nat.lt_of_lt_of_le hi9 f16.size
          refine DL.y rfl rfl (Y.move) ?_
          refine DL.call rfl rfl F.nm10 rfl (told_said hsd (sL_len hG hn hby)) ?_
          rintro _ w17 f18 rfl
          replace FR := FR.tr0 f18
          replace hR := hR.fr f18 (by intro x hx; simp <;> omega)
          replace hT := hT.fr f18 (by intro x hx; simp <;> omega)
          replace hb1 := f18.blk0 hb1
          replace hi1 := Nat.lt_of_lt_of_le hi1 f18.size
          replace hb9 := f18.blk0 hb9
          replace hi9 := Nat.lt_of_lt_of_le hi9 f18.size
          refine DL.y rfl rfl (Y.assign) ?_
          refine DL.nil ?_
          show DC _ _ _ _ _ _
          refine DC.ret ?_
          exact FinQ.ret1 rfl (Ret.mk FR rfl)
      · refine DL.y rfl rfl (Y.move) ?_
        refine DL.skip rfl rfl ?_
        refine DL.skip rfl rfl ?_
        refine DL.y rfl rfl (Y.pickF rfl) ?_
        refine DL.nil ?_
        show DC _ _ _ _ _ _
        refine DC.condF rfl ?_
        refine DC.skip ?_
        show DC _ _ _ _ _ _
        refine DC.seq ?_
        refine DC.region ?_
        refine DL.y rfl rfl (Y.loadW rfl hb1 F.ag26) ?_
        refine DL.call rfl rfl F.nm15 rfl (ToString_any _ _ B _ (by omega) (by omega) hG hR (by have := FR.size; omega) h2 hT) ?_
        rintro _ w19 f20 rfl
        replace FR := FR.tr0 f20
        replace hR := hR.fr f20 (by intro x hx; simp <;> omega)
        replace hT := hT.fr f20 (by intro x hx; simp <;> omega)
        replace hb1 := f20.blk0 hb1
        replace hi1 := Nat.lt_of_lt_of_le hi1 f20.size
        replace hb9 := f20.blk0 hb9
        replace hi9 := Nat.lt_of_lt_of_le hi9 f20.size
        refine DL.y rfl rfl (Y.move) ?_
        refine DL.call rfl rfl F.nm16 rfl (Str_any _ _) ?_
        rintro _ w21 f22 rfl
        replace FR := FR.tr0 f22
        replace hR := hR.fr f22 (by intro x hx; simp <;> omega)
        replace hT := hT.fr f22 (by intro x hx; simp <;> omega)
        replace hb1 := f22.blk0 hb1
        replace hi1 := Nat.lt_of_lt_of_le hi1 f22.size
        replace hb9 := f22.blk0 hb9
        replace hi9 := Nat.lt_of_lt_of_le hi9 f22.size
        refine DL.y rfl rfl (Y.move) ?_
        refine DL.call rfl rfl F.nm10 rfl (told_said hsd (sL_len hG hn hby)) ?_
        rintro _ w23 f24 rfl
        replace FR := FR.tr0 f24
        replace hR := hR.fr f24 (by intro x hx; simp <;> omega)
        replace hT := hT.fr f24 (by intro x hx; simp <;> omega)
        replace hb1 := f24.blk0 hb1
        replace hi1 := Nat.lt_of_lt_of_le hi1 f24.size
        replace hb9 := f24.blk0 hb9
        replace hi9 := Nat.lt_of_lt_of_le hi9 f24.size
        refine DL.y rfl rfl (Y.assign) ?_
        refine DL.nil ?_
        show DC _ _ _ _ _ _
        refine DC.ret ?_
        exact FinQ.ret1 rfl (Ret.mk FR rfl)
    · subst hq2
      refine DL.y rfl rfl (Y.not rfl) ?_
      refine DL.nil ?_
      show DC _ _ _ _ _ _
      refine DC.condT rfl ?_
      refine DC.seq ?_
      refine DC.region ?_
      refine DL.y rfl rfl (Y.assign) ?_
      refine DL.nil ?_
      show DC _ _ _ _ _ _
      refine DC.ret ?_
      exact FinQ.ret1 rfl (Ret.mk FR rfl)
  · subst hr1
    refine DL.y rfl rfl (Y.not rfl) ?_
    refine DL.nil ?_
    show DC _ _ _ _ _ _
    refine DC.condT rfl ?_
    refine DC.seq ?_
    refine DC.region ?_
    refine DL.y rfl rfl (Y.assign) ?_
    refine DL.nil ?_
    show DC _ _ _ _ _ _
    refine DC.ret ?_
    exact FinQ.ret1 rfl (Ret.mk FR rfl)

end Go.Proofs.YtmbleojlnaofjaaGreatDoor

/- An argument that reads is a tree of values. -/
namespace Go.Proofs.YtmbleojlnaofjaaGreatDoor
open Go Go.RowKit D Go.ChangeShapes Go.WideShapes
set_option linter.unusedVariables false
set_option linter.unusedSimpArgs false


theorem exists_list {α : Type} (Q : Nat → α → Prop) : ∀ n : Nat, (∀ i, i < n → ∃ x, Q i x) → ∃ l : List α, l.length = n ∧ ∀ i (h : i < l.length), Q i l[i]
  | 0, _ => ⟨[], rfl, fun i h => by cases h⟩
  | n + 1, h => by
    obtain ⟨l, hl, hq⟩ := exists_list Q n (fun i hi => h i (by omega))
    obtain ⟨x, hx⟩ := h n (by omega)
    refine ⟨l ++ [x], by simp [hl], fun i hi => ?_⟩
    by_cases hn : i < l.length
    · rw [List.getElem_append_left hn]; exact hq i hn
    · have hi' : i = n := by simp only [List.length_append, List.length_singleton] at hi; omega
      subst hi'
      rw [List.getElem_append_right (by omega)]
      simpa [hl] using hx

theorem list_six {α : Type} {l : List α} (h : l.length = 6) : ∃ a b c d e f, l = [a, b, c, d, e, f] := by
  match l, h with
  | [a, b, c, d, e, f], _ => exact ⟨a, b, c, d, e, f, rfl⟩
theorem weights_all {H : Type} {Q : Program} {e : TypeId} : ∀ {ds : List (DataW H)} {d : DataW H}, d ∈ ds → ∀ n ∈ d.weights Q e, n ∈ DataW.weightsAll Q e ds
  | d0 :: r, d, hd, n, hn => by
    simp only [DataW.weightsAll, List.mem_append]
    rcases List.mem_cons.1 hd with rfl | hd
    · exact Or.inl hn
    · exact Or.inr (weights_all hd n hn)

theorem spot_plain {w : World} {b o : Nat} {sp : Option Nat} {v : Value} (h : w.cell? ⟨b, o, sp⟩ = some v) : sp = none := World.cell?_spot h
theorem cell_lt {w : World} {a : Addr} {v : Value} (h : w.cell? a = some v) : a.block < w.heap.size := by
  rcases Nat.lt_or_ge a.block w.heap.size with h' | h'
  · exact h'
  · have : w.heap[a.block]? = none := by simp [h']
    simp [World.cell?, this] at h

section
variable {Hd : Type} {enc : TypeId × Value → Hd} {w : World} {sp : Nat → Bool} {held : Bool}
/-- A slice that reads is a row of cells, each part of it reads. -/
theorem open_part {t e sz : Nat} {fuel : Nat} {cs : List Value} {x : DataW Hd × List MemPlace} (ht : Tryz.prog.underlying t = some (.slice e)) (hc : Tryz.prog.cellsOf e = sz) (hz : 0 < sz) (hb : 1 ≤ Tryz.prog.bytesOf e)
    (h : DataW.trod enc Tryz.prog w 0 sp held (fuel + 1) t cs = some x) (hw : ∀ n ∈ x.1.weights Tryz.prog t, n ≤ reachBytes) :
    ∃ a len cap, cs = [.slice a len cap] ∧ len ≤ 140737488351232 ∧
      ∀ i, i < len → ∃ b o cl d, a = some ⟨b, o, none⟩ ∧ b < w.heap.size ∧ CellsAt w b (o + i * sz) cl ∧ cl.size = sz ∧ DataW.trod enc Tryz.prog w 0 sp held fuel e cl.toList = some d ∧ ∀ n ∈ d.1.weights Tryz.prog e, n ≤ reachBytes := by
  rcases DataW.trod_slice ht h with ⟨rfl, rfl⟩ | ⟨a, len, cap, elems, rest, n, hn, rfl, rfl, _, hl, _, hel, hat, _, _⟩
  · exact ⟨none, 0, 0, rfl, by omega, fun i hi => absurd hi (by omega)⟩
  · obtain rfl : n = fuel := by omega
    subst hel
    have hlen : elems.length ≤ 140737488351232 := by
      have := hw ((elems.length + rest.length) * Tryz.prog.bytesOf e) (by simp [DataW.weights, ht])
      have h2 : (elems.length + rest.length) * 1 ≤ (elems.length + rest.length) * Tryz.prog.bytesOf e := Nat.mul_le_mul_left _ hb
      simp only [reachBytes] at this
      omega
    refine ⟨some a, _, cap, rfl, hlen, fun i hi => ?_⟩
    have h1 := hat i hi
    rw [List.getElem?_eq_getElem hi, Option.bind_eq_some_iff] at h1
    obtain ⟨cl, hcl, hd⟩ := h1
    obtain ⟨_, hsz, hcell⟩ := World.cells?_some hcl
    obtain ⟨b, o, spot⟩ := a
    rw [hc] at hsz hcell
    have hsp : spot = none := by
      have h1 := hat 0 (by omega)
      rw [List.getElem?_eq_getElem (by omega), Option.bind_eq_some_iff] at h1
      obtain ⟨c', hcl', _⟩ := h1
      obtain ⟨_, hsz', hcell'⟩ := World.cells?_some hcl'
      rw [hc] at hsz' hcell'
      have h2 := hcell' 0 hz
      rw [List.getElem?_eq_getElem (by omega)] at h2
      have h3 := World.cell?_spot h2
      simpa [Addr.add] using h3
    subst hsp
    have hbl : b < w.heap.size := by
      have h2 := hcell 0 hz
      rw [List.getElem?_eq_getElem (by omega)] at h2
      have h3 := cell_lt h2
      rw [add_plain, add_plain] at h3
      exact h3
    refine ⟨b, o, cl.toArray, elems[i], rfl, hbl, fun j hj => ?_, by simpa using hsz, hd, fun n hn => ?_⟩
    · have := hcell j (by simpa [hsz] using hj)
      rw [add_plain, add_plain] at this
      simpa [Nat.add_assoc] using this
    · refine hw n ?_
      simp only [DataW.weights, ht, List.mem_cons, List.mem_append]
      exact Or.inr (Or.inl (weights_all (List.mem_map_of_mem (f := (·.1)) (List.getElem_mem hi)) n hn))

theorem open_text {t : Nat} {fuel : Nat} {cs : List Value} {x : DataW Hd × List MemPlace} (ht : Tryz.prog.underlying t = some .string) (h : DataW.trod enc Tryz.prog w 0 sp held fuel t cs = some x) (hw : ∀ n ∈ x.1.weights Tryz.prog t, n ≤ reachBytes) :
    ∃ s : ByteArray, cs = [.string s] ∧ s.size ≤ 140737488351232 := by
  obtain ⟨s, rfl, rfl, _⟩ := DataW.trod_string ht h
  refine ⟨s, rfl, ?_⟩
  have := hw s.data.toList.length (by simp [DataW.weights])
  simpa [reachBytes] using this
theorem open_num {t : Nat} {fuel : Nat} {cs : List Value} {x : DataW Hd × List MemPlace} (ht : Tryz.prog.underlying t = some (.int .i64)) (h : DataW.trod enc Tryz.prog w 0 sp held fuel t cs = some x) :
    ∃ n : Int, cs = [.int .i64 n] ∧ -9223372036854775808 ≤ n ∧ n ≤ 9223372036854775807 := by
  obtain ⟨n, rfl, rfl, hwf⟩ := DataW.trod_int ht h
  refine ⟨n, rfl, ?_⟩
  simp only [Lit.wf, Bool.and_eq_true, decide_eq_true_eq] at hwf
  exact hwf

theorem open_rows {n : Nat} {a : Option Addr} {fuel : Nat}
    (ih : ∀ (cs : List Value) (x : DataW Hd × List MemPlace), DataW.trod enc Tryz.prog w 0 sp held fuel 26 cs = some x → (∀ n ∈ x.1.weights Tryz.prog 26, n ≤ reachBytes) → ∃ v, RV w w.heap.size v cs.toArray)
    (h : ∀ i, i < n → ∃ b o cl d, a = some ⟨b, o, none⟩ ∧ b < w.heap.size ∧ CellsAt w b (o + i * 6) cl ∧ cl.size = 6 ∧ DataW.trod enc Tryz.prog w 0 sp held fuel 26 cl.toList = some d ∧ ∀ n ∈ d.1.weights Tryz.prog 26, n ≤ reachBytes) :
    ∃ (list : List V) (cl : Nat → Array Value), list.length = n ∧ Row w w.heap.size a list.length 6 cl ∧ ∀ (i : Nat) (h : i < list.length), RV w w.heap.size list[i] (cl i) := by
  obtain ⟨l, hl, hq⟩ := exists_list (fun i (p : V × Array Value) => RV w w.heap.size p.1 p.2 ∧ ∃ b o, a = some ⟨b, o, none⟩ ∧ b < w.heap.size ∧ CellsAt w b (o + i * 6) p.2 ∧ p.2.size = 6) n (fun i hi => by
    obtain ⟨b, o, cl, d, h1, h2, h3, h4, h5, h6⟩ := h i hi
    obtain ⟨v, hv⟩ := ih _ _ h5 h6
    exact ⟨(v, cl), by simpa using hv, b, o, h1, h2, h3, h4⟩)
  refine ⟨l.map (·.1), fun i => (l.getD i (⟨0, 0, default, [], [], []⟩, #[])).2, by simpa using hl, fun i hi => ?_, fun i hi => ?_⟩
  · have hi : i < l.length := by simpa using hi
    have := (hq i hi).2
    simpa [List.getD_eq_getElem?_getD, hi] using this
  · have hi : i < l.length := by simpa using hi
    have := (hq i hi).1
    simpa [List.getD_eq_getElem?_getD, hi] using this

/-- A value of the type of the laws' arguments that reads IS a tree. -/
theorem rv_of_trod (fuel : Nat) : ∀ (cs : List Value) (x : DataW Hd × List MemPlace), DataW.trod enc Tryz.prog w 0 sp held fuel 26 cs = some x → (∀ n ∈ x.1.weights Tryz.prog 26, n ≤ reachBytes) → ∃ v, RV w w.heap.size v cs.toArray := by
  induction fuel using Nat.strongRecOn with
  | _ fuel IH =>
  intro cs x h hw
  rcases Nat.lt_or_ge fuel 1 with hf | hf
  · obtain rfl : fuel = 0 := by omega
    simp [DataW.trod] at h
  rcases Nat.lt_or_ge fuel 2 with hf2 | hf2
  · obtain rfl : fuel = 1 := by omega
    obtain ⟨xs, n, hn, rfl, hl, hxl, hall⟩ := DataW.trod_struct Tryz.underlying26 h
    obtain rfl : n = 0 := by omega
    have := hall 0 _ rfl
    have hxl : xs.length = 6 := hxl
    rw [List.getElem?_eq_getElem (by omega)] at this
    simp [DataW.trod] at this
  · obtain ⟨fuel, rfl⟩ : ∃ k, fuel = k + 2 := ⟨fuel - 2, by omega⟩
    obtain ⟨xs, n, hn, rfl, hl, hxl, hall⟩ := DataW.trod_struct Tryz.underlying26 h
    obtain rfl : n = fuel + 1 := by omega
    have hcz : Tryz.prog.cellsOf 26 = 6 := by kernel_rfl
    rw [hcz] at hl
    have hxl : xs.length = 6 := hxl
    obtain ⟨c0, c1, c2, c3, c4, c5, rfl⟩ := list_six hl
    obtain ⟨x0, x1, x2, x3, x4, x5, rfl⟩ := list_six hxl
    have h0 : DataW.trod enc Tryz.prog w 0 sp held (fuel + 1) 22 (([c0, c1, c2, c3, c4, c5].drop 0).take (Tryz.prog.cellsOf 22)) = some x0 := hall 0 { name := "Kind", type := 22, offset := 0, embedded := false, tag := "", pkgPath := "", byteOffset := 0 } rfl
    have h1 : DataW.trod enc Tryz.prog w 0 sp held (fuel + 1) 3 (([c0, c1, c2, c3, c4, c5].drop 1).take (Tryz.prog.cellsOf 3)) = some x1 := hall 1 { name := "Half", type := 3, offset := 1, embedded := false, tag := "", pkgPath := "", byteOffset := 8 } rfl
    have h2 : DataW.trod enc Tryz.prog w 0 sp held (fuel + 1) 9 (([c0, c1, c2, c3, c4, c5].drop 2).take (Tryz.prog.cellsOf 9)) = some x2 := hall 2 { name := "Text", type := 9, offset := 2, embedded := false, tag := "", pkgPath := "", byteOffset := 16 } rfl
    have h3 : DataW.trod enc Tryz.prog w 0 sp held (fuel + 1) 23 (([c0, c1, c2, c3, c4, c5].drop 3).take (Tryz.prog.cellsOf 23)) = some x3 := hall 3 { name := "List", type := 23, offset := 3, embedded := false, tag := "", pkgPath := "", byteOffset := 32 } rfl
    have h4 : DataW.trod enc Tryz.prog w 0 sp held (fuel + 1) 24 (([c0, c1, c2, c3, c4, c5].drop 4).take (Tryz.prog.cellsOf 24)) = some x4 := hall 4 { name := "Keys", type := 24, offset := 4, embedded := false, tag := "", pkgPath := "", byteOffset := 56 } rfl
    have h5 : DataW.trod enc Tryz.prog w 0 sp held (fuel + 1) 23 (([c0, c1, c2, c3, c4, c5].drop 5).take (Tryz.prog.cellsOf 23)) = some x5 := hall 5 { name := "Vals", type := 23, offset := 5, embedded := false, tag := "", pkgPath := "", byteOffset := 80 } rfl
    rw [F.co22] at h0
    rw [F.co3] at h1
    rw [F.co9] at h2
    rw [F.co23] at h3
    rw [F.co24] at h4
    rw [F.co23] at h5
    simp only [List.drop_zero, List.drop_succ_cons, List.take_succ_cons, List.take_zero] at h0 h1 h2 h3 h4 h5
    have hww : ∀ (j t : Nat) (d : DataW Hd), ([22, 3, 9, 23, 24, 23] : List TypeId)[j]? = some t → ([x0.1, x1.1, x2.1, x3.1, x4.1, x5.1] : List (DataW Hd))[j]? = some d → ∀ n ∈ d.weights Tryz.prog t, n ≤ reachBytes := by
      intro j t d hj hd n hn
      refine hw n ?_
      have := DataW.weights_mem_each (P := Tryz.prog) hj hd n hn
      simpa [DataW.weights, Tryz.underlying26] using this
    obtain ⟨k, e0, hk⟩ := open_num Tryz.underlying22 h0
    obtain ⟨hf, e1, hhf⟩ := open_num Tryz.underlying3 h1
    obtain ⟨s, e2, hs⟩ := open_text Tryz.underlying9 h2 (hww 2 _ _ rfl rfl)
    obtain ⟨a3, l3, p3, e3, b3, q3⟩ := open_part Tryz.underlying23 hcz (by omega) (by decide +kernel) h3 (hww 3 _ _ rfl rfl)
    obtain ⟨a4, l4, p4, e4, b4, q4⟩ := open_part Tryz.underlying24 F.co9 (by omega) (by decide +kernel) h4 (hww 4 _ _ rfl rfl)
    obtain ⟨a5, l5, p5, e5, b5, q5⟩ := open_part Tryz.underlying23 hcz (by omega) (by decide +kernel) h5 (hww 5 _ _ rfl rfl)
    simp only [List.cons.injEq, and_true] at e0 e1 e2 e3 e4 e5
    subst e0 e1 e2 e3 e4 e5
    have ih : ∀ (cs : List Value) (x : DataW Hd × List MemPlace), DataW.trod enc Tryz.prog w 0 sp held fuel 26 cs = some x → (∀ n ∈ x.1.weights Tryz.prog 26, n ≤ reachBytes) → ∃ v, RV w w.heap.size v cs.toArray := IH fuel (by omega)
    obtain ⟨list, cl, rfl, hrl, hll⟩ := open_rows ih q3
    obtain ⟨vals, cv, rfl, hrv, hvv⟩ := open_rows ih q5
    obtain ⟨keys, hkl, hkk⟩ := exists_list (fun i (s : ByteArray) => s.size ≤ 140737488351232 ∧ ∃ b o, a4 = some ⟨b, o, none⟩ ∧ b < w.heap.size ∧ CellsAt w b (o + i * 1) #[.string s]) l4 (fun i hi => by
      obtain ⟨b, o, c, d, z1, z2, z3, z4, z5, z6⟩ := q4 i hi
      obtain ⟨s, es, hs⟩ := open_text Tryz.underlying9 z5 z6
      obtain rfl : c = #[.string s] := by cases c; simpa using es
      exact ⟨s, hs, b, o, z1, z2, z3⟩)
    subst hkl
    refine ⟨.mk k hf s list keys vals, .mk cl cv hk hhf hs b3 b4 b5 (fun t ht => ?_) hrl hll (fun i hi => ?_) hrv hvv⟩
    · obtain ⟨i, hi, rfl⟩ := List.getElem_of_mem ht
      exact (hkk i hi).1
    · obtain ⟨_, b, o, z1, z2, z3⟩ := hkk i hi
      exact ⟨b, o, z1, z2, by simpa [strCells, List.getD_eq_getElem?_getD, hi] using z3, rfl⟩
end


theorem nfirst : Tryz.prog.globalNamed "unicode/utf8.first" = some 0 := by kernel_rfl
theorem naccept : Tryz.prog.globalNamed "unicode/utf8.acceptRanges" = some 1 := by kernel_rfl
theorem tfirst : (Tryz.prog.globals[0]?).map (·.type) = some 59 := by kernel_rfl
theorem taccept : (Tryz.prog.globals[1]?).map (·.type) = some 62 := by kernel_rfl
theorem cfirst : Tryz.prog.cellsOf 59 = 256 := by kernel_rfl
theorem caccept : Tryz.prog.cellsOf 61 = 2 := by kernel_rfl
theorem ufirst : Tryz.prog.underlying 59 = some (.array 256 5) := by kernel_rfl
theorem uu8 : Tryz.prog.underlying 5 = some (.int .u8) := by kernel_rfl
theorem cu8 : Tryz.prog.cellsOf 5 = 1 := by kernel_rfl
theorem ua16 : Tryz.prog.underlying 62 = some (.array 16 61) := by kernel_rfl
/-- The two tables of package utf8, as a row lists them. -/
theorem tabs_of_laid {W : World} {l : List (String × DataW Unit)} (h : laidMet Tryz.prog l W) (h1 : ("unicode/utf8.first", Lib.firstData) ∈ l) (h2 : ("unicode/utf8.acceptRanges", Lib.acceptData) ∈ l) : Tabs W := by
  have h3 := Lib.laidMet.reads h h1
  have h4 := Lib.laidMet.reads h h2
  refine ⟨fun c hc => ?_, fun i hi => ?_⟩
  · obtain ⟨g, t, cs, fuel, p, hg, hty, hvar, hd⟩ := h3
    obtain rfl := Option.some.inj (nfirst.symm.trans hg)
    obtain rfl := Option.some.inj (tfirst.symm.trans hty)
    have hcs := Lib.cells_of_tab ufirst uu8 cu8 cfirst hd
    have := World.var?_cell hg hvar c
    rw [this, ← Array.getElem?_toList, hcs]
    simp [Lib.firstTab, hc]
  · obtain ⟨g, t, cs, fuel, p, hg, hty, hvar, hd⟩ := h4
    obtain rfl := Option.some.inj (naccept.symm.trans hg)
    obtain rfl := Option.some.inj (taccept.symm.trans hty)
    obtain ⟨fuel', d, q, hdi, he⟩ := Lib.array_elem ua16 hd i hi
    simp only [List.getElem?_map, List.getElem?_range hi, Option.map_some, Option.some.injEq] at hdi
    subst hdi
    rw [caccept] at he
    have hcs := Lib.ints_of_struct Tryz.underlying61 (fun j f hj => by
      match j, hj with
      | 0, hj => simp at hj; subst hj; exact ⟨uu8, rfl, cu8⟩
      | 1, hj => simp at hj; subst hj; exact ⟨uu8, rfl, cu8⟩
      | j + 2, hj => simp at hj) (by rw [caccept]; rfl) he
    have e0 := congrArg (·[0]?) hcs
    have e1 := congrArg (·[1]?) hcs
    simp only [List.getElem?_take, List.getElem?_drop] at e0 e1
    constructor
    · rw [World.var?_cell hg hvar (2 * i), ← Array.getElem?_toList]
      simpa [Nat.mul_comm] using e0
    · rw [World.var?_cell hg hvar (2 * i + 1), ← Array.getElem?_toList]
      simpa [Nat.mul_comm] using e1
theorem Tabs.size {w : World} (h : Tabs w) : 2 ≤ w.heap.size := by
  have := cell_lt (h.2 0 (by decide)).1
  exact this

end Go.Proofs.YtmbleojlnaofjaaGreatDoor

