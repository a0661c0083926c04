/- FnFormatURI: WHAT IS PROVED: the card of the statement FnFormatURICardSaid, for every argument (every list of arguments of its types), on no condition of ours. -/
import Derived.Test.YtmbleojlnaofjaaGreatDoorCards
import Derived.Test.YtmbleojlnaofjaaGreatDoorTie
import Derived.Test.YtmbleojlnaofjaaGreatDoorMu11
import Derived.ProofKit
import Derived.OpenShut
import Derived.Deep.DeepHandedRow
import Derived.WideKeyArgs
import Derived.ChangeMaps5
namespace Go.Proofs.YtmbleojlnaofjaaGreatDoor.fnFormatURI
open Go Go.ChangeMaps Go.ChangeShapes Go.WideShapes Go.ChangeAt Go.RowKit Go.Proofs.YtmbleojlnaofjaaGreatDoor D
set_option linter.unusedVariables false

theorem own : ownKnob Tryz.prog.godebug = none := by kernel_rfl
theorem laidOut : laidOutB Tryz.prog = true := by kernel_rfl
theorem readable26 : Tryz.prog.readableRec 26 = true := by kernel_rfl
theorem inRange26 : 26 < Tryz.prog.types.size := of_decide_eq_true (by kernel_rfl)
/-- The law's post from a frame. -/
theorem post_of_fr {H : Type} {enc : TypeId × Value → H} {Q : Program} {f : Func} {s : ChangeSpec} {apart fresh handsOn again : Bool} {W W' : World} {args : Array Value} {v : Value} {ds gs : List (DataW H)} {before pa pv : List MemPlace}
    (hW : DataW.Whole enc Q f.params.toList s.vars apart W args.toList ds gs before)
    (hres : ∀ (b : Nat) (sp : Nat → Bool) (hd : Bool), DataW.TrodAll enc Q W' b sp hd f.resultTypes.toList (v.resultList f.resultTypes.size) (s.fn H (ds ++ gs)).results [])
    (hargs : ∀ sp : Nat → Bool, (∀ p ∈ before, sp p.block = true) → DataW.TrodAll enc Q W' 0 sp true f.params.toList args.toList (s.fn H (ds ++ gs)).args pa)
    (hvars : ∀ sp : Nat → Bool, (∀ p ∈ before, sp p.block = true) → DataW.TrodVars enc Q W' sp s.vars (s.fn H (ds ++ gs)).vars pv)
    (hps : before = pa ++ pv) (fr : Fr [] W W')
    (hok : ∀ (j : Nat) (t : TypeId) (r : Value), f.resultTypes[j]? = some t → (v.resultList f.resultTypes.size)[j]? = some r → Value.okWide Q W' .any 0 t r) :
    s.post enc Q f apart fresh handsOn again W args v W' := by
  have hold : ∀ p ∈ before, (fun b => decide (b < W.heap.size)) p.block = true := fun p hp => by simpa using hW.lt p hp
  have hlt : ∀ p ∈ before, p.block < W.heap.size := fun p hp => hW.lt p hp
  refine ⟨ds, gs, before, [], pa, pv, hW, hres _ _ _, hargs _ hold, hvars _ hold, World.keptBut_mono (fun p hp => ⟨hp, ?_⟩) (fr.below.frame (· ∈ before)), fun _ => ?_⟩
  · rw [hps, List.mem_append] at hp
    exact Or.inr hp
  · obtain ⟨_, _, _, _, _, hz, hn⟩ := hW
    refine ⟨hok, _, _, ([] ++ pa) ++ pv, ⟨[] ++ pa, pv, trodAll_append (hargs _ (fun _ _ => rfl)) (hres _ _ _), hvars _ (fun _ _ => rfl), rfl, ?_, ?_⟩, ?_⟩
    · intro b off hp
      have hb : MemPlace.cell b off ∈ before := by rw [hps]; simpa using hp
      rw [fr.below.frozen (hlt _ hb)]
      exact hz b off hb
    · intro ha
      have := hn ha
      rw [hps] at this
      simpa using this
    · intro p hp _
      rw [hps]
      simpa using hp

theorem hfirst : ("unicode/utf8.first", Lib.firstData) ∈ Rows.fnFormatURIRow.laid := by
  have h : Go.Pinned.utf8First = Lib.firstData := by kernel_rfl
  rw [← h]; simp [Rows.fnFormatURIRow, Rows.laid_unicode_utf8_first]
theorem haccept : ("unicode/utf8.acceptRanges", Lib.acceptData) ∈ Rows.fnFormatURIRow.laid := by
  have h : (Rows.laid_unicode_utf8_acceptRanges : DataW Unit) = Lib.acceptData := by kernel_rfl
  rw [← h]; simp [Rows.fnFormatURIRow]
theorem tabs {W : World} (h : laidMetH Tryz.prog Rows.fnFormatURIRow.laid W) : Tabs W :=
  tabs_of_laid (l := Rows.fnFormatURIRow.laid) h hfirst haccept

def urlTab : List Int := utab.map fun (n : Nat) => (n : Int)
theorem hurl : ("net/url.table", Lib.tabData .u8 urlTab) ∈ Rows.fnFormatURIRow.laid := by
  have h : (Rows.laid_net_url_table : DataW Unit) = Lib.tabData .u8 urlTab := by kernel_rfl
  rw [← h]; simp [Rows.fnFormatURIRow]
theorem nurl : Tryz.prog.globalNamed "net/url.table" = some 3 := by kernel_rfl
theorem turl : (Tryz.prog.globals[3]?).map (·.type) = some 184 := by kernel_rfl
theorem uurl : Tryz.prog.underlying 184 = some (.array 256 153) := by kernel_rfl
theorem uenc : Tryz.prog.underlying 153 = some (.int .u8) := by kernel_rfl
theorem cenc : Tryz.prog.cellsOf 153 = 1 := by kernel_rfl
theorem curl : Tryz.prog.cellsOf 184 = 256 := by kernel_rfl
theorem tabU {W : World} (h : laidMetH Tryz.prog Rows.fnFormatURIRow.laid W) : TabU W := by
  intro c hc
  obtain ⟨g, t, cs, fuel, p, hg, hty, hvar, hd⟩ := Lib.laidMet.reads (P := Tryz.prog) (w := W) (l := Rows.fnFormatURIRow.laid) h hurl
  obtain rfl := Option.some.inj (nurl.symm.trans hg)
  obtain rfl := Option.some.inj (turl.symm.trans hty)
  have hcs := Lib.cells_of_tab uurl uenc cenc curl hd
  have := World.var?_cell hg hvar c
  rw [show 0 + c * 1 = c by omega, this, ← Array.getElem?_toList, hcs]
  have hl : utab.length = 256 := by decide +kernel
  simp [urlTab, List.getD_eq_getElem?_getD, hl, hc]
theorem _root_.Go.Proofs.YtmbleojlnaofjaaGreatDoor.TabU.size {w : World} (h : TabU w) : 3 < w.heap.size := cell_lt (h 0 (by decide))

theorem ret_open {S : List Nat} {w w' : World} {e : Ending} {post : Value → World → Prop} (h : Ret w S post e w') : ∃ v, e = .returned v ∧ Fr S w w' ∧ post v w' := by
  cases e with
  | returned v => exact ⟨v, rfl, h⟩
  | _ => exact h.elim

set_option maxRecDepth 100000 in
theorem contract (H : Type) (enc : TypeId × Value → H) (W : World) (base : Nat) (args : Array Value) (ds gs : List (DataW H)) (before : List MemPlace)
    (hval : ∀ (j : Nat) t v, Tryz.f6.params[j]? = some t → args[j]? = some v → Value.okWide Tryz.prog W .any base t v)
    (hW : DataW.Whole enc Tryz.prog Tryz.f6.params.toList Rows.fnFormatURISpec.vars false W args.toList ds gs before)
    (hz : (DataW.weightsEach Tryz.prog (Tryz.f6.params.toList ++ (OpenSpec.ofChange Rows.fnFormatURISpec).bare.plain.varTypes Tryz.prog) (ds ++ gs)).all (· ≤ reachBytes) = true) (hL : laidMetH Tryz.prog Rows.fnFormatURIRow.laid W) :
    Calls Tryz.prog 6 args W fun e W' => ∃ v, e = .returned v ∧ Rows.fnFormatURISpec.post enc Tryz.prog Tryz.f6 false true false false W args v W' := by
  have hW' := hW
  obtain ⟨p, q, hA0, hV, rfl, hfz, hnd⟩ := hW
  have hA : DataW.TrodAll enc Tryz.prog W 0 (fun _ => true) true Tryz.f6.params.toList args.toList ds p := hA0
  rw [Tryz.params6] at hA hval hz
  obtain ⟨v0, vs0, d0, ds0, p0, q0, hargs0, rfl, rfl, h0, r0⟩ := trodAll_cons hA
  obtain ⟨rfl, rfl, rfl⟩ := trodAll_nil r0
  obtain rfl : args = #[v0] := by cases args; simp_all
  obtain ⟨rfl, rfl⟩ := trodVars_none hV
  clear hA0
  simp only [List.append_nil] at hW'
  have hw : ∀ (j : Nat) (t : TypeId) (d : DataW H), ([26] : List TypeId)[j]? = some t → ([d0] : List (DataW H))[j]? = some d → ∀ n ∈ d.weights Tryz.prog t, n ≤ reachBytes := fun j t d hj hd n hn => by
    have hjl : j < 1 := by have := (List.getElem?_eq_some_iff.1 hj).1; simpa using this
    have h2 := DataW.weights_mem_each (P := Tryz.prog) (ts := #[26].toList ++ (OpenSpec.ofChange Rows.fnFormatURISpec).bare.plain.varTypes Tryz.prog) (ds := [d0] ++ []) (j := j) (t := t) (d := d) (by rw [List.getElem?_append_left (by simpa using hjl)]; exact hj) (by simpa using hd) n hn
    exact of_decide_eq_true (List.all_eq_true.1 hz _ h2)
  have k0 := h0
  obtain ⟨c0, rfl⟩ : ∃ cs, v0 = .agg cs := by
    have := hval 0 26 v0 rfl rfl
    simp only [Value.okWide, Tryz.underlying26] at this
    exact ⟨this.choose, this.choose_spec.1⟩
  obtain ⟨f0, g0⟩ := h0
  obtain ⟨a0, ha0⟩ := rv_of_trod f0 _ _ g0 (hw 0 26 d0 rfl rfl)
  have hT := tabs hL
  have hU := tabU hL
  refine (lawURI_any a0 c0 W.heap.size W (by simpa [Value.cells] using ha0) (Nat.le_refl _) hT.size hT hU hU.size).mono fun e W' he => ?_
  obtain ⟨v, rfl, fr, rfl⟩ := ret_open he
  have hsame : ∀ x ∈ p0 ++ [], W.sameAt W' x := fun x hx => fr.below.same (hW'.lt x (by simpa using hx))
  refine ⟨_, rfl, post_of_fr (pa := p0 ++ []) (pv := []) hW' (fun _ _ _ => trodAll_cons_mk (shut_bool Tryz.underlying4 _) trodAll_mk0) (fun sp hs => ?_) (fun _ _ => rfl) (by simp) fr (ok_one (by kernel_rfl) rfl (okWide_bool_mk Tryz.underlying4 _))⟩
  rw [Tryz.params6]
  exact trodAll_cons_mk (WideElems.Trod_stays laidOut readable26 inRange26 k0 (fun x hx => hsame x (by simp [hx])) (fun x hx => hs x (by simp [hx]))) (trodAll_mk0)
/-- A world for the witness: the settled one, the two tables laid. -/
def lay0 : Obj → Obj
  | .cells _ t frozen => .cells (Lib.firstTab.map fun z => Value.int .u8 z).toArray t frozen
  | o => o
def lay1 : Obj → Obj
  | .cells _ t frozen => .cells ((List.range 16).flatMap fun i => [Value.int .u8 (Lib.accLo i), Value.int .u8 (Lib.accHi i)]).toArray t frozen
  | o => o
def lay3 : Obj → Obj
  | .cells _ t frozen => .cells (urlTab.map fun z => Value.int .u8 z).toArray t frozen
  | o => o
noncomputable def laidWorld (os : Os) : World :=
  { World.holding Tryz.prog os ⟨#[], #[], []⟩ with heap := ((World.holding Tryz.prog os ⟨#[], #[], []⟩).heap.modify 0 lay0).modify 1 lay1 |>.modify 3 lay3 }
def zeroV : Value := .agg #[.int .i64 0, .int .i64 0, .string ⟨#[]⟩, .slice none 0 0, .slice none 0 0, .slice none 0 0]
theorem laid_met (os : Os) : laidMet Tryz.prog Rows.fnFormatURIRow.laid ((laidWorld os).forCall (fun _ _ => 0) ⟨#[], #[(zeroV : Value)], []⟩).memory :=
  laidMet_of_run' 8 (by kernel_rfl) (by kernel_rfl)
theorem reads (os : Os) {H : Type} (enc : TypeId × Value → H) : ∃ places, DataW.whole enc Tryz.prog ((laidWorld os).forCall (fun _ _ => 0) ⟨#[], #[(zeroV : Value)], []⟩).memory Tryz.f6.params.toList Rows.fnFormatURISpec.vars false #[(zeroV : Value)].toList 8 = some ([.agg [.lit (.int .i64 0), .lit (.int .i64 0), .lit (.string []), .nil, .nil, .nil]], [], places) :=
  ⟨[], by kernel_rfl⟩

set_option maxRecDepth 100000 in
theorem lifted (os : Os) (started : os.Started) (H : Type) (enc : TypeId × Value → H) (F : Stop.Interp) :
    ReturnsInHanded {} Tryz.checked os 6 .any ((OpenSpec.ofChange Rows.fnFormatURISpec).preRow enc Tryz.prog Tryz.f6 Rows.fnFormatURIRow.domain false Rows.fnFormatURIRow.laid) (((OpenSpec.ofChange Rows.fnFormatURISpec).at F).post enc Tryz.prog Tryz.f6 false true false false) := by
  obtain ⟨places, hx⟩ := reads os enc
  refine returnsInHanded_of_row (C := Tryz.checked) (s := OpenSpec.ofChange Rows.fnFormatURISpec) own started (by kernel_rfl) Tryz.func6
    (witness_row_at (enc := enc) (C := Tryz.checked) false (laidWorld os) #[(zeroV : Value)] rfl (by kernel_rfl) (by kernel_rfl) (by kernel_rfl)
      (OpenSpec.preRow_of_cond 8 hx (by kernel_rfl) (fun k hk => by cases hk) (by kernel_rfl) (laid_met os))) ?_
  intro W base args ds gs before hval hW _ _ hz hL _ _
  exact contract H enc W base args ds gs before hval hW hz hL

theorem said : Rows.FnFormatURISaid :=
  OpenClaim.holds_of_cond 6 Tryz.f6 rfl rfl rfl rfl rfl rfl rfl ⟨rfl, rfl, rfl, rfl, rfl⟩ rfl rfl rfl rfl rfl (by kernel_rfl) Tryz.func6 (by kernel_rfl)
    (of_decide_eq_true (by kernel_rfl)) (by unfold Func.isWrapper; first | (rw [if_pos (by decide +kernel)]; kernel_rfl) | (rw [if_neg (by decide +kernel)]; exact ⟨rfl, rfl⟩))
    (fun os started H enc _ F => by rw [OpenClaim.pre_eq_preRow]; exact lifted os started H enc F)

theorem plain (f : FuncId) (fn : Func) (hf : Tryz.pinned.checked.prog.funcNamed "pub-strainer/laws.FnFormatURI" = some f) (hfn : Tryz.pinned.checked.prog.funcs[f]? = some fn) :
    true = Tryz.pinned.checked.prog.looks [] ∧ ∀ (j : Nat) t, fn.params[j]? = some t → Tryz.pinned.checked.prog.wantsStandIn t = false := by
  obtain rfl : f = 6 := Option.some.inj ((show Tryz.prog.funcNamed "pub-strainer/laws.FnFormatURI" = some 6 by kernel_rfl).symm.trans hf) |>.symm
  obtain rfl : fn = Tryz.f6 := (Option.some.inj (Tryz.func6.symm.trans hfn)).symm
  refine ⟨by kernel_rfl, fun j t ht => ?_⟩
  rw [Tryz.params6] at ht
  have hm := Array.mem_of_getElem? ht
  simp only [List.mem_toArray, List.mem_cons, List.not_mem_nil, or_false] at hm
  rcases hm with rfl
  · exact (show Tryz.prog.wantsStandIn 26 = false by kernel_rfl)

theorem card : Rows.FnFormatURICardSaid :=
  Claim7.holds_tied_plain_at .later [] _ _ _ _ said (fun _ h => by cases h) (by kernel_rfl) (fun _ h => by cases h) fnFormatURI_row_tie rfl ⟨rfl, rfl⟩ (by kernel_rfl) rfl plain (by kernel_rfl)
end Go.Proofs.YtmbleojlnaofjaaGreatDoor.fnFormatURI
