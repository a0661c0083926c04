/- FnFlattenWrapped: WHAT IS PROVED: the card of the statement FnFlattenWrappedCardSaid, for every two arguments, on no condition of ours. -/
import Derived.Test.YtmbleojlnaofjaaDoorCards
import Derived.Test.YtmbleojlnaofjaaDoorTie
import Derived.Test.YtmbleojlnaofjaaDoorOpen
import Derived.Test.YtmbleojlnaofjaaDoorFlatL
import Derived.Test.YtmbleojlnaofjaaDoorOpenL
import Derived.ProofKit
import Derived.OpenShut
import Derived.Deep.DeepHandedRow
import Derived.WideKeyArgs
import Derived.ChangeMaps5
namespace Go.Proofs.YtmbleojlnaofjaaDoor.fnFlattenWrapped
open Go Go.ChangeMaps Go.ChangeShapes Go.WideShapes Go.ChangeAt Go.RowKit Go.Proofs.YtmbleojlnaofjaaDoor D
set_option linter.unusedVariables false

theorem own : ownKnob Tryd.prog.godebug = none := by kernel_rfl
theorem laidOut : laidOutB Tryd.prog = true := by kernel_rfl
theorem readable5 : Tryd.prog.readableRec 5 = true := by kernel_rfl
theorem inRange5 : 5 < Tryd.prog.types.size := of_decide_eq_true (by kernel_rfl)
theorem readable23 : Tryd.prog.readableRec 23 = true := by kernel_rfl
theorem inRange23 : 23 < Tryd.prog.types.size := of_decide_eq_true (by kernel_rfl)
/-- The law's post from a frame. -/
theorem post_of_fr {H : Type} {enc : TypeId × Value → H} {Q : Program} {f : Func} {s : ChangeSpec} {apart fresh handsOn again : Bool} {W W' : World} {args : Array Value} {v : Value} {ds gs : List (DataW H)} {before pa pv : List MemPlace}
    (hW : DataW.Whole enc Q f.params.toList s.vars apart W args.toList ds gs before)
    (hres : ∀ (b : Nat) (sp : Nat → Bool) (hd : Bool), DataW.TrodAll enc Q W' b sp hd f.resultTypes.toList (v.resultList f.resultTypes.size) (s.fn H (ds ++ gs)).results [])
    (hargs : ∀ sp : Nat → Bool, (∀ p ∈ before, sp p.block = true) → DataW.TrodAll enc Q W' 0 sp true f.params.toList args.toList (s.fn H (ds ++ gs)).args pa)
    (hvars : ∀ sp : Nat → Bool, (∀ p ∈ before, sp p.block = true) → DataW.TrodVars enc Q W' sp s.vars (s.fn H (ds ++ gs)).vars pv)
    (hps : before = pa ++ pv) (fr : Fr [] W W')
    (hok : ∀ (j : Nat) (t : TypeId) (r : Value), f.resultTypes[j]? = some t → (v.resultList f.resultTypes.size)[j]? = some r → Value.okWide Q W' .any 0 t r) :
    s.post enc Q f apart fresh handsOn again W args v W' := by
  have hold : ∀ p ∈ before, (fun b => decide (b < W.heap.size)) p.block = true := fun p hp => by simpa using hW.lt p hp
  have hlt : ∀ p ∈ before, p.block < W.heap.size := fun p hp => hW.lt p hp
  refine ⟨ds, gs, before, [], pa, pv, hW, hres _ _ _, hargs _ hold, hvars _ hold, World.keptBut_mono (fun p hp => ⟨hp, ?_⟩) (fr.below.frame (· ∈ before)), fun _ => ?_⟩
  · rw [hps, List.mem_append] at hp
    exact Or.inr hp
  · obtain ⟨_, _, _, _, _, hz, hn⟩ := hW
    refine ⟨hok, _, _, ([] ++ pa) ++ pv, ⟨[] ++ pa, pv, trodAll_append (hargs _ (fun _ _ => rfl)) (hres _ _ _), hvars _ (fun _ _ => rfl), rfl, ?_, ?_⟩, ?_⟩
    · intro b off hp
      have hb : MemPlace.cell b off ∈ before := by rw [hps]; simpa using hp
      rw [fr.below.frozen (hlt _ hb)]
      exact hz b off hb
    · intro ha
      have := hn ha
      rw [hps] at this
      simpa using this
    · intro p hp _
      rw [hps]
      simpa using hp

theorem hfirst : ("unicode/utf8.first", Lib.firstData) ∈ Rows.fnFlattenWrappedRow.laid := by
  have h : Go.Pinned.utf8First = Lib.firstData := by kernel_rfl
  rw [← h]; simp [Rows.fnFlattenWrappedRow, Rows.laid_unicode_utf8_first]
theorem haccept : ("unicode/utf8.acceptRanges", Lib.acceptData) ∈ Rows.fnFlattenWrappedRow.laid := by
  have h : (Rows.laid_unicode_utf8_acceptRanges : DataW Unit) = Lib.acceptData := by kernel_rfl
  rw [← h]; simp [Rows.fnFlattenWrappedRow]
theorem tabs {W : World} (h : laidMetH Tryd.prog Rows.fnFlattenWrappedRow.laid W) : Tabs W :=
  tabs_of_laid (l := Rows.fnFlattenWrappedRow.laid) h hfirst haccept

theorem ret_open {S : List Nat} {w w' : World} {e : Ending} {post : Value → World → Prop} (h : Ret w S post e w') : ∃ v, e = .returned v ∧ Fr S w w' ∧ post v w' := by
  cases e with
  | returned v => exact ⟨v, rfl, h⟩
  | _ => exact h.elim

set_option maxRecDepth 100000 in
theorem contract (H : Type) (enc : TypeId × Value → H) (W : World) (base : Nat) (args : Array Value) (ds gs : List (DataW H)) (before : List MemPlace)
    (hval : ∀ (j : Nat) t v, Tryd.f6.params[j]? = some t → args[j]? = some v → Value.okWide Tryd.prog W .any base t v)
    (hW : DataW.Whole enc Tryd.prog Tryd.f6.params.toList Rows.fnFlattenWrappedSpec.vars false W args.toList ds gs before)
    (hz : (DataW.weightsEach Tryd.prog (Tryd.f6.params.toList ++ (OpenSpec.ofChange Rows.fnFlattenWrappedSpec).bare.plain.varTypes Tryd.prog) (ds ++ gs)).all (· ≤ reachBytes) = true) (hL : laidMetH Tryd.prog Rows.fnFlattenWrappedRow.laid W) :
    Calls Tryd.prog 6 args W fun e W' => ∃ v, e = .returned v ∧ Rows.fnFlattenWrappedSpec.post enc Tryd.prog Tryd.f6 false true false false W args v W' := by
  have hW' := hW
  obtain ⟨p, q, hA0, hV, rfl, hfz, hnd⟩ := hW
  have hA : DataW.TrodAll enc Tryd.prog W 0 (fun _ => true) true Tryd.f6.params.toList args.toList ds p := hA0
  rw [Tryd.params6] at hA hval hz
  obtain ⟨v0, vs0, d0, ds0, p0, q0, hargs0, rfl, rfl, h0, r0⟩ := trodAll_cons hA
  obtain ⟨v1, vs1, d1, ds1, p1, q1, hargs1, rfl, rfl, h1, r1⟩ := trodAll_cons r0
  obtain ⟨rfl, rfl, rfl⟩ := trodAll_nil r1
  subst hargs1
  obtain rfl : args = #[v0, v1] := by cases args; simp_all
  obtain ⟨rfl, rfl⟩ := trodVars_none hV
  clear hA0
  simp only [List.append_nil] at hW'
  have hw : ∀ (j : Nat) (t : TypeId) (d : DataW H), ([23, 5] : List TypeId)[j]? = some t → ([d0, d1] : List (DataW H))[j]? = some d → ∀ n ∈ d.weights Tryd.prog t, n ≤ reachBytes := fun j t d hj hd n hn => by
    have hjl : j < 2 := by have := (List.getElem?_eq_some_iff.1 hj).1; simpa using this
    have h2 := DataW.weights_mem_each (P := Tryd.prog) (ts := #[23, 5].toList ++ (OpenSpec.ofChange Rows.fnFlattenWrappedSpec).bare.plain.varTypes Tryd.prog) (ds := [d0, d1] ++ []) (j := j) (t := t) (d := d) (by rw [List.getElem?_append_left (by simpa using hjl)]; exact hj) (by simpa using hd) n hn
    exact of_decide_eq_true (List.all_eq_true.1 hz _ h2)
  have k0 := h0
  obtain ⟨a0, l0, c0, e0, ll0, ha0⟩ := open_list h0 (okWide_slice Tryd.underlying23 (hval 0 23 v0 rfl rfl)) (hw 0 23 d0 rfl rfl)
  subst e0
  have k1 := h1
  obtain ⟨z1, rfl, hd1, hp1, hz1⟩ := open_int Tryd.underlying5 (hval 1 5 v1 rfl rfl) h1
  have hzz1 : 0 ≤ z1 ∧ z1 ≤ 255 := by
    simp only [Lit.wf, Bool.and_eq_true, decide_eq_true_eq] at hz1
    exact hz1
  have hT := tabs hL
  refine (law_any l0 a0 c0 z1 W.heap.size W ha0 (Nat.le_refl _) hT.size hT ll0 hzz1).mono fun e W' he => ?_
  obtain ⟨v, rfl, fr, rfl⟩ := ret_open he
  have hsame : ∀ x ∈ p0 ++ (p1 ++ []), W.sameAt W' x := fun x hx => fr.below.same (hW'.lt x (by simpa using hx))
  refine ⟨_, rfl, post_of_fr (pa := p0 ++ (p1 ++ [])) (pv := []) hW' (fun _ _ _ => trodAll_cons_mk (shut_bool Tryd.underlying4 _) trodAll_mk0) (fun sp hs => ?_) (fun _ _ => rfl) (by simp) fr (ok_one (by kernel_rfl) rfl (okWide_bool_mk Tryd.underlying4 _))⟩
  rw [Tryd.params6]
  exact trodAll_cons_mk (WideElems.Trod_stays laidOut readable23 inRange23 k0 (fun x hx => hsame x (by simp [hx])) (fun x hx => hs x (by simp [hx]))) (trodAll_cons_mk (WideElems.Trod_stays laidOut readable5 inRange5 k1 (fun x hx => hsame x (by simp [hx])) (fun x hx => hs x (by simp [hx]))) (trodAll_mk0))
/-- A world for the witness: the settled one, the two tables laid. -/
def lay0 : Obj → Obj
  | .cells _ t frozen => .cells (Lib.firstTab.map fun z => Value.int .u8 z).toArray t frozen
  | o => o
def lay1 : Obj → Obj
  | .cells _ t frozen => .cells ((List.range 16).flatMap fun i => [Value.int .u8 (Lib.accLo i), Value.int .u8 (Lib.accHi i)]).toArray t frozen
  | o => o
noncomputable def laidWorld (os : Os) : World :=
  { World.holding Tryd.prog os ⟨#[], #[], []⟩ with heap := ((World.holding Tryd.prog os ⟨#[], #[], []⟩).heap.modify 0 lay0).modify 1 lay1 }
def zeroV : Value := .agg #[.int .i64 0, .int .i64 0, .string ⟨#[]⟩, .slice none 0 0, .slice none 0 0, .slice none 0 0]
theorem laid_met (os : Os) : laidMet Tryd.prog Rows.fnFlattenWrappedRow.laid ((laidWorld os).forCall (fun _ _ => 0) ⟨#[], #[(.slice none 0 0 : Value), (.int .u8 0 : Value)], []⟩).memory :=
  laidMet_of_run' 8 (by kernel_rfl) (by kernel_rfl)
theorem reads (os : Os) {H : Type} (enc : TypeId × Value → H) : ∃ places, DataW.whole enc Tryd.prog ((laidWorld os).forCall (fun _ _ => 0) ⟨#[], #[(.slice none 0 0 : Value), (.int .u8 0 : Value)], []⟩).memory Tryd.f6.params.toList Rows.fnFlattenWrappedSpec.vars false #[(.slice none 0 0 : Value), (.int .u8 0 : Value)].toList 8 = some ([.nil, .lit (.int .u8 0)], [], places) :=
  ⟨[], by kernel_rfl⟩

set_option maxRecDepth 100000 in
theorem lifted (os : Os) (started : os.Started) (H : Type) (enc : TypeId × Value → H) (F : Stop.Interp) :
    ReturnsInHanded {} Tryd.checked os 6 .any ((OpenSpec.ofChange Rows.fnFlattenWrappedSpec).preRow enc Tryd.prog Tryd.f6 Rows.fnFlattenWrappedRow.domain false Rows.fnFlattenWrappedRow.laid) (((OpenSpec.ofChange Rows.fnFlattenWrappedSpec).at F).post enc Tryd.prog Tryd.f6 false true false false) := by
  obtain ⟨places, hx⟩ := reads os enc
  refine returnsInHanded_of_row (C := Tryd.checked) (s := OpenSpec.ofChange Rows.fnFlattenWrappedSpec) own started (by kernel_rfl) Tryd.func6
    (witness_row_at (enc := enc) (C := Tryd.checked) false (laidWorld os) #[(.slice none 0 0 : Value), (.int .u8 0 : Value)] rfl (by kernel_rfl) (by kernel_rfl) (by kernel_rfl)
      (OpenSpec.preRow_of_cond 8 hx (by kernel_rfl) (fun k hk => by cases hk) (by kernel_rfl) (laid_met os))) ?_
  intro W base args ds gs before hval hW _ _ hz hL _ _
  exact contract H enc W base args ds gs before hval hW hz hL

theorem said : Rows.FnFlattenWrappedSaid :=
  OpenClaim.holds_of_cond 6 Tryd.f6 rfl rfl rfl rfl rfl rfl rfl ⟨rfl, rfl, rfl, rfl, rfl⟩ rfl rfl rfl rfl rfl (by kernel_rfl) Tryd.func6 (by kernel_rfl)
    (of_decide_eq_true (by kernel_rfl)) (by unfold Func.isWrapper; first | (rw [if_pos (by decide +kernel)]; kernel_rfl) | (rw [if_neg (by decide +kernel)]; exact ⟨rfl, rfl⟩))
    (fun os started H enc _ F => by rw [OpenClaim.pre_eq_preRow]; exact lifted os started H enc F)

theorem plain (f : FuncId) (fn : Func) (hf : Tryd.pinned.checked.prog.funcNamed "pub-strainer/laws.FnFlattenWrapped" = some f) (hfn : Tryd.pinned.checked.prog.funcs[f]? = some fn) :
    true = Tryd.pinned.checked.prog.looks [] ∧ ∀ (j : Nat) t, fn.params[j]? = some t → Tryd.pinned.checked.prog.wantsStandIn t = false := by
  obtain rfl : f = 6 := Option.some.inj ((show Tryd.prog.funcNamed "pub-strainer/laws.FnFlattenWrapped" = some 6 by kernel_rfl).symm.trans hf) |>.symm
  obtain rfl : fn = Tryd.f6 := (Option.some.inj (Tryd.func6.symm.trans hfn)).symm
  refine ⟨by kernel_rfl, fun j t ht => ?_⟩
  rw [Tryd.params6] at ht
  have hm := Array.mem_of_getElem? ht
  simp only [List.mem_toArray, List.mem_cons, List.not_mem_nil, or_false] at hm
  rcases hm with rfl | rfl
  · exact (show Tryd.prog.wantsStandIn 23 = false by kernel_rfl)
  · exact (show Tryd.prog.wantsStandIn 5 = false by kernel_rfl)

theorem card : Rows.FnFlattenWrappedCardSaid :=
  Claim7.holds_tied_plain_at .later [] _ _ _ _ said (fun _ h => by cases h) (by kernel_rfl) (fun _ h => by cases h) fnFlattenWrapped_row_tie rfl ⟨rfl, rfl⟩ (by kernel_rfl) rfl plain (by kernel_rfl)
end Go.Proofs.YtmbleojlnaofjaaDoor.fnFlattenWrapped
