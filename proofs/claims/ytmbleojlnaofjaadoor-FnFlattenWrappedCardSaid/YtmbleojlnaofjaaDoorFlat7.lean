/- The walk of gojq.flatten at arrays in arrays. -/
import Derived.Test.YtmbleojlnaofjaaDoorFlat6
namespace Go.Proofs.YtmbleojlnaofjaaDoor
open Go Go.RowKit D Go.Deep
set_option linter.unusedVariables false
set_option linter.unusedSimpArgs false


theorem gv_list {w : World} {D : Nat → Prop} {half : Int} {text : ByteArray} {list : List V} {keys : List ByteArray} {vals : List V} {x : Value} (h : GV w D (.mk 5 half text list keys vals) x) : ∃ a c xs, x = .iface 60 (.slice a list.length c) ∧ InL w D a list xs := by
  cases h with
  | list xs hr hx => exact ⟨_, _, xs, rfl, hr, hx⟩
def FlatC (l : List V) (j : Nat) : Prop := ∀ (ys : Nat → Value) (a : Option Addr) (c : Nat) (D : Nat → Prop) (B b5 : Nat) (w : World), InL w D a (wrapL l j) ys → w.heap[b5]? = some (.cells #[] 20 (0, 0)) → (∀ b, D b → b < B) → B ≤ b5 →
  Calls Tryd.prog 48 #[.slice (some ⟨b5, 0, none⟩) 0 0, .slice a (wrapL l j).length c, .float .f64 (fb j)] w (Ret w [b5] fun v w' => ∃ zs : Nat → Value, w'.ownsRow B 20 1 v l.length ((List.range l.length).map zs) ∧ ∀ (i : Nat) (h : i < l.length), GV w' D l[i] (zs i))
theorem flatC_zero (l : List V) (hl : l.length ≤ 1000000) : FlatC l 0 := fun ys a c D B b5 w hin hb5 hD hB5 =>
  (flat_zero l ys a c D B b5 w hin hb5 hD hB5 hl).mono fun e w' h => Ret.imp (fun r w1 hf hp => ⟨ys, hp.1, hp.2.gv⟩) h

set_option maxHeartbeats 1000000 in
theorem flatC_step (l : List V) (lv : Nat) (hj : lv < 11) (ih : FlatC l lv) : FlatC l (lv + 1) := by
  intro ys a c D B b5 w hin hb5 hD hB5
  have hfb := fb_step lv hj
  change InL w D a [.mk 5 0 ⟨#[]⟩ (wrapL l lv) [] []] ys at hin
  show Calls Tryd.prog 48 #[.slice (some ⟨b5, 0, none⟩) 0 0, .slice a 1 c, .float .f64 (fb (lv + 1))] w _
  refine calls_of Tryd.func48 rfl rfl rfl rfl ?_
  have FR := Fr.refl [b5] w
  refine DC.seq ?_
  refine DC.region ?_
  refine DL.y rfl rfl (Y.assign) ?_
  refine DL.nil ?_
  show DC _ _ _ _ _ _
  refine DC.seq ?_
  refine DC.seq ?_
  refine DC.region ?_
  refine DL.y rfl rfl (Y.move) ?_
  refine DL.y rfl rfl (Y.lenS Tryd.underlying60 rfl) ?_
  refine DL.y rfl rfl (Y.move) ?_
  refine DL.nil ?_
  show DC _ _ _ _ _ _
  refine DC.block ?_
  refine DC.loop (σ := Nat × Value × (Nat → Value)) [(0, 0), (8, 10), (13, 36)] (fun (k, v, _) => [(0, v), (13, .int .i64 (k : Int))]) (fun sg wl => Fr [b5] w wl ∧ (fun (k, v, zs) wl => k ≤ 1 ∧ (k = 0 → v = .slice (some ⟨b5, 0, none⟩) 0 0 ∧ wl.heap[b5]? = some (.cells #[] 20 (0, 0))) ∧ (k = 1 → wl.ownsRow B 20 1 v l.length ((List.range l.length).map zs) ∧ ∀ (i : Nat) (h : i < l.length), GV wl D l[i] (zs i))) sg wl) (fun (k, _, _) => 1 - k) ((0, .slice (some ⟨b5, 0, none⟩) 0 0, fun _ => undef)) rfl ?_ ?_ ?_
  · exact ⟨rfl, rfl⟩
  · exact ⟨Fr.refl _ _, Nat.zero_le _, (fun _ => ⟨rfl, hb5⟩), (fun h => by omega)⟩
  · rintro ⟨k, v, zs⟩ j w1 ⟨f2, hk0, hv0, hv1⟩
    replace FR := FR.put f2 (by intro i hi; simp only [List.mem_cons, List.mem_singleton, List.not_mem_nil, or_false] at hi; rcases hi with rfl; all_goals (first | (left; simp; done) | (right; omega)))
    replace hin := hin.fr f2 (by intro b hb hm; have := hD b hb; first | (simp at hm; done) | (simp only [List.mem_singleton] at hm; omega))
    have G3 := f2
    have HG3 := Fr.refl [b5] w1
    refine DC.seq ?_
    refine DC.region ?_
    refine DL.if rfl rfl (Y.lt rfl rfl) (fun c14 => ?_) (fun c14 => ?_)
    · have hk : k < 1 := by omega
      obtain rfl : k = 0 := by omega
      obtain ⟨rfl, hb5⟩ := hv0 rfl
      clear hv0 hv1
      obtain ⟨ba, oa, rfl, hba, hcl, hcs1⟩ := hin.row 0 (by simp)
      obtain ⟨a', c', xs', hx', hin'⟩ := gv_list (hin.gv 0 (by simp))
      refine DL.nil ?_
      show DC _ _ _ _ _ _
      refine DC.seq ?_
      refine DC.condT rfl ?_
      refine DC.skip ?_
      show DC _ _ _ _ _ _
      refine DC.seq ?_
      refine DC.block ?_
      refine DC.seq ?_
      refine DC.region ?_
      refine DL.y rfl rfl (Y.index F.sl60 rfl rfl (rfl) (hk)) ?_
      refine DL.y rfl rfl (Y.load (v := .iface 60 (.slice a' (wrapL l lv).length c')) F.sc20 rfl (hcl.cell 0 (v := .iface 60 (.slice a' (wrapL l lv).length c')) (by show (#[ys 0] : Array Value)[0]? = _; rw [hx']; rfl))) ?_
      refine DL.y rfl rfl (Y.assign) ?_
      refine DL.nil ?_
      show DC _ _ _ _ _ _
      refine DC.seq ?_
      refine DC.region ?_
      refine DL.y rfl rfl (Y.move) ?_
      refine DL.y rfl rfl (Y.asYes F.if60 rfl) ?_
      refine DL.y rfl rfl (Y.move) ?_
      refine DL.y rfl rfl (Y.extract rfl rfl) ?_
      refine DL.y rfl rfl (Y.extract rfl rfl) ?_
      refine DL.y rfl rfl (Y.assign) ?_
      refine DL.y rfl rfl (Y.assign) ?_
      refine DL.nil ?_
      show DC _ _ _ _ _ _
      refine DC.seq ?_
      refine DC.region ?_
      refine DL.y rfl rfl (Y.move) ?_
      refine DL.y rfl rfl (Y.move) ?_
      refine DL.y rfl rfl (Y.move) ?_
      refine DL.y rfl rfl (Y.fne rfl rfl (r := true) hfb.2) ?_
      refine DL.y rfl rfl (Y.pickT rfl) ?_
      refine DL.nil ?_
      show DC _ _ _ _ _ _
      refine DC.condT rfl ?_
      refine DC.region ?_
      refine DL.y rfl rfl (Y.move) ?_
      refine DL.y rfl rfl (Y.move) ?_
      refine DL.y rfl rfl (Y.move) ?_
      refine DL.y rfl rfl (Y.farith rfl rfl hfb.1) ?_
      refine DL.call rfl rfl F.nm48 rfl (ih xs' a' c' D B b5 _ hin' hb5 hD hB5) ?_
      rintro v31 w4 f5 ⟨zs2, hown2, hgv2⟩
      replace FR := FR.put f5 (by intro i hi; simp only [List.mem_cons, List.mem_singleton, List.not_mem_nil, or_false] at hi; rcases hi with rfl; all_goals (first | (left; simp; done) | (right; omega)))
      replace G3 := G3.put f5 (by intro i hi; simp only [List.mem_cons, List.mem_singleton, List.not_mem_nil, or_false] at hi; rcases hi with rfl; all_goals (first | (left; simp; done) | (right; omega)))
      replace HG3 := HG3.put f5 (by intro i hi; simp only [List.mem_cons, List.mem_singleton, List.not_mem_nil, or_false] at hi; rcases hi with rfl; all_goals (first | (left; simp; done) | (right; omega)))
      replace hin := hin.fr f5 (by intro b hb hm; have := hD b hb; first | (simp at hm; done) | (simp only [List.mem_singleton] at hm; omega))
      refine DL.y rfl rfl (Y.assign) ?_
      refine DL.nil ?_
      show DC _ _ _ _ _ _
      refine DC.region ?_
      refine DL.y rfl rfl (Y.addI (c := ((0 + 1 : Nat) : Int)) rfl rfl (by omega) (by omega) (by omega)) ?_
      refine DL.y rfl rfl (Y.move) ?_
      refine DL.nil ?_
      exact ⟨(0 + 1, v31, zs2), ⟨G3, by omega, (fun h => by omega), fun _ => ⟨hown2, hgv2⟩⟩, by show 1 - (0 + 1) < 1 - 0; omega, rfl, rfl⟩
    · obtain rfl : k = 1 := by omega
      obtain ⟨hown, hgv⟩ := hv1 rfl
      refine DL.nil ?_
      show DC _ _ _ _ _ _
      refine DC.seq ?_
      refine DC.condF rfl ?_
      refine DC.exit ?_
      show DC _ _ _ _ _ _
      refine DC.seq ?_
      refine DC.region ?_
      refine DL.y rfl rfl (Y.move) ?_
      refine DL.y rfl rfl (Y.assign) ?_
      refine DL.nil ?_
      show DC _ _ _ _ _ _
      refine DC.ret ?_
      exact FinQ.ret1 rfl (Ret.mk FR ⟨zs, hown, hgv⟩)


theorem flatC_any (l : List V) (hl : l.length ≤ 1000000) : ∀ j, j ≤ 11 → FlatC l j
  | 0, _ => flatC_zero l hl
  | j + 1, h => flatC_step l j (by omega) (flatC_any l hl j (by omega))

end Go.Proofs.YtmbleojlnaofjaaDoor
