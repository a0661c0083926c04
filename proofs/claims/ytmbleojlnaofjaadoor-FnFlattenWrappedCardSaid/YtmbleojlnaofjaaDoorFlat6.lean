/- The walk of gojq.flatten. -/
import Derived.Test.YtmbleojlnaofjaaDoorFlat5
namespace Go.Proofs.YtmbleojlnaofjaaDoor
open Go Go.RowKit D Go.Deep
set_option linter.unusedVariables false
set_option linter.unusedSimpArgs false


/-- Whether a value of the program's own is a list. -/
def isLi : Value → Bool
  | .iface 60 _ => true
  | _ => false
def liOf : Value → Value
  | .iface 60 v => v
  | _ => .slice none 0 0
theorem asLi {e : Env} {w : World} {dst : Option Tmp} {ty : TypeId} {pos : String} {af : Array Edge} {g : Option (Nat × Bool)} {x : Operand} {s : TypeId} {v : Value} {V0 : V} {D : Nat → Prop} {w0 : World} (hx : ev e x = v) (h : GV w0 D V0 v) {b : Bool} (hb : isLi v = b) : Y Tryd.prog e ⟨dst, .typeAssert x s 60 true, ty, pos, af, g⟩ w (.tuple #[liOf v, .bool b]) := by
  subst hb
  cases h with
  | null => exact Y.asNil F.if60 F.z60 hx
  | fls => exact Y.asNo F.if60 F.z60 hx rfl
  | tru => exact Y.asNo F.if60 F.z60 hx rfl
  | whole h => exact Y.asNo F.if60 F.z60 hx rfl
  | frac h => exact Y.asNo F.if60 F.z60 hx rfl
  | text => exact Y.asNo F.if60 F.z60 hx rfl
  | list xs hr hx' => exact Y.asYes F.if60 hx
  | map es xs hd hr hs he hx' => exact Y.asNo F.if60 F.z60 hx rfl
def wrapL (l : List V) : Nat → List V
  | 0 => l
  | j + 1 => [.mk 5 0 ⟨#[]⟩ (wrapL l j) [] []]
def fb (j : Nat) : Nat := FloatKind.f64.nearest (j : Int)
theorem fb_step : ∀ j, j < 11 → floatBits .sub .f64 (fb (j + 1)) 4607182418800017408 = some (fb j) ∧ (FloatKind.f64.format.order (fb (j + 1)) 0 != some .eq) = true
  | 0, _ => by decide +kernel
  | 1, _ => by decide +kernel
  | 2, _ => by decide +kernel
  | 3, _ => by decide +kernel
  | 4, _ => by decide +kernel
  | 5, _ => by decide +kernel
  | 6, _ => by decide +kernel
  | 7, _ => by decide +kernel
  | 8, _ => by decide +kernel
  | 9, _ => by decide +kernel
  | 10, _ => by decide +kernel
  | j + 11, h => by omega
theorem fb_zero : (FloatKind.f64.format.order (fb 0) 0 != some .eq) = false := by decide +kernel
theorem range_snoc (f : Nat → Value) (k : Nat) : (List.range (k + 1)).map f = (List.range k).map f ++ [f k] := by simp [List.range_succ]


theorem gv_cells {w : World} {D : Nat → Prop} {v : V} {x : Value} (h : GV w D v x) : x.cells = #[x] := by cases h <;> rfl
theorem gv_all1 {w : World} {D : Nat → Prop} {v : V} {x : Value} (h : GV w D v x) : (#[x] : Array Value).all (·.oneCell') = true := by
  have := h.one
  simp only [Array.all_eq_true]
  intro i hi
  have hi0 : i = 0 := by have : i < 1 := hi; omega
  subst hi0
  exact this

set_option maxHeartbeats 1000000 in
theorem flat_zero (l : List V) (ys : Nat → Value) (a : Option Addr) (c : Nat) (D : Nat → Prop) (B b5 : Nat) (w : World) (hin : InL w D a l ys) (hb5 : w.heap[b5]? = some (.cells #[] 20 (0, 0))) (hD : ∀ b, D b → b < B) (hB5 : B ≤ b5) (hl : l.length ≤ 1000000) :
    Calls Tryd.prog 48 #[.slice (some ⟨b5, 0, none⟩) 0 0, .slice a l.length c, .float .f64 (fb 0)] w (Ret w [b5] fun v w' => w'.ownsRow B 20 1 v l.length ((List.range l.length).map ys) ∧ InL w' D a l ys) := by
  refine calls_of Tryd.func48 rfl rfl rfl rfl ?_
  have FR := Fr.refl [b5] w
  refine DC.seq ?_
  refine DC.region ?_
  refine DL.y rfl rfl (Y.assign) ?_
  refine DL.nil ?_
  show DC _ _ _ _ _ _
  refine DC.seq ?_
  refine DC.seq ?_
  refine DC.region ?_
  refine DL.y rfl rfl (Y.move) ?_
  refine DL.y rfl rfl (Y.lenS Tryd.underlying60 rfl) ?_
  refine DL.y rfl rfl (Y.move) ?_
  refine DL.nil ?_
  show DC _ _ _ _ _ _
  refine DC.block ?_
  obtain ⟨Bx, hBx⟩ : ∃ Bx, Bx = w.heap.size := ⟨_, rfl⟩
  have hBxw := FR.size
  rw [← hBx] at hBxw
  have hb5l := lt_of_blk hb5
  refine DC.loop (σ := Nat × Value) [(0, 0), (8, 10), (13, 36)] (fun (k, v) => [(0, v), (13, .int .i64 (k : Int))]) (fun sg wl => Fr [b5] w wl ∧ (fun (k, v) wl => k ≤ l.length ∧ wl.ownsRow B 20 1 v k ((List.range k).map ys) ∧ ∀ b, v.ownBlock = some b → b = b5 ∨ Bx ≤ b) sg wl) (fun (k, _) => l.length - k) ((0, .slice (some ⟨b5, 0, none⟩) 0 0)) rfl ?_ ?_ ?_
  · exact ⟨rfl, rfl⟩
  · exact ⟨Fr.refl _ _, Nat.zero_le _, own_empty hb5 hB5, (fun b hb => Or.inl (by simpa [Value.ownBlock, eq_comm] using hb))⟩
  · rintro ⟨k, v⟩ j w1 ⟨f2, hk0, hown, hvo⟩
    replace FR := FR.put f2 (by intro i hi; simp only [List.mem_cons, List.mem_singleton, List.not_mem_nil, or_false] at hi; rcases hi with rfl; all_goals (first | (left; simp; done) | (right; omega)))
    replace hin := hin.fr f2 (by intro b hb hm; have := hD b hb; first | (simp at hm; done) | (simp only [List.mem_singleton] at hm; omega))
    have G3 := f2
    have HG3 := Fr.refl [b5] w1
    refine DC.seq ?_
    refine DC.region ?_
    refine DL.if rfl rfl (Y.lt rfl rfl) (fun c14 => ?_) (fun c14 => ?_)
    · have hk : k < l.length := by omega
      obtain ⟨ba, oa, rfl, hba, hcl, hcs1⟩ := hin.row k hk
      have hk' := hk
      refine DL.nil ?_
      show DC _ _ _ _ _ _
      refine DC.seq ?_
      refine DC.condT rfl ?_
      refine DC.skip ?_
      show DC _ _ _ _ _ _
      refine DC.seq ?_
      refine DC.block ?_
      refine DC.seq ?_
      refine DC.region ?_
      refine DL.y rfl rfl (Y.index F.sl60 rfl rfl (rfl) (hk)) ?_
      refine DL.y rfl rfl (Y.load (v := ys k) F.sc20 rfl (hcl.cell 0 (v := ys k) rfl)) ?_
      refine DL.y rfl rfl (Y.assign) ?_
      refine DL.nil ?_
      show DC _ _ _ _ _ _
      refine DC.seq ?_
      refine DC.region ?_
      refine DL.y rfl rfl (Y.move) ?_
      refine (Bool.eq_false_or_eq_true (isLi (ys k))).elim (fun hli => ?_) (fun hli => ?_)
      · refine DL.y rfl rfl (asLi rfl (hin.gv k hk) hli) ?_
        refine DL.y rfl rfl (Y.move) ?_
        refine DL.y rfl rfl (Y.extract rfl rfl) ?_
        refine DL.y rfl rfl (Y.extract rfl rfl) ?_
        refine DL.y rfl rfl (Y.assign) ?_
        refine DL.y rfl rfl (Y.assign) ?_
        refine DL.nil ?_
        show DC _ _ _ _ _ _
        refine DC.seq ?_
        refine DC.region ?_
        refine DL.y rfl rfl (Y.move) ?_
        refine DL.y rfl rfl (Y.move) ?_
        refine DL.y rfl rfl (Y.move) ?_
        refine DL.y rfl rfl (Y.fne rfl rfl (r := false) fb_zero) ?_
        refine DL.y rfl rfl (Y.pickT rfl) ?_
        refine DL.nil ?_
        show DC _ _ _ _ _ _
        refine DC.condF rfl ?_
        refine DC.region ?_
        refine DL.y rfl rfl (Y.move) ?_
        refine DL.y rfl rfl (Y.move) ?_
        refine DL.buildSl1 (cs := #[ys k]) rfl rfl F.el60 rfl (gv_cells (hin.gv k hk)) rfl ?_
        intro b34 w4 f5 lo34 hi34 hb34
        have lo34G3 := Nat.le_trans G3.size lo34
        have lo34HG3 := Nat.le_trans HG3.size lo34
        replace lo34 := Nat.le_trans FR.size lo34
        replace FR := FR.tr0 f5
        replace G3 := G3.tr0 f5
        replace HG3 := HG3.tr0 f5
        replace hin := hin.fr f5 (by intro b hb hm; have := hD b hb; first | (simp at hm; done) | (simp only [List.mem_singleton] at hm; omega))
        replace hown := ownsRow_fr hown f5 (by intro b hb; first | (simp at hb; done) | exact own_ne hown (by first | (left; simp at hb; omega) | (right; simp at hb; omega)))
        have hBcur : Bx ≤ w4.heap.size := by have := G3.size; omega
        refine DL.appendAt rfl rfl F.el60 rfl rfl hown (.ofBlk hb34) rfl (gv_all1 (hin.gv k hk)) (by omega) (by omega) (by have := G3.size; omega) ?_
        intro v2 w6 f7 hown' hat
        have hoL : ∀ i ∈ ownL v, i = b5 ∨ Bx ≤ i := fun i hi => hvo i (mem_ownL.1 hi)
        replace FR := FR.put f7 (fun i hi => by rcases hoL i hi with h | h; exact Or.inl (by simp [h]); exact Or.inr (by omega))
        replace G3 := G3.put f7 (fun i hi => by rcases hoL i hi with h | h; exact Or.inl (by simp [h]); exact Or.inr (by omega))
        replace hin := hin.fr f7 (fun b hb hm => by have := hD b hb; have := (own_ge hown b hm).1; omega)
        have hvo2 : ∀ b, v2.ownBlock = some b → b = b5 ∨ Bx ≤ b := fun b hb => by
          rcases hat with h | h
          · exact hvo b (h ▸ hb)
          · rw [h] at hb; cases hb; exact Or.inr hBcur
        replace hown := hown'
        refine DL.y rfl rfl (Y.assign) ?_
        refine DL.nil ?_
        show DC _ _ _ _ _ _
        refine DC.region ?_
        refine DL.y rfl rfl (Y.addI (c := ((k + 1 : Nat) : Int)) rfl rfl (by omega) (by omega) (by omega)) ?_
        refine DL.y rfl rfl (Y.move) ?_
        refine DL.nil ?_
        refine ⟨(k + 1, v2), ⟨G3, hk, ?_, hvo2⟩, by show l.length - (k + 1) < l.length - k; omega, rfl, rfl⟩
        rw [range_snoc]; exact hown
      · refine DL.y rfl rfl (asLi rfl (hin.gv k hk) hli) ?_
        refine DL.y rfl rfl (Y.move) ?_
        refine DL.y rfl rfl (Y.extract rfl rfl) ?_
        refine DL.y rfl rfl (Y.extract rfl rfl) ?_
        refine DL.y rfl rfl (Y.assign) ?_
        refine DL.y rfl rfl (Y.assign) ?_
        refine DL.nil ?_
        show DC _ _ _ _ _ _
        refine DC.seq ?_
        refine DC.region ?_
        refine DL.y rfl rfl (Y.move) ?_
        refine DL.y rfl rfl (Y.move) ?_
        refine DL.skip rfl rfl ?_
        refine DL.skip rfl rfl ?_
        refine DL.y rfl rfl (Y.pickF rfl) ?_
        refine DL.nil ?_
        show DC _ _ _ _ _ _
        refine DC.condF rfl ?_
        refine DC.region ?_
        refine DL.y rfl rfl (Y.move) ?_
        refine DL.y rfl rfl (Y.move) ?_
        refine DL.buildSl1 (cs := #[ys k]) rfl rfl F.el60 rfl (gv_cells (hin.gv k hk)) rfl ?_
        intro b34 w8 f9 lo34 hi34 hb34
        have lo34G3 := Nat.le_trans G3.size lo34
        have lo34HG3 := Nat.le_trans HG3.size lo34
        replace lo34 := Nat.le_trans FR.size lo34
        replace FR := FR.tr0 f9
        replace G3 := G3.tr0 f9
        replace HG3 := HG3.tr0 f9
        replace hin := hin.fr f9 (by intro b hb hm; have := hD b hb; first | (simp at hm; done) | (simp only [List.mem_singleton] at hm; omega))
        replace hown := ownsRow_fr hown f9 (by intro b hb; first | (simp at hb; done) | exact own_ne hown (by first | (left; simp at hb; omega) | (right; simp at hb; omega)))
        have hBcur : Bx ≤ w8.heap.size := by have := G3.size; omega
        refine DL.appendAt rfl rfl F.el60 rfl rfl hown (.ofBlk hb34) rfl (gv_all1 (hin.gv k hk)) (by omega) (by omega) (by have := G3.size; omega) ?_
        intro v2 w10 f11 hown' hat
        have hoL : ∀ i ∈ ownL v, i = b5 ∨ Bx ≤ i := fun i hi => hvo i (mem_ownL.1 hi)
        replace FR := FR.put f11 (fun i hi => by rcases hoL i hi with h | h; exact Or.inl (by simp [h]); exact Or.inr (by omega))
        replace G3 := G3.put f11 (fun i hi => by rcases hoL i hi with h | h; exact Or.inl (by simp [h]); exact Or.inr (by omega))
        replace hin := hin.fr f11 (fun b hb hm => by have := hD b hb; have := (own_ge hown b hm).1; omega)
        have hvo2 : ∀ b, v2.ownBlock = some b → b = b5 ∨ Bx ≤ b := fun b hb => by
          rcases hat with h | h
          · exact hvo b (h ▸ hb)
          · rw [h] at hb; cases hb; exact Or.inr hBcur
        replace hown := hown'
        refine DL.y rfl rfl (Y.assign) ?_
        refine DL.nil ?_
        show DC _ _ _ _ _ _
        refine DC.region ?_
        refine DL.y rfl rfl (Y.addI (c := ((k + 1 : Nat) : Int)) rfl rfl (by omega) (by omega) (by omega)) ?_
        refine DL.y rfl rfl (Y.move) ?_
        refine DL.nil ?_
        refine ⟨(k + 1, v2), ⟨G3, hk, ?_, hvo2⟩, by show l.length - (k + 1) < l.length - k; omega, rfl, rfl⟩
        rw [range_snoc]; exact hown
    · refine DL.nil ?_
      show DC _ _ _ _ _ _
      refine DC.seq ?_
      refine DC.condF rfl ?_
      refine DC.exit ?_
      show DC _ _ _ _ _ _
      refine DC.seq ?_
      refine DC.region ?_
      refine DL.y rfl rfl (Y.move) ?_
      refine DL.y rfl rfl (Y.assign) ?_
      refine DL.nil ?_
      show DC _ _ _ _ _ _
      refine DC.ret ?_
      have hke : k = l.length := by omega
      subst hke
      exact FinQ.ret1 rfl (Ret.mk FR ⟨hown, hin⟩)

end Go.Proofs.YtmbleojlnaofjaaDoor
