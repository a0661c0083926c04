/- The walk of listFromGo. -/
import Derived.Test.YtmbleojlnaofjaaDoorFlat1
import Derived.Test.YtmbleojlnaofjaaDoorFlat2
import Derived.Test.YtmbleojlnaofjaaDoorO9
import Derived.Test.YtmbleojlnaofjaaDoorO8
namespace Go.Proofs.YtmbleojlnaofjaaDoor
open Go Go.RowKit D Go.Deep
set_option linter.unusedVariables false
set_option linter.unusedSimpArgs false


def arrC (sl : Value) : Array Value := #[.int .i64 5, .int .i64 0, .string ⟨#[]⟩, sl, .slice none 0 0, .slice none 0 0]
def mapC (sk sv : Value) : Array Value := #[.int .i64 6, .int .i64 0, .string ⟨#[]⟩, .slice none 0 0, sk, sv]
def valC (kind half : Int) (s : ByteArray) : Array Value := #[.int .i64 kind, .int .i64 half, .string s, .slice none 0 0, .slice none 0 0, .slice none 0 0]
theorem leafD (w : World) (D : Nat → Prop) {kind half : Int} {s : ByteArray} (hk : -9223372036854775808 ≤ kind ∧ kind ≤ 9223372036854775807) (hh : -9223372036854775808 ≤ half ∧ half ≤ 9223372036854775807) (hs : s.size ≤ 140737488351232) : RVD w D (.mk kind half s [] [] []) (valC kind half s) :=
  .mk (fun _ => #[]) (fun _ => #[]) hk hh hs (by simp) (by simp) (by simp) (by simp) (fun i hi => absurd hi (by simp)) (fun i hi => absurd hi (by simp)) (fun i hi => absurd hi (by simp)) (fun i hi => absurd hi (by simp)) (fun i hi => absurd hi (by simp))
theorem arrD {w : World} {B H : Nat} {l : List V} {sl : Value} {css : List (Array Value)} {X : Nat → Prop} (h : ColV w 26 B H X l l.length sl css) (hn : l.length ≤ 1000000) : RVD w (fun b => B ≤ b ∧ b < H) (.mk 5 0 ⟨#[]⟩ l [] []) (arrC sl) := by
  obtain ⟨a, c, rfl, hr, hv⟩ := h.done
  exact .mk (fun i => css.getD i #[]) (fun _ => #[]) (by omega) (by omega) (by decide) (by omega) (by simp) (by simp) (by simp) hr hv (fun i hi => absurd hi (by simp)) (fun i hi => absurd hi (by simp)) (fun i hi => absurd hi (by simp))
theorem mapD {w : World} {B H : Nat} {keys : List ByteArray} {vals : List V} {slk slv : Value} {css : List (Array Value)} (h : KV w 26 9 B H keys keys.length slk vals vals.length slv css) (hn : keys.length ≤ 1000000) (hn2 : vals.length ≤ 1000000) (hk : ∀ s ∈ keys, s.size ≤ 1000000) :
    RVD w (fun b => B ≤ b ∧ b < H) (.mk 6 0 ⟨#[]⟩ [] keys vals) (mapC slk slv) := by
  obtain ⟨a, c, rfl, hr, hv⟩ := h.vo.done
  have ho := h.ko
  rw [List.take_length] at ho
  obtain ⟨a2, c2, rfl, hr2⟩ := row_keys ho h.kl
  exact .mk (fun _ => #[]) (fun i => css.getD i #[]) (by omega) (by omega) (by decide) (by simp) (by omega) (by omega) (fun s hs => by have := hk s hs; omega) (fun i hi => absurd hi (by simp)) (fun i hi => absurd hi (by simp)) hr2 hr hv
theorem own_sl {w : World} {B e size n : Nat} {v : Value} {xs : List Value} (h : w.ownsRow B e size v n xs) : ∃ a n c, v = .slice a n c := by
  obtain ⟨a, c, rfl, _⟩ := own_cells h; exact ⟨a, n, c, rfl⟩
theorem own_one {w : World} {B e size n : Nat} {v : Value} {xs : List Value} (h : w.ownsRow B e size v n xs) : v.oneCell' = true := by
  obtain ⟨a, n, c, rfl⟩ := own_sl h; rfl
theorem arr_one {v : Value} (h : ∃ a n c, v = .slice a n c) : (arrC v).all (·.oneCell') = true := by
  obtain ⟨a, n, c, rfl⟩ := h; kernel_rfl
theorem map_one {a b : Value} (h : ∃ x n c, a = .slice x n c) (h2 : ∃ x n c, b = .slice x n c) : (mapC a b).all (·.oneCell') = true := by
  obtain ⟨x, n, c, rfl⟩ := h; obtain ⟨x2, n2, c2, rfl⟩ := h2; kernel_rfl
def FromC (m : Nat) : Prop := ∀ (v : V) (x : Value) (D : Nat → Prop) (w : World), v.nodes ≤ m → v.nodes ≤ 1000000 → v.bytes ≤ 1000000 → Good v → GV w D v x → (∀ b, D b → b < w.heap.size) →
  Calls Tryd.prog 43 #[x] w (Ret w [] fun r w' => ∃ cs, r = .tuple #[.agg cs, .bool true] ∧ RVD w' (fun b => w.heap.size ≤ b ∧ b < w'.heap.size) v cs)
/-- A new element, in the words of a row that is collected. -/
theorem off_of {w : World} {B : Nat} {v : V} {cs : Array Value} {X : Nat → Prop} {sl : Value} {lo hi : Nat} (h : RVD w (fun b => lo ≤ b ∧ b < hi) v cs) (hB : B ≤ lo) (hhi : hi ≤ w.heap.size) (h1 : ∀ b, sl.ownBlock = some b → b < lo) (h2 : ∀ b, X b → b < lo) :
    RVD w (fun b => B ≤ b ∧ b < w.heap.size ∧ sl.ownBlock ≠ some b ∧ ¬ X b) v cs :=
  h.mono (fun b hb => ⟨by omega, by omega, fun hx => by have := h1 b hx; omega, fun hx => by have := h2 b hx; omega⟩)

set_option maxHeartbeats 1000000 in
theorem listFromGo_step (m : Nat) (ih : FromC m) (l : List V) (xs : Nat → Value) (a : Option Addr) (c : Nat) (D : Nat → Prop) (w : World) (hm : V.nodesL l ≤ m) (hm2 : V.nodesL l ≤ 1000000) (hby : V.bytesL l ≤ 1000000) (hg : ∀ i (h : i < l.length), Good l[i]) (hin : InL w D a l xs) (hD : ∀ b, D b → b < w.heap.size) :
    Calls Tryd.prog 51 #[.slice a l.length c] w (Ret w [] fun r w' => ∃ cs, r = .tuple #[.agg cs, .bool true] ∧ RVD w' (fun b => w.heap.size ≤ b ∧ b < w'.heap.size) (.mk 5 0 ⟨#[]⟩ l [] []) cs) := by
  have hll := length_le_nodesL l
  refine calls_of Tryd.func51 rfl rfl rfl rfl ?_
  have FR := Fr.refl [] w
  refine DC.seq ?_
  refine DC.region ?_
  refine DL.alloc rfl rfl F.z26 rfl ?_
  intro b2 w1 f2 lo2 hi2 hb2
  replace lo2 := Nat.le_trans FR.size lo2
  replace FR := FR.tr0 f2
  replace hin := hin.fr f2 (by intro b hb hm; have := hD b hb; first | (simp at hm; done) | (simp only [List.mem_singleton] at hm; omega))
  refine DL.y rfl rfl (Y.assign) ?_
  refine DL.nil ?_
  show DC _ _ _ _ _ _
  refine DC.seq ?_
  refine DC.region ?_
  refine DL.y rfl rfl (Y.build (cs := arrC (.slice none 0 0)) (by kernel_rfl)) ?_
  refine DL.alloc rfl rfl F.z26 rfl ?_
  intro b4 w3 f4 lo4 hi4 hb4
  have lt_b2_b4 : b2 < b4 := Nat.lt_of_lt_of_le hi2 lo4
  replace lo4 := Nat.le_trans FR.size lo4
  replace FR := FR.tr0 f4
  replace hin := hin.fr f4 (by intro b hb hm; have := hD b hb; first | (simp at hm; done) | (simp only [List.mem_singleton] at hm; omega))
  replace hb2 := f4.blk0 hb2
  replace hi2 := Nat.lt_of_lt_of_le hi2 f4.size
  refine DL.storeA rfl F.ag26 rfl rfl rfl (by kernel_rfl) hb4 rfl ?_
  intro w5 f6 hs7 hb4'
  replace FR := FR.put f6 (by intro i hi; simp only [List.mem_cons, List.mem_singleton, List.not_mem_nil, or_false] at hi; rcases hi with rfl; all_goals (first | (left; simp; done) | (right; omega)))
  replace hin := hin.fr f6 (by intro b hb hm; have := hD b hb; first | (simp at hm; done) | (simp only [List.mem_singleton] at hm; omega))
  replace hb2 := f6.blk hb2 (by simp only [List.mem_cons, List.not_mem_nil, or_false, not_or]; omega)
  replace hi2 := Nat.lt_of_lt_of_le hi2 f6.size
  replace hi4 := Nat.lt_of_lt_of_le hi4 f6.size
  replace hb4 := hb4'
  refine DL.nil ?_
  show DC _ _ _ _ _ _
  refine DC.seq ?_
  refine DC.seq ?_
  refine DC.region ?_
  refine DL.y rfl rfl (Y.move) ?_
  refine DL.y rfl rfl (Y.lenS Tryd.underlying60 rfl) ?_
  refine DL.y rfl rfl (Y.move) ?_
  refine DL.nil ?_
  show DC _ _ _ _ _ _
  refine DC.block ?_
  obtain ⟨B0, hB0⟩ : ∃ B0, B0 = w5.heap.size := ⟨_, rfl⟩
  have hB0w := FR.size
  rw [← hB0] at hB0w
  have hb4B : b4 < B0 := by omega
  have hb2B : b2 < B0 := by omega
  refine DC.loop (σ := Nat × Value × List (Array Value)) [(3, 3), (6, 8), (12, 30)] (fun (k, _, _) => [(12, .int .i64 (k : Int))]) (fun sg wl => Fr [b4] w5 wl ∧ (fun (k, sl, css) wl => k ≤ l.length ∧ wl.heap[b4]? = some (.cells (arrC sl) 26 (0, 0)) ∧ ColV wl 26 B0 wl.heap.size (fun _ => False) l k sl css) sg wl) (fun (k, _, _) => l.length - k) ((0, .slice none 0 0, [])) rfl ?_ ?_ ?_
  · exact rfl
  · exact ⟨Fr.refl _ _, Nat.zero_le _, hb4, ColV.nil _ _ _ _ _ _⟩
  · rintro ⟨k, sl, css⟩ j w8 ⟨f9, hk0, hb4, hcol⟩
    replace FR := FR.put f9 (by intro i hi; simp only [List.mem_cons, List.mem_singleton, List.not_mem_nil, or_false] at hi; rcases hi with rfl; all_goals (first | (left; simp; done) | (right; omega)))
    replace hin := hin.fr f9 (by intro b hb hm; have := hD b hb; first | (simp at hm; done) | (simp only [List.mem_singleton] at hm; omega))
    replace hb2 := f9.blk hb2 (by simp only [List.mem_cons, List.not_mem_nil, or_false, not_or]; omega)
    replace hi2 := Nat.lt_of_lt_of_le hi2 f9.size
    replace hi4 := Nat.lt_of_lt_of_le hi4 f9.size
    have G10 := f9
    have HG10 := Fr.refl [b4] w8
    refine DC.seq ?_
    refine DC.region ?_
    refine DL.if rfl rfl (Y.lt rfl rfl) (fun c13 => ?_) (fun c13 => ?_)
    · have hk : k < l.length := by omega
      obtain ⟨ba, oa, rfl, hba, hcl, hcs1⟩ := hin.row k hk
      obtain ⟨H0, hH0⟩ : ∃ H0, H0 = w8.heap.size := ⟨_, rfl⟩
      rw [← hH0] at hcol
      refine DL.nil ?_
      show DC _ _ _ _ _ _
      refine DC.seq ?_
      refine DC.condT rfl ?_
      refine DC.skip ?_
      show DC _ _ _ _ _ _
      refine DC.seq ?_
      refine DC.block ?_
      refine DC.seq ?_
      refine DC.region ?_
      refine DL.y rfl rfl (Y.index F.sl60 rfl rfl (rfl) (hk)) ?_
      refine DL.y rfl rfl (Y.load (v := xs k) F.sc20 rfl (hcl.cell 0 (v := xs k) rfl)) ?_
      refine DL.y rfl rfl (Y.assign) ?_
      refine DL.nil ?_
      show DC _ _ _ _ _ _
      refine DC.seq ?_
      refine DC.region ?_
      refine DL.y rfl rfl (Y.move) ?_
      obtain ⟨lo, hlo⟩ : ∃ lo, lo = w8.heap.size := ⟨_, rfl⟩
      have hBlo : B0 ≤ lo := by have := G10.size; omega
      have hH0lo : H0 ≤ lo := by have := HG10.size; omega
      refine DL.call rfl rfl F.nm43 rfl (ih _ _ _ _ (by have := nodes_le hk; omega) (by have := nodes_le hk; omega) (by have := bytes_le hk; omega) (hg k hk) (hin.gv k hk) (fun b hb => by have := hD b hb; have := FR.size; omega)) ?_
      rintro _ w11 f12 ⟨ce, rfl, hce⟩
      replace FR := FR.tr0 f12
      replace G10 := G10.tr0 f12
      replace HG10 := HG10.tr0 f12
      replace hin := hin.fr f12 (by intro b hb hm; have := hD b hb; first | (simp at hm; done) | (simp only [List.mem_singleton] at hm; omega))
      replace hb2 := f12.blk0 hb2
      replace hi2 := Nat.lt_of_lt_of_le hi2 f12.size
      replace hi4 := Nat.lt_of_lt_of_le hi4 f12.size
      replace hb4 := f12.blk0 hb4
      replace hcol := hcol.fr f12 (by intro b hb; first | (simp at hb; done) | (simp only [List.mem_singleton] at hb; omega))
      obtain ⟨hi, hhi⟩ : ∃ hi, hi = w11.heap.size := ⟨_, rfl⟩
      rw [← hlo, ← hhi] at hce
      have hle := Nat.le_of_eq hhi
      refine DL.y rfl rfl (Y.move) ?_
      refine DL.y rfl rfl (Y.extract rfl rfl) ?_
      refine DL.y rfl rfl (Y.extract rfl rfl) ?_
      refine DL.alloc rfl rfl F.z26 rfl ?_
      intro b7 w13 f14 lo7 hi7 hb7
      have lt_b2_b7 : b2 < b7 := Nat.lt_of_lt_of_le hi2 lo7
      have lt_b4_b7 : b4 < b7 := Nat.lt_of_lt_of_le hi4 lo7
      have le_hi_b7 : hi ≤ b7 := Nat.le_trans hle lo7
      have lo7G10 := Nat.le_trans G10.size lo7
      have lo7HG10 := Nat.le_trans HG10.size lo7
      replace lo7 := Nat.le_trans FR.size lo7
      replace FR := FR.tr0 f14
      replace G10 := G10.tr0 f14
      replace HG10 := HG10.tr0 f14
      replace hin := hin.fr f14 (by intro b hb hm; have := hD b hb; first | (simp at hm; done) | (simp only [List.mem_singleton] at hm; omega))
      replace hb2 := f14.blk0 hb2
      replace hi2 := Nat.lt_of_lt_of_le hi2 f14.size
      replace hi4 := Nat.lt_of_lt_of_le hi4 f14.size
      replace hb4 := f14.blk0 hb4
      replace hcol := hcol.fr f14 (by intro b hb; first | (simp at hb; done) | (simp only [List.mem_singleton] at hb; omega))
      replace hce := hce.fr f14 (by intro b hb hm; first | (simp at hm; done) | (simp only [List.mem_singleton] at hm; omega))
      replace hle := Nat.le_trans hle f14.size
      refine DL.storeA (cs := ce) rfl F.ag26 rfl rfl hce.size hce.one hb7 rfl ?_
      intro w15 f16 hs17 hb7'
      replace FR := FR.put f16 (by intro i hi; simp only [List.mem_cons, List.mem_singleton, List.not_mem_nil, or_false] at hi; rcases hi with rfl; all_goals (first | (left; simp; done) | (right; omega)))
      replace G10 := G10.put f16 (by intro i hi; simp only [List.mem_cons, List.mem_singleton, List.not_mem_nil, or_false] at hi; rcases hi with rfl; all_goals (first | (left; simp; done) | (right; omega)))
      replace HG10 := HG10.put f16 (by intro i hi; simp only [List.mem_cons, List.mem_singleton, List.not_mem_nil, or_false] at hi; rcases hi with rfl; all_goals (first | (left; simp; done) | (right; omega)))
      replace hin := hin.fr f16 (by intro b hb hm; have := hD b hb; first | (simp at hm; done) | (simp only [List.mem_singleton] at hm; omega))
      replace hb2 := f16.blk hb2 (by simp only [List.mem_cons, List.not_mem_nil, or_false, not_or]; omega)
      replace hi2 := Nat.lt_of_lt_of_le hi2 f16.size
      replace hi4 := Nat.lt_of_lt_of_le hi4 f16.size
      replace hb4 := f16.blk hb4 (by simp only [List.mem_cons, List.not_mem_nil, or_false, not_or]; omega)
      replace hcol := hcol.fr f16 (by intro b hb; first | (simp at hb; done) | (simp only [List.mem_singleton] at hb; omega))
      replace hce := hce.fr f16 (by intro b hb hm; first | (simp at hm; done) | (simp only [List.mem_singleton] at hm; omega))
      replace hle := Nat.le_trans hle f16.size
      replace hi7 := Nat.lt_of_lt_of_le hi7 f16.size
      replace hb7 := hb7'
      refine DL.y rfl rfl (Y.assign) ?_
      refine DL.nil ?_
      show DC _ _ _ _ _ _
      refine DC.seq ?_
      refine DC.seq ?_
      refine DC.region ?_
      refine DL.y rfl rfl (Y.move) ?_
      refine DL.y rfl rfl (Y.not rfl) ?_
      refine DL.nil ?_
      show DC _ _ _ _ _ _
      refine DC.condF rfl ?_
      refine DC.skip ?_
      show DC _ _ _ _ _ _
      refine DC.region ?_
      refine DL.y rfl rfl (Y.field F.fd26_3 rfl) ?_
      refine DL.y rfl rfl (Y.loadB F.sc23 rfl hb4 rfl) ?_
      refine DL.y rfl rfl (Y.loadW rfl hb7 (by rw [hce.size]; exact F.ag26)) ?_
      refine DL.buildSl1 (cs := ce) rfl rfl (F.el23) rfl rfl hce.size ?_
      intro b27 w18 f19 lo27 hi27 hb27
      have lt_b2_b27 : b2 < b27 := Nat.lt_of_lt_of_le hi2 lo27
      have lt_b4_b27 : b4 < b27 := Nat.lt_of_lt_of_le hi4 lo27
      have le_hi_b27 : hi ≤ b27 := Nat.le_trans hle lo27
      have lt_b7_b27 : b7 < b27 := Nat.lt_of_lt_of_le hi7 lo27
      have lo27G10 := Nat.le_trans G10.size lo27
      have lo27HG10 := Nat.le_trans HG10.size lo27
      replace lo27 := Nat.le_trans FR.size lo27
      replace FR := FR.tr0 f19
      replace G10 := G10.tr0 f19
      replace HG10 := HG10.tr0 f19
      replace hin := hin.fr f19 (by intro b hb hm; have := hD b hb; first | (simp at hm; done) | (simp only [List.mem_singleton] at hm; omega))
      replace hb2 := f19.blk0 hb2
      replace hi2 := Nat.lt_of_lt_of_le hi2 f19.size
      replace hi4 := Nat.lt_of_lt_of_le hi4 f19.size
      replace hb4 := f19.blk0 hb4
      replace hcol := hcol.fr f19 (by intro b hb; first | (simp at hb; done) | (simp only [List.mem_singleton] at hb; omega))
      replace hce := hce.fr f19 (by intro b hb hm; first | (simp at hm; done) | (simp only [List.mem_singleton] at hm; omega))
      replace hle := Nat.le_trans hle f19.size
      replace hi7 := Nat.lt_of_lt_of_le hi7 f19.size
      replace hb7 := f19.blk0 hb7
      have hBw : B0 ≤ w18.heap.size := by have := G10.size; omega
      have hoff := off_of (X := fun _ => False) hce (B := B0) (by omega) (by omega) (fun b hb => by have := (hcol.lt b hb).1; omega) (fun b hb => hb.elim)
      refine DL.appendAt rfl rfl F.el23 rfl rfl hcol.own (.ofBlk hb27) hce.size hce.one (by omega) (by omega) hBw ?_
      intro sl28 w20 f21 hown' hat
      have hcol2 := hcol.snoc hk (by omega) hoff (fun h => h) f21 hown' hat
      replace FR := FR.put f21 (fun i hi => Or.inr (by have := (own_ge hcol.own i hi).1; omega))
      replace G10 := G10.put f21 (fun i hi => Or.inr (by have := (own_ge hcol.own i hi).1; omega))
      replace hin := hin.fr f21 (fun b hb hm => by have := hD b hb; have := (own_ge hcol.own b hm).1; omega)
      replace hb4 := f21.blk hb4 (fun hm => by have := (own_ge hcol.own _ hm).1; omega)
      replace hb2 := f21.blk hb2 (fun hm => by have := (own_ge hcol.own _ hm).1; omega)
      replace hi2 := Nat.lt_of_lt_of_le hi2 f21.size
      replace hi4 := Nat.lt_of_lt_of_le hi4 f21.size
      replace hcol := hcol2
      refine DL.y rfl rfl (Y.field F.fd26_3 rfl) ?_
      refine DL.storeC rfl F.co23 F.in23 rfl rfl hcol.one hb4 (by show 3 < 6; omega) (cs' := arrC sl28) rfl ?_
      intro w22 f23 hs24 hb4'
      replace FR := FR.put f23 (by intro i hi; simp only [List.mem_cons, List.mem_singleton, List.not_mem_nil, or_false] at hi; rcases hi with rfl; all_goals (first | (left; simp; done) | (right; omega)))
      replace G10 := G10.put f23 (by intro i hi; simp only [List.mem_cons, List.mem_singleton, List.not_mem_nil, or_false] at hi; rcases hi with rfl; all_goals (first | (left; simp; done) | (right; omega)))
      replace hin := hin.fr f23 (by intro b hb hm; have := hD b hb; first | (simp at hm; done) | (simp only [List.mem_singleton] at hm; omega))
      replace hb2 := f23.blk hb2 (by simp only [List.mem_cons, List.not_mem_nil, or_false, not_or]; omega)
      replace hi2 := Nat.lt_of_lt_of_le hi2 f23.size
      replace hi4 := Nat.lt_of_lt_of_le hi4 f23.size
      replace hcol := hcol.fr f23 (by intro b hb; first | (simp at hb; done) | (simp only [List.mem_singleton] at hb; omega))
      replace hb4 := hb4'
      refine DL.nil ?_
      show DC _ _ _ _ _ _
      refine DC.region ?_
      refine DL.y rfl rfl (Y.addI (c := ((k + 1 : Nat) : Int)) rfl rfl (by omega) (by omega) (by omega)) ?_
      refine DL.y rfl rfl (Y.move) ?_
      refine DL.nil ?_
      exact ⟨(k + 1, sl28, css ++ [ce]), ⟨G10, hk, hb4, hcol.up (by omega)⟩, by show l.length - (k + 1) < l.length - k; omega, rfl⟩
    · refine DL.nil ?_
      show DC _ _ _ _ _ _
      refine DC.seq ?_
      refine DC.condF rfl ?_
      refine DC.exit ?_
      show DC _ _ _ _ _ _
      refine DC.seq ?_
      refine DC.region ?_
      refine DL.y rfl rfl (Y.loadW rfl hb4 F.ag26) ?_
      refine DL.storeA rfl F.ag26 rfl rfl rfl (arr_one (own_sl hcol.own)) hb2 rfl ?_
      intro w25 f26 hs27 hb2'
      replace FR := FR.put f26 (by intro i hi; simp only [List.mem_cons, List.mem_singleton, List.not_mem_nil, or_false] at hi; rcases hi with rfl; all_goals (first | (left; simp; done) | (right; omega)))
      replace hin := hin.fr f26 (by intro b hb hm; have := hD b hb; first | (simp at hm; done) | (simp only [List.mem_singleton] at hm; omega))
      replace hi2 := Nat.lt_of_lt_of_le hi2 f26.size
      replace hi4 := Nat.lt_of_lt_of_le hi4 f26.size
      replace hb4 := f26.blk hb4 (by simp only [List.mem_cons, List.not_mem_nil, or_false, not_or]; omega)
      replace hcol := hcol.fr f26 (by intro b hb; first | (simp at hb; done) | (simp only [List.mem_singleton] at hb; omega))
      replace hb2 := hb2'
      refine DL.y rfl rfl (Y.assign) ?_
      refine DL.nil ?_
      show DC _ _ _ _ _ _
      refine DC.ret ?_
      have hke : k = l.length := by omega
      subst hke
      exact FinQ.retCT rfl (cs := arrC sl) F.ag26 (.ofBlk hb2) rfl (Ret.mk FR ⟨_, rfl, (arrD hcol (by omega)).mono (fun b hb => ⟨by omega, by omega⟩)⟩)

end Go.Proofs.YtmbleojlnaofjaaDoor
