/- Own texts, merged: W2, Js5, Js6, O11, DEC, O12, O14, Uri1. -/
import Derived.Test.YtmbleojlnaofjaaGreatDoorMu05
import Derived.Test.YtmbleojlnaofjaaGreatDoorMu04
import Derived.Test.YtmbleojlnaofjaaGreatDoorMu01
import Derived.Test.YtmbleojlnaofjaaGreatDoorMu03
import Derived.Test.YtmbleojlnaofjaaGreatDoorMu02
import Derived.Lib.BufferWrite
/- Laws: arrays sliced and indexed, bytes put into a block's middle, bit operations on numbers, the greater and the lesser. -/
namespace Go.Proofs.YtmbleojlnaofjaaGreatDoor.D
open Go Go.RowKit Go.Deep
set_option linter.unusedVariables false
set_option linter.unusedSectionVars false
set_option linter.unusedSimpArgs false
def arrayT (P : Program) (t el len size : Nat) : Bool := match P.underlying t with | some (.array n e') => (e' == el) && (n == len) && (match P.info? el with | some i => i.size == size | none => false) | _ => false
theorem arrayT_spec {P : Program} {t el len size : Nat} (h : arrayT P t el len size = true) : P.underlying t = some (.array len el) ∧ ∀ w, (sizeOf el).run P w = .ok size w := by
 unfold arrayT at h
 split at h
 ·rename_i n e' h1
  simp only [Bool.and_eq_true, beq_iff_eq] at h
  obtain ⟨⟨rfl, rfl⟩, h2⟩ := h
  split at h2
  ·rename_i i hi
   refine ⟨h1, fun w => ?_⟩
   rw [← (beq_iff_eq.1 h2)]
   simp [sizeOf, typeInfo, hi]
  ·cases h2
 ·cases h
theorem wrap_u64 {m : Nat} (h : m < 18446744073709551616) : IntKind.u64.wrap (m : Int) = (m : Int) := by
 simp [IntKind.wrap, IntKind.bits, IntKind.signed]; omega
theorem wrap_u8 {m : Nat} (h : m < 256) : IntKind.u8.wrap (m : Int) = (m : Int) := by
 rw [IntKind.wrap_u8]; omega
theorem wrap_neg_u64 {m : Nat} (h0 : 0 < m) (h : m < 18446744073709551616) : IntKind.u64.wrap (0 - IntKind.u64.wrap (-(m : Int))) = (m : Int) := by
 have e1 : IntKind.u64.wrap (-(m : Int)) = 18446744073709551616 - (m : Int) := by
  simp [IntKind.wrap, IntKind.bits, IntKind.signed]; omega
 rw [e1]
 simp [IntKind.wrap, IntKind.bits, IntKind.signed]; omega
theorem Op.shift_shr_eq' (k k' : IntKind) (a m : Nat) (hm : m ≤ k.bits) : Op.shift .shr k (a : Int) k' (m : Int) = pure (.int k ((a / 2 ^ m : Nat) : Int)) := by
 rw [Go.shift_shr k k' (a : Int) (m : Int) (by omega) (by omega), Int.toNat_natCast]
 congr 1
theorem Op.shift_shl_eq' (k k' : IntKind) (a m : Nat) (hm : m ≤ k.bits) : Op.shift .shl k (a : Int) k' (m : Int) = pure (.int k (k.wrap ((a * 2 ^ m : Nat) : Int))) := by
 rw [Go.shift_shl k k' (a : Int) (m : Int) (by omega) (by omega), Int.toNat_natCast]
 simp
theorem ofInt_nat (nb a : Nat) (ha : a < 2 ^ nb) : (BitVec.ofInt nb (a : Int)).toNat = a := by
 rw [BitVec.ofInt_natCast, BitVec.toNat_ofNat, Nat.mod_eq_of_lt ha]
theorem Op.intBits_and_eq' (k : IntKind) (a b : Nat) (ha : a < 2 ^ k.bits) (hb : b < 2 ^ k.bits) : Op.intBits .and k (a : Int) (b : Int) = pure (.int k (k.wrap ((a &&& b : Nat) : Int))) := by
 simp only [Op.intBits, BitVec.toNat_and, ofInt_nat _ _ ha, ofInt_nat _ _ hb]
theorem Op.intBits_or_eq' (k : IntKind) (a b : Nat) (ha : a < 2 ^ k.bits) (hb : b < 2 ^ k.bits) : Op.intBits .or k (a : Int) (b : Int) = pure (.int k (k.wrap ((a ||| b : Nat) : Int))) := by
 simp only [Op.intBits, BitVec.toNat_or, ofInt_nat _ _ ha, ofInt_nat _ _ hb]
section
variable {P : Program} {n : Nat} {e : Env} {w : World} {ops rest : List Oper} {K : Env → World → Prop} {dst : Option Tmp} {ty : TypeId} {pos : String} {af : Array Edge} {g : Option (Nat × Bool)}
theorem Y.sliceArrH {x z : Operand} {t el len size b o h : Nat} {k : IntKind} (ht : arrayT P t el len size = true) (hx : ev e x = .pointer (some ⟨b, o, none⟩)) (hz : ev e z = .int k (h : Int)) (hh : h ≤ len) :
  Y P e ⟨dst, .slice t x none (some z) none, ty, pos, af, g⟩ w (.slice (some ⟨b, o, none⟩) h len) := by
 obtain ⟨e1, e2⟩ := arrayT_spec ht
 unfold Y
 simp [execOp, Instr.sliceAt, Instr.sureAddr, run_underlying e1, hx, hz, Instr.sliceBounds, Instr.sliceBound, asIntOf, hh, e2, add_addr]
theorem Y.sliceArrL {x z : Operand} {t el len size b o l : Nat} {k : IntKind} (ht : arrayT P t el len size = true) (hx : ev e x = .pointer (some ⟨b, o, none⟩)) (hz : ev e z = .int k (l : Int)) (hh : l < len) :
  Y P e ⟨dst, .slice t x (some z) none none, ty, pos, af, g⟩ w (.slice (some ⟨b, o + l * size, none⟩) (len - l) (len - l)) := by
 obtain ⟨e1, e2⟩ := arrayT_spec ht
 have hne : ¬ len = l := by omega
 have hh' : l ≤ len := by omega
 unfold Y
 simp [execOp, Instr.sliceAt, Instr.sureAddr, run_underlying e1, hx, hz, Instr.sliceBounds, Instr.sliceBound, asIntOf, hh', e2, add_addr, hne]
/-- v[:h] of a slice. -/
theorem Y.sliceH {x z : Operand} {t el size h len cap : Nat} {a : Option Addr} {k : IntKind} {hi : Int} (ht : sliceT P t el size = true) (hx : ev e x = .slice a len cap) (hz : ev e z = .int k hi) (he : hi = (h : Int)) (hh : h ≤ cap) :
  Y P e ⟨dst, .slice t x none (some z) none, ty, pos, af, g⟩ w (.slice a h cap) := by
 subst he
 obtain ⟨e1, e2⟩ := sliceT_spec ht
 unfold Y
 have ha : (a.map fun x => x.add 0) = a := by cases a with
  | none => rfl
  | some a => simp [Addr.add]
 simp [execOp, Instr.sliceAt, Instr.slice, run_underlying e1, hx, hz, Instr.sliceBounds, Instr.sliceBound, asIntOf, hh, e2, ha]
theorem Y.indexArr {x ix : Operand} {t el len size b o i : Nat} {k : IntKind} {z : Int} (ht : arrayT P t el len size = true) (hx : ev e x = .pointer (some ⟨b, o, none⟩)) (hi : ev e ix = .int k z) (hz : z = (i : Int)) (hlt : i < len) :
  Y P e ⟨dst, .indexAddr t x ix, ty, pos, af, g⟩ w (.pointer (some ⟨b, o + i * size, none⟩)) := by
 subst hz
 obtain ⟨e1, e2⟩ := arrayT_spec ht
 unfold Y
 simp [execOp, Instr.indexAt, Instr.sureAddr, run_underlying e1, hx, hi, asIntOf, hlt, e2, add_addr]
theorem Y.shrN {x y : Operand} {t u : TypeId} {k k' : IntKind} {a m c : Nat} (hx : ev e x = .int k (a : Int)) (hy : ev e y = .int k' (m : Int)) (hm : m ≤ k.bits) (hc : a / 2 ^ m = c) : Y P e ⟨dst, .binOp .shr t x y u, ty, pos, af, g⟩ w (.int k (c : Int)) := by
 subst hc
 have h := Op.shift_shr_eq' k k' a m hm
 unfold Y; simp [execOp, hx, hy, eqGuard, binOp, h]
theorem Y.shlN {x y : Operand} {t u : TypeId} {k k' : IntKind} {a m : Nat} {c : Int} (hx : ev e x = .int k (a : Int)) (hy : ev e y = .int k' (m : Int)) (hm : m ≤ k.bits) (hc : k.wrap ((a * 2 ^ m : Nat) : Int) = c) : Y P e ⟨dst, .binOp .shl t x y u, ty, pos, af, g⟩ w (.int k c) := by
 subst hc
 have h := Op.shift_shl_eq' k k' a m hm
 unfold Y; simp only [execOp, hx, hy, eqGuard, binOp, h]; rfl
theorem Y.andN {x y : Operand} {t u : TypeId} {k : IntKind} {a b : Nat} {c : Int} (hx : ev e x = .int k (a : Int)) (hy : ev e y = .int k (b : Int)) (ha : a < 2 ^ k.bits) (hb : b < 2 ^ k.bits) (hc : k.wrap ((a &&& b : Nat) : Int) = c) : Y P e ⟨dst, .binOp .and t x y u, ty, pos, af, g⟩ w (.int k c) := by
 subst hc
 have h := Op.intBits_and_eq' k a b ha hb
 unfold Y; simp [execOp, hx, hy, eqGuard, binOp, h]
theorem Y.orN {x y : Operand} {t u : TypeId} {k : IntKind} {a b : Nat} {c : Int} (hx : ev e x = .int k (a : Int)) (hy : ev e y = .int k (b : Int)) (ha : a < 2 ^ k.bits) (hb : b < 2 ^ k.bits) (hc : k.wrap ((a ||| b : Nat) : Int) = c) : Y P e ⟨dst, .binOp .or t x y u, ty, pos, af, g⟩ w (.int k c) := by
 subst hc
 have h := Op.intBits_or_eq' k a b ha hb
 unfold Y; simp [execOp, hx, hy, eqGuard, binOp, h]
theorem Y.negC {x : Operand} {t : TypeId} {k : IntKind} {a c : Int} (hx : ev e x = .int k a) (hc : k.wrap (0 - a) = c) : Y P e ⟨dst, .unOp .neg t x, ty, pos, af, g⟩ w (.int k c) := by
 subst hc; exact Y.neg hx
theorem Y.subC {x y : Operand} {t u : TypeId} {k : IntKind} {a b c : Int} (hx : ev e x = .int k a) (hy : ev e y = .int k b) (hc : k.wrap (a - b) = c) : Y P e ⟨dst, .binOp .sub t x y u, ty, pos, af, g⟩ w (.int k c) := by
 subst hc; exact Y.sub hx hy
theorem Y.mulC {x y : Operand} {t u : TypeId} {k : IntKind} {a b c : Int} (hx : ev e x = .int k a) (hy : ev e y = .int k b) (hc : k.wrap (a * b) = c) : Y P e ⟨dst, .binOp .mul t x y u, ty, pos, af, g⟩ w (.int k c) := by
 subst hc; exact Y.mul hx hy
theorem Y.bmax {x y : Operand} {t u : TypeId} {a b v : Value} (hx : ev e x = a) (hy : ev e y = b) (h : (Builtin.max2 a b).run P w = .ok v w) : Y P e ⟨dst, .call ⟨.builtin .max, #[x, y], #[t, u]⟩, ty, pos, af, g⟩ w v := by
 unfold Y
 simp [execOp, resolve, Go.invoke, builtin, Builtin.max_, hx, hy, h]
theorem Y.bmin {x y : Operand} {t u : TypeId} {a b v : Value} (hx : ev e x = a) (hy : ev e y = b) (h : (Builtin.min2 a b).run P w = .ok v w) : Y P e ⟨dst, .call ⟨.builtin .min, #[x, y], #[t, u]⟩, ty, pos, af, g⟩ w v := by
 unfold Y
 simp [execOp, resolve, Go.invoke, builtin, Builtin.min_, hx, hy, h]
theorem max_int {k : IntKind} {a b : Int} : (Builtin.max2 (.int k a) (.int k b)).run P w = .ok (.int k (max a b)) w := by
 simp only [Builtin.max2]
 have : (if b > a then b else a) = max a b := by split <;> omega
 rw [this]; rfl
/-- string(v) of cells that hold bytes. -/
theorem Y.cellsStr {x : Operand} {s t el cap b o : Nat} {l : List UInt8} (hs : P.underlying s = some (.slice el)) (he : P.underlying el = some (.int .u8)) (ht : P.underlying t = some .string) (hx : ev e x = .slice (some ⟨b, o, none⟩) l.length cap) (hc : ∀ j (hj : j < l.length), w.cell? ⟨b, o + j, none⟩ = some (.int .u8 (l[j].toNat : Int))) :
  Y P e ⟨dst, .convert s t x, ty, pos, af, g⟩ w (.string ⟨l.toArray⟩) := by
 have hrun := run_convert_bytes_back (P := P) w s t el ⟨b, o, none⟩ cap l hs he ht (fun j hj => by rw [add_addr]; exact hc j hj)
 unfold Y
 simp only [execOp, hx, Sem.run_bind, hrun, Result.andThen_ok, Sem.run_pure]
/-- append(b[o:o], s...) where there is room. -/
theorem DL.appBuf {s x : Operand} {t u el d bl o cap T : Nat} {cur : Array Value} {b : ByteArray} (hg : wantB ops e g = true) (hn : Nat.blt d n = true) (ht : eltT P t el 1 1 = true) (hu : P.underlying u = some .string) (hs : ev e s = .slice (some ⟨bl, o, none⟩) 0 cap) (hx : ev e x = .string b)
  (hb : w.heap[bl]? = some (.cells cur T (0, 0))) (hroom : b.size ≤ cap) (hfit : o + b.size ≤ cur.size)
  (k : ∀ cur' w', Fr [bl] w w' → w'.heap[bl]? = some (.cells cur' T (0, 0)) → cur'.size = cur.size → (∀ i, i < o → cur'[i]? = cur[i]?) → (∀ j (hj : j < b.data.toList.length), cur'[o + j]? = some (.int .u8 (b.data.toList[j].toNat : Int))) → DL P n ops rest (upd e d (.slice (some ⟨bl, o, none⟩) b.size cap)) w' K) :
  DL P n ops (⟨some d, .call ⟨.builtin .append, #[s, x], #[t, u]⟩, ty, pos, af, g⟩ :: rest) e w K := by
 obtain ⟨i, z, k1, k2, k3, k4, k5, k6, k7, k8⟩ := eltT_spec ht
 have hf := Lib.run_firstCells_string (P := P) w 1 b
 have hst := run_storeCells_at P bl o T (Lib.strCells b) 0 cur w hb (by simpa [Lib.strCells_length] using hfit) (Lib.strCells_oneCell b)
 simp only [Nat.add_zero, Lib.strCells_length] at hst
 have hrun : (Builtin.append_ #[t, u] ty #[.slice (some ⟨bl, o, none⟩) 0 cap, .string b]).run P w = .ok (.slice (some ⟨bl, o, none⟩) b.size cap) (w.setRow bl (cur.toList.take o ++ Lib.strCells b ++ cur.toList.drop (o + b.size)).toArray) := by
  simp [Builtin.append_, run_underlying k1, run_underlying hu, sizeOf, typeInfo, k2, k3, Builtin.lenOf, hroom, hf, Addr.add_lit, hst]
 have hlen : (cur.toList.take o ++ Lib.strCells b ++ cur.toList.drop (o + b.size)).length = cur.size := by
  simp only [List.length_append, List.length_take, List.length_drop, Lib.strCells_length, Array.length_toList]; omega
 have hlo : (cur.toList.take o).length = o := by rw [List.length_take, Array.length_toList]; omega
 refine DL.run hg hn (v := .slice (some ⟨bl, o, none⟩) b.size cap) (w' := w.setRow bl (cur.toList.take o ++ Lib.strCells b ++ cur.toList.drop (o + b.size)).toArray) ?_ (k (cur.toList.take o ++ Lib.strCells b ++ cur.toList.drop (o + b.size)).toArray _ ⟨rfl, rfl, rfl, by simp, fun i _ hi => setRow_other w bl i _ (by simpa using hi)⟩ (setRow_heap w bl cur _ T (0, 0) hb) (by simpa using hlen) (fun i hi => ?_) (fun j hj => ?_))
 ·clear hst
  generalize w.setRow bl (cur.toList.take o ++ Lib.strCells b ++ cur.toList.drop (o + b.size)).toArray = wR at hrun ⊢
  simp [execOp, resolve, Go.invoke, builtin, hs, hx, hrun]
 ·rw [List.getElem?_toArray, List.append_assoc, List.getElem?_append_left (by omega), List.getElem?_take, if_pos hi]; simp
 ·rw [List.getElem?_toArray, List.append_assoc, List.getElem?_append_right (by omega), hlo, Nat.add_sub_cancel_left, List.getElem?_append_left (by rw [Lib.strCells_length]; simpa using hj)]
  simp only [Lib.strCells, List.getElem?_map, List.getElem?_eq_getElem hj, Option.map_some]
end
end Go.Proofs.YtmbleojlnaofjaaGreatDoor.D

/- The walks of strings.Builder's methods. -/
namespace Go.Proofs.YtmbleojlnaofjaaGreatDoor
open Go Go.RowKit D Go.Deep
set_option linter.unusedVariables false
set_option linter.unusedSimpArgs false


def bv (l : List UInt8) : List Value := l.map fun c => .int .u8 (c.toNat : Int)
theorem bv_append (a b : List UInt8) : bv (a ++ b) = bv a ++ bv b := by simp [bv]
theorem bv_len (a : List UInt8) : (bv a).length = a.length := by simp [bv]
/-- Of a list of blocks each is one of S or lies behind the end of w. -/
def Sub (X S : List Nat) (w : World) : Prop := ∀ i ∈ X, i ∈ S ∨ w.heap.size ≤ i
theorem Sub.refl (X : List Nat) (w : World) : Sub X X w := fun i h => Or.inl h
theorem Sub.step {X X' S : List Nat} {w0 w : World} (h : Sub X S w0) (hs : w0.heap.size ≤ w.heap.size) (k : Sub X' X w) : Sub X' S w0 := fun i hi => (k i hi).elim (h i) (fun h2 => Or.inr (Nat.le_trans hs h2))
theorem Sub.not {X X' : List Nat} {w : World} {c : Nat} (k : Sub X' X w) (h : c ∉ X) (hc : c < w.heap.size) : c ∉ X' := fun hi => (k c hi).elim h (fun h2 => by omega)
theorem Sub.cons {X X' : List Nat} {w : World} (k : Sub X' X w) (b : Nat) : Sub (b :: X') (b :: X) w := fun i hi => by
 rcases List.mem_cons.1 hi with rfl | h
 ·exact Or.inl (by simp)
 ·exact (k i h).imp (fun h => by simp [h]) id
theorem Fr.mono {S T : List Nat} {w w' : World} (h : Fr S w w') (hs : ∀ i ∈ S, i ∈ T) : Fr T w w' := ⟨h.os, h.tape, h.output, h.size, fun i hi ht => h.block i hi (fun h2 => ht (hs i h2))⟩
theorem Ret.into {w : World} {S T : List Nat} {p q : Value → World → Prop} (hs : ∀ i ∈ S, i ∈ T) (h : ∀ v w', Fr S w w' → p v w' → q v w') : ∀ x w', Ret w S p x w' → Ret w T q x w' := by
 intro x w' hx
 cases x with
 | returned v => exact ⟨Fr.mono hx.1 hs, h v w' hx.1 hx.2⟩
 | _ => exact hx.elim
/-- A builder in block b, with its bytes and its blocks. -/
structure Bld (w : World) (B b : Nat) (X : List Nat) (l : List UInt8) : Prop where
 out : ∃ p v, w.heap[b]? = some (.cells #[p, v] 159 (0, 0)) ∧ (p = .pointer none ∨ p = .pointer (some ⟨b, 0, none⟩)) ∧ w.ownsRow B 5 1 v l.length (bv l) ∧ X = b :: ownL v
 lo : B ≤ b
theorem Bld.ge {w : World} {B b : Nat} {X : List Nat} {l : List UInt8} (h : Bld w B b X l) : ∀ i ∈ X, B ≤ i ∧ i < w.heap.size := by
 obtain ⟨p, v, hb, hp, ho, rfl⟩ := h.out
 intro i hi
 rcases List.mem_cons.1 hi with rfl | hi
 ·exact ⟨h.lo, lt_of_blk hb⟩
 ·exact own_ge ho i hi
theorem Bld.fr {w w' : World} {B b : Nat} {X S : List Nat} {l : List UInt8} (h : Bld w B b X l) (f : Fr S w w') (hs : ∀ i ∈ S, i ∉ X) : Bld w' B b X l := by
 obtain ⟨p, v, hb, hp, ho, rfl⟩ := h.out
 exact ⟨⟨p, v, f.blk hb (fun hi => hs b hi (by simp)), hp, ownsRow_fr ho f (fun i hi hv => hs i hi (by simp [mem_ownL.2 hv])), rfl⟩, h.lo⟩
theorem own_one {w : World} {B e size n : Nat} {v : Value} {xs : List Value} (h : w.ownsRow B e size v n xs) : v.oneCell' = true := by
 rcases h.2 with ⟨rfl, _⟩ | ⟨g, cap, cur, rfl, _⟩ <;> rfl
theorem own_ne_b {w : World} {B b n : Nat} {v : Value} {xs : List Value} {cs : Array Value} (ho : w.ownsRow B 5 1 v n xs) (hb : w.heap[b]? = some (.cells cs 159 (0, 0))) : b ∉ ownL v := fun h => Lib.ownBlock_ne ho hb (by decide) (mem_ownL.1 h)


theorem flatC_one (l : List Value) : flatC (l.map fun x => #[x]) = l := by
 induction l with
 | nil => rfl
 | cons x l ih => simp only [flatC, List.map_cons, List.flatMap_cons] at ih ⊢; rw [ih]; rfl
theorem flatC_range {n : Nat} {f : Nat → Value} : flatC ((List.range n).map fun i => #[f i]) = (List.range n).map f := by
 have : ((List.range n).map fun i => #[f i]) = ((List.range n).map f).map fun x => #[x] := by simp
 rw [this, flatC_one]
theorem range_bv (l : List UInt8) : (List.range l.length).map (fun i => Value.int .u8 ((l.getD i 0).toNat : Int)) = bv l := by
 apply List.ext_getElem
 ·simp [bv]
 ·intro i h1 h2
  have : i < l.length := by simpa using h1
  simp [bv, List.getD_eq_getElem?_getD, this]

theorem copyCheck_new (b : Nat) (v : Value) (w : World) (hb : w.heap[b]? = some (.cells #[.pointer none, v] 159 (0, 0))) : Calls Tryz.prog 268 #[(.pointer (some ⟨b, 0, none⟩))] w (Ret w [b] fun r w' => r = .tuple #[] ∧ w'.heap[b]? = some (.cells #[(.pointer (some ⟨b, 0, none⟩)), v] 159 (0, 0))) := by
 refine calls_of Tryz.func268 rfl rfl rfl rfl ?_
 have FR := Fr.refl [b] w
 refine DC.seq ?_
 refine DC.region ?_
 refine DL.y rfl rfl (Y.move) ?_
 refine DL.y rfl rfl (Y.nil rfl) ?_
 refine DL.y rfl rfl (Y.field F.fd159_0 rfl) ?_
 refine DL.y rfl rfl (Y.loadB F.sc157 rfl hb rfl) ?_
 refine DL.y rfl rfl (Y.ptrNil (b := true) (by kernel_rfl) rfl rfl) ?_
 refine DL.nil ?_
 show DC _ _ _ _ _ _
 refine DC.condT rfl ?_
 refine DC.region ?_
 refine DL.y rfl rfl (Y.move) ?_
 refine DL.y rfl rfl (Y.move) ?_
 refine DL.y rfl rfl (Y.toUns (t := 159) (el := 159) (cells := 2) (j := (Tryz.prog.info? 159).get!) (by kernel_rfl) (by kernel_rfl) (by kernel_rfl) (by have : (Tryz.prog.info? 159).get!.size = 2 := by { kernel_rfl }; rw [this]; decide) rfl (by simp [World.shape?, hb]) (by show 0 < 2; omega)) ?_
 refine DL.y rfl rfl (Y.ext1 (fn := Tryz.f269) Tryz.func269 (by kernel_rfl) (by kernel_rfl) (by kernel_rfl) (by kernel_rfl) rfl (Lib.run_noEscape _ _)) ?_
 refine DL.y rfl rfl (Y.fromUns (u := 159) (el := 159) (cells := 2) (j := (Tryz.prog.info? 159).get!) (by kernel_rfl) (by kernel_rfl) (by kernel_rfl) rfl (by simp [World.shape?, hb]) (by kernel_rfl)) ?_
 refine DL.y rfl rfl (Y.nil rfl) ?_
 refine DL.y rfl rfl (Y.field F.fd159_0 rfl) ?_
 refine DL.store rfl F.co157 F.in157 rfl rfl rfl hb rfl ?_
 intro w1 f2 hs3 hb'
 replace FR := FR.put f2 (by intro i hi; simp only [List.mem_cons, List.mem_singleton, List.not_mem_nil, or_false] at hi; rcases hi with rfl; all_goals (first | (left; simp; done) | (right; omega)))
 replace hb := hb'
 refine DL.nil ?_
 exact FinQ.end0 (Ret.mk FR ⟨rfl, hb⟩)

theorem copyCheck_used (b : Nat) (v : Value) (w : World) (hb : w.heap[b]? = some (.cells #[.pointer (some ⟨b, 0, none⟩), v] 159 (0, 0))) : Calls Tryz.prog 268 #[(.pointer (some ⟨b, 0, none⟩))] w (Ret w [b] fun r w' => r = .tuple #[] ∧ w'.heap[b]? = some (.cells #[(.pointer (some ⟨b, 0, none⟩)), v] 159 (0, 0))) := by
 refine calls_of Tryz.func268 rfl rfl rfl rfl ?_
 have FR := Fr.refl [b] w
 refine DC.seq ?_
 refine DC.region ?_
 refine DL.y rfl rfl (Y.move) ?_
 refine DL.y rfl rfl (Y.nil rfl) ?_
 refine DL.y rfl rfl (Y.field F.fd159_0 rfl) ?_
 refine DL.y rfl rfl (Y.loadB F.sc157 rfl hb rfl) ?_
 refine DL.y rfl rfl (Y.ptrNil (b := false) (by kernel_rfl) rfl rfl) ?_
 refine DL.nil ?_
 show DC _ _ _ _ _ _
 refine DC.condF rfl ?_
 refine DC.seq ?_
 refine DC.region ?_
 refine DL.y rfl rfl (Y.move) ?_
 refine DL.y rfl rfl (Y.nil rfl) ?_
 refine DL.y rfl rfl (Y.field F.fd159_0 rfl) ?_
 refine DL.y rfl rfl (Y.loadB F.sc157 rfl hb rfl) ?_
 refine DL.y rfl rfl (Y.move) ?_
 refine DL.y rfl rfl (Y.ptrNe (te := 159) (j := (Tryz.prog.info? 159).get!) (by kernel_rfl) (by kernel_rfl) rfl rfl) ?_
 refine DL.nil ?_
 show DC _ _ _ _ _ _
 refine DC.condF rfl ?_
 refine DC.skip ?_
 exact FinQ.end0 (Ret.mk FR ⟨rfl, hb⟩)


theorem copyCheck_any {b : Nat} {p v : Value} {w : World} (hb : w.heap[b]? = some (.cells #[p, v] 159 (0, 0))) (hp : p = .pointer none ∨ p = .pointer (some ⟨b, 0, none⟩)) : Calls Tryz.prog 268 #[(.pointer (some ⟨b, 0, none⟩))] w (Ret w [b] fun r w' => r = .tuple #[] ∧ w'.heap[b]? = some (.cells #[(.pointer (some ⟨b, 0, none⟩)), v] 159 (0, 0))) := by
 rcases hp with rfl | rfl
 ·exact copyCheck_new b v w hb
 ·exact copyCheck_used b v w hb

theorem WriteString_any {B b : Nat} {X : List Nat} {l : List UInt8} {s : ByteArray} {w : World} (h : Bld w B b X l) (hlen : l.length + s.size ≤ 140737488355328) : Calls Tryz.prog 267 #[(.pointer (some ⟨b, 0, none⟩)), .string s] w (Ret w X fun r w' => ∃ X', Bld w' B b X' (l ++ s.data.toList) ∧ Sub X' X w) := by
 obtain ⟨p, v, hb, hp, ho, rfl⟩ := h.out
 have hB := h.lo
 have hbl := lt_of_blk hb
 refine calls_of Tryz.func267 rfl rfl rfl rfl ?_
 have FR := Fr.refl (b :: ownL v) w
 refine DC.seq ?_
 refine DC.region ?_
 refine DL.y rfl rfl (Y.assign) ?_
 refine DL.y rfl rfl (Y.assign) ?_
 refine DL.nil ?_
 show DC _ _ _ _ _ _
 refine DC.seq ?_
 refine DC.region ?_
 refine DL.y rfl rfl (Y.move) ?_
 refine DL.call rfl rfl F.nm268 rfl (copyCheck_any hb hp) ?_
 rintro _ w1 f2 ⟨rfl, hb'⟩
 replace FR := FR.put f2 (by intro i hi; simp only [List.mem_cons, List.mem_singleton, List.not_mem_nil, or_false] at hi; rcases hi with rfl; all_goals (first | (left; simp; done) | (right; omega)))
 replace ho := ownsRow_fr ho f2 (fun i hi hv => by rcases List.mem_singleton.1 hi with rfl; exact own_ne_b ho hb (mem_ownL.2 hv))
 replace hb := hb'
 refine DL.nil ?_
 show DC _ _ _ _ _ _
 refine DC.seq ?_
 refine DC.region ?_
 refine DL.y rfl rfl (Y.move) ?_
 refine DL.y rfl rfl (Y.move) ?_
 refine DL.y rfl rfl (Y.nil rfl) ?_
 refine DL.y rfl rfl (Y.field F.fd159_1 rfl) ?_
 refine DL.y rfl rfl (Y.loadB F.sc107 rfl hb rfl) ?_
 refine DL.y rfl rfl (Y.move) ?_
 refine DL.appStrAt (v := v) rfl rfl F.el107 Tryz.underlying9 F.z5 rfl rfl ho (by omega) (by have := FR.size; omega) ?_
 intro v1 w3 f4 ho1 hat1
 have hsub : Sub (b :: ownL v1) (b :: ownL v) w := fun i hi => by
  rcases List.mem_cons.1 hi with rfl | hi
  ·exact Or.inl (by simp)
  ·rcases hat1 with h | h
   ·exact Or.inl (by rw [List.mem_cons]; right; rw [mem_ownL, ← h]; exact mem_ownL.1 hi)
   ·have h3 := mem_ownL.1 hi; rw [h] at h3; injection h3 with h3; right; have := FR.size; omega
 have hnb : b ∉ ownL v := own_ne_b ho hb
 replace FR := FR.put f4 (fun i hi => Or.inl (by simp [hi]))
 replace hb := f4.blk hb hnb
 replace ho := ho1
 have hnb1 : b ∉ ownL v1 := own_ne_b ho hb
 refine DL.y rfl rfl (Y.nil rfl) ?_
 refine DL.y rfl rfl (Y.field F.fd159_1 rfl) ?_
 refine DL.store rfl F.co107 F.in107 rfl rfl (own_one ho) hb rfl ?_
 intro w5 f6 hs7 hb'
 replace FR := FR.put f6 (by intro i hi; simp only [List.mem_cons, List.mem_singleton, List.not_mem_nil, or_false] at hi; rcases hi with rfl; all_goals (first | (left; simp; done) | (right; omega)))
 replace ho := ownsRow_fr ho f6 (fun i hi hv => by rcases List.mem_singleton.1 hi with rfl; exact hnb1 (mem_ownL.2 hv))
 replace hb := hb'
 refine DL.nil ?_
 show DC _ _ _ _ _ _
 refine DC.seq ?_
 refine DC.region ?_
 refine DL.y rfl rfl (Y.move) ?_
 refine DL.y rfl rfl (Y.lenStr Tryz.underlying9 rfl) ?_
 refine DL.y rfl rfl (Y.assign) ?_
 refine DL.y rfl rfl (Y.assign) ?_
 refine DL.nil ?_
 show DC _ _ _ _ _ _
 refine DC.ret ?_
 refine FinQ.ret2 rfl rfl (Ret.mk FR ⟨_, ⟨⟨_, _, hb, Or.inr rfl, ?_, rfl⟩, hB⟩, hsub⟩)
 have e1 := size_list s
 rw [List.length_append, ← e1, bv_append]; exact ho

theorem WriteByte_any {B b : Nat} {X : List Nat} {l : List UInt8} {c : UInt8} {w : World} (h : Bld w B b X l) (hlen : l.length + 1 ≤ 140737488355328) : Calls Tryz.prog 266 #[(.pointer (some ⟨b, 0, none⟩)), .int .u8 (c.toNat : Int)] w (Ret w X fun r w' => ∃ X', Bld w' B b X' (l ++ [c]) ∧ Sub X' X w) := by
 obtain ⟨p, v, hb, hp, ho, rfl⟩ := h.out
 have hB := h.lo
 have hbl := lt_of_blk hb
 refine calls_of Tryz.func266 rfl rfl rfl rfl ?_
 have FR := Fr.refl (b :: ownL v) w
 refine DC.seq ?_
 refine DC.region ?_
 refine DL.y rfl rfl (Y.assign) ?_
 refine DL.nil ?_
 show DC _ _ _ _ _ _
 refine DC.seq ?_
 refine DC.region ?_
 refine DL.y rfl rfl (Y.move) ?_
 refine DL.call rfl rfl F.nm268 rfl (copyCheck_any hb hp) ?_
 rintro _ w1 f2 ⟨rfl, hb'⟩
 replace FR := FR.put f2 (by intro i hi; simp only [List.mem_cons, List.mem_singleton, List.not_mem_nil, or_false] at hi; rcases hi with rfl; all_goals (first | (left; simp; done) | (right; omega)))
 replace ho := ownsRow_fr ho f2 (fun i hi hv => by rcases List.mem_singleton.1 hi with rfl; exact own_ne_b ho hb (mem_ownL.2 hv))
 replace hb := hb'
 refine DL.nil ?_
 show DC _ _ _ _ _ _
 refine DC.seq ?_
 refine DC.region ?_
 refine DL.y rfl rfl (Y.move) ?_
 refine DL.y rfl rfl (Y.move) ?_
 refine DL.y rfl rfl (Y.nil rfl) ?_
 refine DL.y rfl rfl (Y.field F.fd159_1 rfl) ?_
 refine DL.y rfl rfl (Y.loadB F.sc107 rfl hb rfl) ?_
 refine DL.y rfl rfl (Y.move) ?_
 refine DL.buildSl1 (cs := #[.int .u8 (c.toNat : Int)]) rfl rfl F.el107 rfl rfl rfl ?_
 intro b13 w3 f4 lo13 hi13 hb13
 replace ho := ownsRow_fr ho f4 (by simp)
 have hwl := FR.size
 replace FR := FR.tr0 f4
 replace hb := f4.blk0 hb
 refine DL.appendRow (v := v) (css := (bv l).map fun x => #[x]) (cl := fun _ => #[.int .u8 (c.toNat : Int)]) rfl rfl F.el107 rfl rfl (by rw [flatC_one]; exact ho) (fun i hi => ⟨b13, 0, rfl, (by obtain rfl : i = 0 := by { omega }; exact CellsAt.ofBlk hb13), rfl, by simp [Value.oneCell']⟩) (by omega) (by omega) (by have := FR.size; omega) ?_
 intro v1 w5 f6 ho1 hat1
 have hsub : Sub (b :: ownL v1) (b :: ownL v) w := fun i hi => by
  rcases List.mem_cons.1 hi with rfl | hi
  ·exact Or.inl (by simp)
  ·rcases hat1 with h | h
   ·exact Or.inl (by rw [List.mem_cons]; right; rw [mem_ownL, ← h]; exact mem_ownL.1 hi)
   ·have h3 := mem_ownL.1 hi; rw [h] at h3; injection h3 with h3; right; have := FR.size; omega
 have hnb : b ∉ ownL v := own_ne_b ho hb
 replace FR := FR.put f6 (fun i hi => Or.inl (by simp [hi]))
 replace hb := f6.blk hb hnb
 replace ho := ho1
 have hnb1 : b ∉ ownL v1 := own_ne_b ho hb
 refine DL.y rfl rfl (Y.nil rfl) ?_
 refine DL.y rfl rfl (Y.field F.fd159_1 rfl) ?_
 refine DL.store rfl F.co107 F.in107 rfl rfl (own_one ho) hb rfl ?_
 intro w7 f8 hs9 hb'
 replace FR := FR.put f8 (by intro i hi; simp only [List.mem_cons, List.mem_singleton, List.not_mem_nil, or_false] at hi; rcases hi with rfl; all_goals (first | (left; simp; done) | (right; omega)))
 replace ho := ownsRow_fr ho f8 (fun i hi hv => by rcases List.mem_singleton.1 hi with rfl; exact hnb1 (mem_ownL.2 hv))
 replace hb := hb'
 refine DL.nil ?_
 show DC _ _ _ _ _ _
 refine DC.seq ?_
 refine DC.region ?_
 refine DL.y rfl rfl (Y.assign) ?_
 refine DL.nil ?_
 show DC _ _ _ _ _ _
 refine DC.ret ?_
 refine FinQ.ret1 rfl (Ret.mk FR ⟨_, ⟨⟨_, _, hb, Or.inr rfl, ?_, rfl⟩, hB⟩, hsub⟩)
 rw [flatC_append, flatC_one] at ho
 rw [List.length_append, bv_append]; exact ho

theorem Write_any {B b o cap g : Nat} {X : List Nat} {l m : List UInt8} {w : World} (h : Bld w B b X l) (hg : g ∉ X) (hm : ∀ i (hi : i < m.length), w.cell? ⟨g, o + i, none⟩ = some (.int .u8 (m[i].toNat : Int))) (hlen : l.length + m.length ≤ 140737488355328) : Calls Tryz.prog 265 #[(.pointer (some ⟨b, 0, none⟩)), .slice (some ⟨g, o, none⟩) m.length cap] w (Ret w X fun r w' => ∃ X', Bld w' B b X' (l ++ m) ∧ Sub X' X w) := by
 obtain ⟨p, v, hb, hp, ho, rfl⟩ := h.out
 have hB := h.lo
 have hbl := lt_of_blk hb
 have hgb : g ≠ b := fun e => hg (by simp [e])
 refine calls_of Tryz.func265 rfl rfl rfl rfl ?_
 have FR := Fr.refl (b :: ownL v) w
 refine DC.seq ?_
 refine DC.region ?_
 refine DL.y rfl rfl (Y.assign) ?_
 refine DL.y rfl rfl (Y.assign) ?_
 refine DL.nil ?_
 show DC _ _ _ _ _ _
 refine DC.seq ?_
 refine DC.region ?_
 refine DL.y rfl rfl (Y.move) ?_
 refine DL.call rfl rfl F.nm268 rfl (copyCheck_any hb hp) ?_
 rintro _ w1 f2 ⟨rfl, hb'⟩
 replace FR := FR.put f2 (by intro i hi; simp only [List.mem_cons, List.mem_singleton, List.not_mem_nil, or_false] at hi; rcases hi with rfl; all_goals (first | (left; simp; done) | (right; omega)))
 replace ho := ownsRow_fr ho f2 (fun i hi hv => by rcases List.mem_singleton.1 hi with rfl; exact own_ne_b ho hb (mem_ownL.2 hv))
 replace hm := fun i hi => Fr.cell f2 (hm i hi) (by simpa using hgb)
 replace hb := hb'
 refine DL.nil ?_
 show DC _ _ _ _ _ _
 refine DC.seq ?_
 refine DC.region ?_
 refine DL.y rfl rfl (Y.move) ?_
 refine DL.y rfl rfl (Y.move) ?_
 refine DL.y rfl rfl (Y.nil rfl) ?_
 refine DL.y rfl rfl (Y.field F.fd159_1 rfl) ?_
 refine DL.y rfl rfl (Y.loadB F.sc107 rfl hb rfl) ?_
 refine DL.y rfl rfl (Y.move) ?_
 refine DL.appendRow (v := v) (css := (bv l).map fun x => #[x]) (cl := fun i => #[.int .u8 ((m.getD i 0).toNat : Int)]) rfl rfl F.el107 rfl rfl (by rw [flatC_one]; exact ho) (fun i hi => ⟨g, o, rfl, (fun j hj => by have hj : j = 0 := by { simp at hj; omega }; subst hj; rw [Nat.mul_one, Nat.add_zero, hm i hi]; simp [List.getD_eq_getElem?_getD, hi]), rfl, by simp [Value.oneCell']⟩) (by omega) (by omega) (by have := FR.size; omega) ?_
 intro v1 w3 f4 ho1 hat1
 have hsub : Sub (b :: ownL v1) (b :: ownL v) w := fun i hi => by
  rcases List.mem_cons.1 hi with rfl | hi
  ·exact Or.inl (by simp)
  ·rcases hat1 with h | h
   ·exact Or.inl (by rw [List.mem_cons]; right; rw [mem_ownL, ← h]; exact mem_ownL.1 hi)
   ·have h3 := mem_ownL.1 hi; rw [h] at h3; injection h3 with h3; right; have := FR.size; omega
 have hnb : b ∉ ownL v := own_ne_b ho hb
 replace FR := FR.put f4 (fun i hi => Or.inl (by simp [hi]))
 replace hb := f4.blk hb hnb
 replace ho := ho1
 have hnb1 : b ∉ ownL v1 := own_ne_b ho hb
 refine DL.y rfl rfl (Y.nil rfl) ?_
 refine DL.y rfl rfl (Y.field F.fd159_1 rfl) ?_
 refine DL.store rfl F.co107 F.in107 rfl rfl (own_one ho) hb rfl ?_
 intro w5 f6 hs7 hb'
 replace FR := FR.put f6 (by intro i hi; simp only [List.mem_cons, List.mem_singleton, List.not_mem_nil, or_false] at hi; rcases hi with rfl; all_goals (first | (left; simp; done) | (right; omega)))
 replace ho := ownsRow_fr ho f6 (fun i hi hv => by rcases List.mem_singleton.1 hi with rfl; exact hnb1 (mem_ownL.2 hv))
 replace hb := hb'
 refine DL.nil ?_
 show DC _ _ _ _ _ _
 refine DC.seq ?_
 refine DC.region ?_
 refine DL.y rfl rfl (Y.move) ?_
 refine DL.y rfl rfl (Y.lenS Tryz.underlying107 rfl) ?_
 refine DL.y rfl rfl (Y.assign) ?_
 refine DL.y rfl rfl (Y.assign) ?_
 refine DL.nil ?_
 show DC _ _ _ _ _ _
 refine DC.ret ?_
 refine FinQ.ret2 rfl rfl (Ret.mk FR ⟨_, ⟨⟨_, _, hb, Or.inr rfl, ?_, rfl⟩, hB⟩, hsub⟩)
 rw [flatC_append, flatC_one, flatC_range, range_bv] at ho
 rw [List.length_append, bv_append]; exact ho

end Go.Proofs.YtmbleojlnaofjaaGreatDoor

/- The walks of FormatUint and FormatInt. -/
namespace Go.Proofs.YtmbleojlnaofjaaGreatDoor
open Go Go.RowKit D Go.Deep
set_option linter.unusedVariables false
set_option linter.unusedSimpArgs false


theorem dig36 : ∀ d, d < 10 → (⟨#[48, 49, 50, 51, 52, 53, 54, 55, 56, 57, 97, 98, 99, 100, 101, 102, 103, 104, 105, 106, 107, 108, 109, 110, 111, 112, 113, 114, 115, 116, 117, 118, 119, 120, 121, 122]⟩ : ByteArray).data.toList[d]? = some (UInt8.ofNat (48 + d))
 | 0, _ => rfl
 | 1, _ => rfl
 | 2, _ => rfl
 | 3, _ => rfl
 | 4, _ => rfl
 | 5, _ => rfl
 | 6, _ => rfl
 | 7, _ => rfl
 | 8, _ => rfl
 | 9, _ => rfl
 | d + 10, h => by omega
theorem decL_ne (n : Nat) : 1 ≤ (decL n).length := by
 by_cases h : n < 10
 ·rw [decL_lt h]; simp
 ·rw [decL_ge (by omega)]; simp
theorem arr64 : arrayT Tryz.prog 162 5 64 1 = true := by kernel_rfl
/-- How far the digits of n0 stand: of n they are still to be laid. -/
def Digs (n0 n i : Nat) (l : List UInt8) : Prop := (i = 64 ∧ n = n0 ∧ l = []) ∨ (i < 64 ∧ ((0 < n ∧ decL n ++ l = decL n0) ∨ (n = 0 ∧ l = decL n0)))
theorem Digs.step {n0 n i : Nat} {l : List UInt8} (h : Digs n0 n i l) (hil : i + l.length = 64) (hb : (decL n0).length ≤ 20) (hgo : i = 64 ∨ 0 < n) : 1 ≤ i ∧ Digs n0 (n / 10) (i - 1) (UInt8.ofNat (48 + n % 10) :: l) := by
 have key : decL n ++ l = decL n0 → 1 ≤ i ∧ Digs n0 (n / 10) (i - 1) (UInt8.ofNat (48 + n % 10) :: l) := by
  intro he
  have h1 := congrArg List.length he
  rw [List.length_append] at h1
  have h2 := decL_ne n
  refine ⟨by omega, Or.inr ⟨by omega, ?_⟩⟩
  by_cases hn : n < 10
  ·right
   refine ⟨by omega, ?_⟩
   rw [← he, decL_lt hn, Nat.mod_eq_of_lt hn]; rfl
  ·left
   refine ⟨by omega, ?_⟩
   rw [← he, decL_ge (n := n) (by omega)]; simp
 rcases h with ⟨rfl, rfl, rfl⟩ | ⟨h1, h2 | h2⟩
 ·exact key (by simp)
 ·exact key h2.2
 ·omega
theorem Digs.done {n0 n i : Nat} {l : List UInt8} (h : Digs n0 n i l) (h1 : ¬ i = 64) (h2 : ¬ 0 < n) : l = decL n0 := by
 rcases h with ⟨h, _⟩ | ⟨_, h | h⟩
 ·exact absurd h h1
 ·exact absurd h.1 h2
 ·exact h.2
/-- The cells from i on hold l. -/
def Tail (cur : Array Value) (i : Nat) (l : List UInt8) : Prop := ∀ j (hj : j < l.length), cur[i + j]? = some (.int .u8 (l[j].toNat : Int))
theorem Tail.push {cur : Array Value} {i : Nat} {l : List UInt8} {c : UInt8} (h : Tail cur i l) (hi : 1 ≤ i) (hs : i ≤ cur.size) : Tail (cur.setIfInBounds (0 + (i - 1) * 1) (.int .u8 (c.toNat : Int))) (i - 1) (c :: l) := by
 intro j hj
 have e1 : 0 + (i - 1) * 1 = i - 1 := by omega
 rw [e1]
 cases j with
 | zero => simp [Array.getElem?_setIfInBounds]; omega
 | succ j =>
  have e2 : i - 1 + (j + 1) = i + j := by omega
  rw [e2, Array.getElem?_setIfInBounds_ne (by omega)]
  exact h j (by simpa using hj)

theorem FormatUint_any (n : Nat) (hn : n < 18446744073709551616) (w : World) : Calls Tryz.prog 197 #[.int .u64 (n : Int), .int .i64 10] w (Ret w [] fun v _ => ∃ s : ByteArray, v = .string s ∧ s.data.toList = decL n) := by
 have hdl := decL_len 19 n (by omega)
 refine calls_of Tryz.func197 rfl rfl rfl rfl ?_
 have FR := Fr.refl [] w
 refine DC.seq ?_
 refine DC.region ?_
 refine DL.y rfl rfl (Y.assign) ?_
 refine DL.nil ?_
 show DC _ _ _ _ _ _
 refine DC.seq ?_
 refine DC.seq ?_
 refine DC.region ?_
 refine DL.y rfl rfl (Y.move) ?_
 refine DL.if rfl rfl (Y.lt rfl rfl) (fun c8 => ?_) (fun c8 => ?_)
 ·exfalso; omega
 ·refine DL.y rfl rfl (Y.move) ?_
  refine DL.y rfl rfl (Y.move) ?_
  refine DL.if rfl rfl (Y.gt rfl rfl) (fun c11 => ?_) (fun c11 => ?_)
  ·exfalso; omega
  ·refine DL.y rfl rfl (Y.pickF rfl) ?_
   refine DL.nil ?_
   show DC _ _ _ _ _ _
   refine DC.condF rfl ?_
   refine DC.skip ?_
   show DC _ _ _ _ _ _
   refine DC.seq ?_
   refine DC.region ?_
   refine DL.alloc rfl rfl F.z162 rfl ?_
   intro b5 w1 f2 lo5 hi5 hb5
   replace lo5 := Nat.le_trans FR.size lo5
   replace FR := FR.tr0 f2
   refine DL.nil ?_
   show DC _ _ _ _ _ _
   refine DC.seq ?_
   refine DC.region ?_
   refine DL.y rfl rfl (Y.assign) ?_
   refine DL.nil ?_
   show DC _ _ _ _ _ _
   refine DC.seq ?_
   refine DC.block ?_
   obtain ⟨cur0, hcs0, hb5'⟩ : ∃ cur0 : Array Value, cur0.size = 64 ∧ w1.heap[b5]? = some (.cells cur0 162 (0, 0)) := ⟨_, rfl, hb5⟩
   replace hb5 := hb5'
   refine DC.loop (σ := Nat × Nat × Array Value × List UInt8) [(0, 0), (6, 6), (14, 32)] (fun (m, i, _, _) => [(0, .int .u64 (m : Int)), (6, .int .i64 (i : Int))]) (fun sg wl => Fr [b5] w1 wl ∧ (fun (m, i, cur, l) wl => m ≤ n ∧ i + l.length = 64 ∧ cur.size = 64 ∧ wl.heap[b5]? = some (.cells cur 162 (0, 0)) ∧ Tail cur i l ∧ Digs n m i l) sg wl) (fun (m, i, _, _) => m + i / 64) ((n, 64, cur0, [])) rfl ?_ ?_ ?_
   ·exact ⟨rfl, rfl⟩
   ·exact ⟨Fr.refl _ _, Nat.le_refl _, rfl, hcs0, hb5, fun j hj => absurd hj (by simp), Or.inl ⟨rfl, rfl, rfl⟩⟩
   ·rintro ⟨m, i, cur, l⟩ j w3 ⟨f4, hmn, hil, hcs, hb5, hT, hD⟩
    replace FR := FR.put f4 (by intro i hi; simp only [List.mem_cons, List.mem_singleton, List.not_mem_nil, or_false] at hi; rcases hi with rfl; all_goals (first | (left; simp; done) | (right; omega)))
    replace hi5 := Nat.lt_of_lt_of_le hi5 f4.size
    have G5 := f4
    have HG5 := Fr.refl [b5] w3
    refine DC.seq ?_
    refine DC.seq ?_
    refine DC.region ?_
    refine DL.y rfl rfl (Y.move) ?_
    refine DL.if rfl rfl (Y.eq rfl rfl) (fun c15 => ?_) (fun c15 => ?_)
    ·have hs := hD.step hil hdl (by exact Or.inl (by omega))
     refine DL.y rfl rfl (Y.move) ?_
     refine DL.skip rfl rfl ?_
     refine DL.skip rfl rfl ?_
     refine DL.y rfl rfl (Y.pickT rfl) ?_
     refine DL.nil ?_
     show DC _ _ _ _ _ _
     refine DC.condT rfl ?_
     refine DC.skip ?_
     show DC _ _ _ _ _ _
     refine DC.block ?_
     refine DC.seq ?_
     refine DC.region ?_
     refine DL.y rfl rfl (Y.move) ?_
     refine DL.y rfl rfl (Y.subI (c := ((i - 1 : Nat) : Int)) rfl rfl (by omega) (by omega) (by omega)) ?_
     refine DL.y rfl rfl (Y.assign) ?_
     refine DL.nil ?_
     show DC _ _ _ _ _ _
     refine DC.seq ?_
     refine DC.region ?_
     refine DL.y rfl rfl (Y.move) ?_
     refine DL.y rfl rfl (Y.move) ?_
     refine DL.y rfl rfl (Y.move) ?_
     refine DL.y rfl rfl (Y.convC (c := 10) F.us3 Tryz.underlying93 rfl (by decide)) ?_
     refine DL.y rfl rfl (Y.remC (c := ((m % 10 : Nat) : Int)) rfl rfl (by decide) (tmodN m 10 (by decide))) ?_
     refine DL.y rfl rfl (Y.strIxV (i := m % 10) Tryz.underlying9 rfl rfl rfl (dig36 _ (by omega))) ?_
     refine DL.y rfl rfl (Y.indexArr (i := i - 1) arr64 rfl rfl (by omega) (by omega)) ?_
     refine DL.store rfl F.co5 F.in5 rfl rfl rfl hb5 (by rw [Nat.blt_eq]; omega) ?_
     intro w6 f7 hs8 hb5'
     replace FR := FR.put f7 (by intro i hi; simp only [List.mem_cons, List.mem_singleton, List.not_mem_nil, or_false] at hi; rcases hi with rfl; all_goals (first | (left; simp; done) | (right; omega)))
     replace G5 := G5.put f7 (by intro i hi; simp only [List.mem_cons, List.mem_singleton, List.not_mem_nil, or_false] at hi; rcases hi with rfl; all_goals (first | (left; simp; done) | (right; omega)))
     replace HG5 := HG5.put f7 (by intro i hi; simp only [List.mem_cons, List.mem_singleton, List.not_mem_nil, or_false] at hi; rcases hi with rfl; all_goals (first | (left; simp; done) | (right; omega)))
     replace hi5 := Nat.lt_of_lt_of_le hi5 f7.size
     replace hb5 := hb5'
     refine DL.nil ?_
     show DC _ _ _ _ _ _
     refine DC.region ?_
     refine DL.y rfl rfl (Y.move) ?_
     refine DL.y rfl rfl (Y.move) ?_
     refine DL.y rfl rfl (Y.convC (c := 10) F.us3 Tryz.underlying93 rfl (by decide)) ?_
     refine DL.y rfl rfl (Y.quoI (c := ((m / 10 : Nat) : Int)) rfl rfl (by decide) (by rw [show (10 : Int) = ((10 : Nat) : Int) from rfl, tdivN m 10 (by decide)]; exact wrap_u64 (by omega))) ?_
     refine DL.y rfl rfl (Y.assign) ?_
     refine DL.nil ?_
     refine ⟨(m / 10, i - 1, _, UInt8.ofNat (48 + m % 10) :: l), ⟨G5, by omega, by simp only [List.length_cons]; omega, by simpa using hcs, hb5, hT.push hs.1 (by omega), hs.2⟩, ?_, rfl, ?_⟩
     ·show m / 10 + (i - 1) / 64 < m + i / 64; omega
     ·show _ = Value.int .i64 ((i - 1 : Nat) : Int); first | rfl | (congr 1; omega)
    ·refine DL.y rfl rfl (Y.move) ?_
     refine DL.y rfl rfl (Y.move) ?_
     refine DL.if rfl rfl (Y.gt rfl rfl) (fun c18 => ?_) (fun c18 => ?_)
     ·have hs := hD.step hil hdl (by exact Or.inr (by omega))
      refine DL.y rfl rfl (Y.pickF rfl) ?_
      refine DL.nil ?_
      show DC _ _ _ _ _ _
      refine DC.condT rfl ?_
      refine DC.skip ?_
      show DC _ _ _ _ _ _
      refine DC.block ?_
      refine DC.seq ?_
      refine DC.region ?_
      refine DL.y rfl rfl (Y.move) ?_
      refine DL.y rfl rfl (Y.subI (c := ((i - 1 : Nat) : Int)) rfl rfl (by omega) (by omega) (by omega)) ?_
      refine DL.y rfl rfl (Y.assign) ?_
      refine DL.nil ?_
      show DC _ _ _ _ _ _
      refine DC.seq ?_
      refine DC.region ?_
      refine DL.y rfl rfl (Y.move) ?_
      refine DL.y rfl rfl (Y.move) ?_
      refine DL.y rfl rfl (Y.move) ?_
      refine DL.y rfl rfl (Y.convC (c := 10) F.us3 Tryz.underlying93 rfl (by decide)) ?_
      refine DL.y rfl rfl (Y.remC (c := ((m % 10 : Nat) : Int)) rfl rfl (by decide) (tmodN m 10 (by decide))) ?_
      refine DL.y rfl rfl (Y.strIxV (i := m % 10) Tryz.underlying9 rfl rfl rfl (dig36 _ (by omega))) ?_
      refine DL.y rfl rfl (Y.indexArr (i := i - 1) arr64 rfl rfl (by omega) (by omega)) ?_
      refine DL.store rfl F.co5 F.in5 rfl rfl rfl hb5 (by rw [Nat.blt_eq]; omega) ?_
      intro w9 f10 hs11 hb5'
      replace FR := FR.put f10 (by intro i hi; simp only [List.mem_cons, List.mem_singleton, List.not_mem_nil, or_false] at hi; rcases hi with rfl; all_goals (first | (left; simp; done) | (right; omega)))
      replace G5 := G5.put f10 (by intro i hi; simp only [List.mem_cons, List.mem_singleton, List.not_mem_nil, or_false] at hi; rcases hi with rfl; all_goals (first | (left; simp; done) | (right; omega)))
      replace HG5 := HG5.put f10 (by intro i hi; simp only [List.mem_cons, List.mem_singleton, List.not_mem_nil, or_false] at hi; rcases hi with rfl; all_goals (first | (left; simp; done) | (right; omega)))
      replace hi5 := Nat.lt_of_lt_of_le hi5 f10.size
      replace hb5 := hb5'
      refine DL.nil ?_
      show DC _ _ _ _ _ _
      refine DC.region ?_
      refine DL.y rfl rfl (Y.move) ?_
      refine DL.y rfl rfl (Y.move) ?_
      refine DL.y rfl rfl (Y.convC (c := 10) F.us3 Tryz.underlying93 rfl (by decide)) ?_
      refine DL.y rfl rfl (Y.quoI (c := ((m / 10 : Nat) : Int)) rfl rfl (by decide) (by rw [show (10 : Int) = ((10 : Nat) : Int) from rfl, tdivN m 10 (by decide)]; exact wrap_u64 (by omega))) ?_
      refine DL.y rfl rfl (Y.assign) ?_
      refine DL.nil ?_
      refine ⟨(m / 10, i - 1, _, UInt8.ofNat (48 + m % 10) :: l), ⟨G5, by omega, by simp only [List.length_cons]; omega, by simpa using hcs, hb5, hT.push hs.1 (by omega), hs.2⟩, ?_, rfl, ?_⟩
      ·show m / 10 + (i - 1) / 64 < m + i / 64; omega
      ·show _ = Value.int .i64 ((i - 1 : Nat) : Int); first | rfl | (congr 1; omega)
     ·refine DL.y rfl rfl (Y.pickF rfl) ?_
      refine DL.nil ?_
      show DC _ _ _ _ _ _
      refine DC.condF rfl ?_
      refine DC.exit ?_
      show DC _ _ _ _ _ _
      refine DC.seq ?_
      refine DC.region ?_
      refine DL.y rfl rfl (Y.move) ?_
      refine DL.y rfl rfl (v := .slice (some ⟨b5, 0 + i * 1, none⟩) l.length l.length) (by have e : 64 - i = l.length := by { omega }; rw [← e]; exact Y.sliceArrL (k := .i64) arr64 rfl rfl (by omega)) ?_
      refine DL.y rfl rfl (Y.cellsStr (l := l) Tryz.underlying107 Tryz.underlying5 Tryz.underlying9 rfl (fun j hj => cell_of_blk hb5 (by rw [show 0 + i * 1 = i by omega]; exact hT j hj))) ?_
      refine DL.y rfl rfl (Y.assign) ?_
      refine DL.nil ?_
      show DC _ _ _ _ _ _
      refine DC.ret ?_
      exact FinQ.ret1 rfl (Ret.mk FR ⟨_, rfl, hD.done (by omega) (by omega)⟩)


theorem list_len_le {s : ByteArray} {n : Nat} (h : s.data.toList = decL n) (hn : n < 18446744073709551616) : s.size ≤ 20 := by
 rw [size_list, h]; exact decL_len 19 n (by omega)
/-- The text of a whole number. -/
def intL (z : Int) : List UInt8 := (if z < 0 then [45] else []) ++ decL z.natAbs
theorem intL_len {z : Int} (h : -9223372036854775808 ≤ z ∧ z ≤ 9223372036854775807) : (intL z).length ≤ 21 := by
 have := decL_len 19 z.natAbs (by omega)
 unfold intL
 rw [List.length_append]
 split <;> simp <;> omega

theorem FormatInt_any (z : Int) (hz : -9223372036854775808 ≤ z ∧ z ≤ 9223372036854775807) (w : World) : Calls Tryz.prog 184 #[.int .i64 z, .int .i64 10] w (Ret w [] fun v _ => ∃ s : ByteArray, v = .string s ∧ s.data.toList = intL z) := by
 refine calls_of Tryz.func184 rfl rfl rfl rfl ?_
 have FR := Fr.refl [] w
 refine DC.seq ?_
 refine DC.region ?_
 refine DL.y rfl rfl (Y.assign) ?_
 refine DL.nil ?_
 show DC _ _ _ _ _ _
 refine DC.seq ?_
 refine DC.seq ?_
 refine DC.region ?_
 refine DL.y rfl rfl (Y.move) ?_
 refine DL.if rfl rfl (Y.lt rfl rfl) (fun c6 => ?_) (fun c6 => ?_)
 ·obtain ⟨m, rfl, hm0⟩ : ∃ m : Nat, z = -(m : Int) ∧ 0 < m := ⟨z.natAbs, by omega, by omega⟩
  refine DL.nil ?_
  show DC _ _ _ _ _ _
  refine DC.condT rfl ?_
  refine DC.seq ?_
  refine DC.region ?_
  refine DL.y rfl rfl (Y.move) ?_
  refine DL.y rfl rfl (Y.convII F.us2 Tryz.underlying93 rfl) ?_
  refine DL.y rfl rfl (Y.negC (c := (m : Int)) rfl (wrap_neg_u64 hm0 (by omega))) ?_
  refine DL.y rfl rfl (Y.move) ?_
  refine DL.call rfl rfl F.nm197 rfl (FormatUint_any m (by omega) _) ?_
  rintro _ w1 f2 ⟨sd, rfl, hsd⟩
  replace FR := FR.tr0 f2
  refine DL.catE rfl rfl rfl rfl (by have := list_len_le hsd (by omega); rw [show (⟨#[45]⟩ : ByteArray).size = 1 from rfl]; omega) (fun c12 h12 => ?_)
  refine DL.y rfl rfl (Y.assign) ?_
  refine DL.nil ?_
  show DC _ _ _ _ _ _
  refine DC.ret ?_
  exact FinQ.ret1 rfl (Ret.mk FR ⟨_, rfl, by rw [h12, hsd]; simp [intL, hm0]⟩)
 ·obtain ⟨m, rfl⟩ : ∃ m : Nat, z = (m : Int) := ⟨z.toNat, by omega⟩
  refine DL.nil ?_
  show DC _ _ _ _ _ _
  refine DC.condF rfl ?_
  refine DC.skip ?_
  show DC _ _ _ _ _ _
  refine DC.seq ?_
  refine DC.region ?_
  refine DL.y rfl rfl (Y.move) ?_
  refine DL.y rfl rfl (Y.convC (c := (m : Int)) F.us2 Tryz.underlying93 rfl (wrap_u64 (by omega))) ?_
  refine DL.y rfl rfl (Y.move) ?_
  refine DL.call rfl rfl F.nm197 rfl (FormatUint_any m (by omega) _) ?_
  rintro _ w3 f4 ⟨sd, rfl, hsd⟩
  replace FR := FR.tr0 f4
  refine DL.y rfl rfl (Y.assign) ?_
  refine DL.nil ?_
  show DC _ _ _ _ _ _
  refine DC.ret ?_
  exact FinQ.ret1 rfl (Ret.mk FR ⟨_, rfl, by rw [hsd]; simp [intL, c6]⟩)

end Go.Proofs.YtmbleojlnaofjaaGreatDoor

/- A drawn region in whose worlds something holds all along (S): reads are taken first; of what is left each order is walked. -/
namespace Go.Proofs.YtmbleojlnaofjaaGreatDoor.D
open Go Go.RowKit Go.Deep
set_option linter.unusedVariables false
set_option linter.unusedSectionVars false
set_option linter.unusedSimpArgs false
structure DK (P : Program) (n : Nat) (l : List Oper) (S : World → Prop) (fuel : Nat) (listed : Array Bool) (e : Env) (w : World) (K : Env → World → Prop) : Prop where
 out : ∀ (a : Act) (Q : Exit → Act → World → Prop), Rep n a e → S w → (∀ c a w, ¬ Q (.panic c) a w) → (∀ a' e' w', Rep n a' e' → (∀ t, t ∉ dstsL l → e' t = e t) → K e' w' → Q .normal a' w') →
  wpAnyH P .any l.toArray Q S fuel listed a w
section
variable {P : Program} {n : Nat} {e : Env} {w : World} {l : List Oper} {S : World → Prop} {fuel : Nat} {listed : Array Bool} {K : Env → World → Prop}
theorem DK.take {o : Oper} {v : Value} (i : Nat) (hi : nthO l i = some o) (hs : Region.noSelect l.toArray = true) (hf : Region.free .any l.toArray listed i = true) (hr : (Region.ready .any l.toArray listed).contains i = true)
  (hg : wantB l e o.guard = true) (hd : ltB n o.dst = true) (h : ∀ w, S w → Y P e o w v) (k : DK P n l S fuel (listed.setIfInBounds i true) (put e o.dst v) w K) : DK P n l S (fuel + 1) listed e w K := by
 rw [nthO_eq] at hi
 refine ⟨fun a Q ha hw hnp hq => wpAnyH_take (oi := o) (v := v) (by simpa using hi) hs hf hr (fun c a w h => (hnp _ _ _ h).elim) (Or.inl ⟨by rw [wantB_eq ha, hg], fun w' hw' => by rw [ha.eval]; exact h w' hw'⟩) hw
  (k.out _ Q (ha.put o.dst v (ltB_spec hd)) hw hnp (fun a' e' w' h1 h2 h4 => hq a' e' w' h1 (fun t ht => ?_) h4))⟩
 rw [h2 t ht, put_other hi ht]
theorem DK.pick (rs : List Nat) (hr : Region.ready .any l.toArray listed = rs) (hne : rs ≠ [])
  (h : ∀ i ∈ rs, ∃ o, nthO l i = some o ∧ DL P n l [o] e w (fun e' w' => S w' ∧ DK P n l S fuel (listed.setIfInBounds i true) e' w' K)) : DK P n l S (fuel + 1) listed e w K := by
 refine ⟨fun a Q ha hw hnp hq => wpAnyH_all hr hne (fun i hi => ?_)⟩
 obtain ⟨o, ho, hd⟩ := h i hi
 rw [nthO_eq] at ho
 unfold wpOp
 have hi' : l.toArray[i]? = some o := by simpa using ho
 simp only [hi']
 have := hd.out a (fun x a' w' => match x with | .normal => S w' ∧ wpAnyH P .any l.toArray Q S fuel (listed.setIfInBounds i true) a' w' | x => Q x a' w') ha (fun a' e' w' h1 h2 h3 =>
  ⟨h3.1, h3.2.out a' Q h1 h3.1 hnp (fun a2 e2 w2 k1 k2 k4 => hq a2 e2 w2 k1 (fun t ht => by
   rw [k2 t ht]
   refine h2 t (fun hm => ht ?_)
   unfold dstsL at hm
   cases hod : o.dst with
   | none => rw [hod] at hm; simp [dstsL] at hm
   | some d => rw [hod] at hm; simp only [dstsL, List.mem_singleton] at hm; rw [hm]; exact dst_mem hod l i ho) k4)⟩)
 unfold wpList at this
 split
 ·rename_i hwn
  rw [if_pos hwn] at this
  rcases this with h | h
  ·exact Or.inl (wp_imp (fun a' w' h' => by unfold wpList at h'; exact h') (fun c a' w' h' => h') (fun h' => h') h)
  ·exact Or.inr h
 ·rename_i hwn
  rw [if_neg hwn] at this
  unfold wpList at this
  exact this
theorem DK.done (hr : Region.ready .any l.toArray listed = []) (h : K e w) : DK P n l S fuel listed e w K :=
 ⟨fun a Q ha hw hnp hq => wpAnyH_done hr (hq a e w ha (fun _ _ => rfl) h) fuel⟩
theorem DC.heldS {id : Nat} {Q : Exit → Env → World → Prop} (S : World → Prop) (hm : P.follows .mixedOrders = true)
  (h : ∀ w', Fr [] w w' → w'.heap.size = w.heap.size → S w' ∧ DK P n l S l.length (Array.replicate l.length false) e w' (fun e2 w2 => Q .normal e2 w2)) : DC P n (.region id l.toArray true) e w Q := by
 refine ⟨fun a ha => wp_region_noPanic (wp_region_held (S := S) hm ?_)⟩
 obtain ⟨hS, hD⟩ := h _ (Fr.drawn w (w.drawn + 1)) rfl
 have := hD.out a (NoPanic fun x a' w' => ∃ e', Rep n a' e' ∧ (∀ t, t ∉ dstsC (.region id l.toArray true) → e' t = e t) ∧ Q x e' w') ha hS (fun c a w h => h) (fun a' e' w' h1 h2 h3 =>
  (show ∃ e', Rep n a' e' ∧ (∀ t, t ∉ dstsC (.region id l.toArray true) → e' t = e t) ∧ Q .normal e' w' from ⟨e', h1, fun t ht => h2 t (by simpa [dstsC] using ht), h3⟩))
 simpa using this
theorem DC.drawnF {id : Nat} {Q : Exit → Env → World → Prop} (hm : P.follows .mixedOrders = true)
  (h : ∀ w', Fr [] w w' → w'.heap.size = w.heap.size → DK P n l (Fr [] w') l.length (Array.replicate l.length false) e w' (fun e2 w2 => Q .normal e2 w2)) : DC P n (.region id l.toArray true) e w Q := by
 refine ⟨fun a ha => wp_region_noPanic (wp_region_held (S := Fr [] { w with drawn := w.drawn + 1 }) hm ?_)⟩
 have := (h _ (Fr.drawn w (w.drawn + 1)) rfl).out a (NoPanic fun x a' w' => ∃ e', Rep n a' e' ∧ (∀ t, t ∉ dstsC (.region id l.toArray true) → e' t = e t) ∧ Q x e' w') ha (Fr.refl _ _) (fun c a w h => h) (fun a' e' w' h1 h2 h3 =>
  (show ∃ e', Rep n a' e' ∧ (∀ t, t ∉ dstsC (.region id l.toArray true) → e' t = e t) ∧ Q .normal e' w' from ⟨e', h1, fun t ht => h2 t (by simpa [dstsC] using ht), h3⟩))
 simpa using this
/-- Two parts, of which the first ends in one of the states s: only the slots of Fb are known behind it. -/
theorem DC.seqJ {x y : Code} {Q : Exit → Env → World → Prop} {σ : Type} (Fb : σ → List (Nat × Value)) (I : σ → World → Prop) (h1 : DC P n x e w (thenQ (fun e' w' => ∃ s, AllEq e' (Fb s) ∧ I s w') Q)) (h2 : ∀ s e0 w', I s w' → DC P n y (updL e0 (Fb s)) w' Q) : DC P n (.seq x y) e w Q := by
 refine DC.seq (h1.mono ?_)
 intro ex e' w' _ hq
 cases ex with
 | normal =>
  obtain ⟨s, hb, hi⟩ := hq
  have := h2 s e' w' hi
  rw [updL_same hb] at this
  exact this
 | _ => exact hq
theorem Y.nilI {x : Operand} {t : TypeId} {v : Value} {dst : Option Tmp} {ty : TypeId} {pos : String} {af : Array Edge} {g : Option (Nat × Bool)} (hx : ev e x = .iface t v) : Y P e ⟨dst, .nilCheck x, ty, pos, af, g⟩ w (.iface t v) := by
 unfold Y; simp [execOp, hx]
end
end Go.Proofs.YtmbleojlnaofjaaGreatDoor.D

/- Decimal numbers as digits and a place: what halving, cutting and rounding up make of them; no program in sight. -/
namespace Go.Proofs.YtmbleojlnaofjaaGreatDoor
set_option linter.unusedVariables false
set_option linter.unusedSimpArgs false
def dg (d : List Nat) (i : Nat) : Nat := d.getD i 0
def pre (d : List Nat) : Nat → Nat
 | 0 => 0
 | i + 1 => 10 * pre d i + dg d i
def val (d : List Nat) : Nat := pre d d.length
theorem dg_lt {d : List Nat} {i : Nat} (h : i < d.length) : dg d i = d[i] := by simp [dg, List.getD_eq_getElem?_getD, h]
theorem dg_ge {d : List Nat} {i : Nat} (h : d.length ≤ i) : dg d i = 0 := by simp [dg, List.getD_eq_getElem?_getD, List.getElem?_eq_none h]
theorem dg_left {a b : List Nat} {i : Nat} (h : i < a.length) : dg (a ++ b) i = dg a i := by simp [dg, List.getD_eq_getElem?_getD, List.getElem?_append_left h]
theorem dg_right {a b : List Nat} {i : Nat} : dg (a ++ b) (a.length + i) = dg b i := by simp [dg, List.getD_eq_getElem?_getD, List.getElem?_append_right]
theorem dg_take {d : List Nat} {n i : Nat} (h : i < n) : dg (d.take n) i = dg d i := by
 simp only [dg, List.getD_eq_getElem?_getD, List.getElem?_take, if_pos h]
theorem pre_congr {d e : List Nat} : ∀ n, (∀ i, i < n → dg d i = dg e i) → pre d n = pre e n
 | 0, _ => rfl
 | n + 1, h => by simp only [pre]; rw [pre_congr n (fun i hi => h i (by omega)), h n (by omega)]
theorem val_snoc (d : List Nat) (x : Nat) : val (d ++ [x]) = 10 * val d + x := by
 have h1 : pre (d ++ [x]) d.length = pre d d.length := pre_congr _ (fun i hi => dg_left hi)
 have h2 : dg (d ++ [x]) d.length = x := by simp [dg]
 simp only [val, List.length_append, List.length_singleton, pre, h1, h2]
theorem pre_ge {d : List Nat} : ∀ k, pre d (d.length + k) = val d * 10 ^ k
 | 0 => by simp [val]
 | k + 1 => by
  have := pre_ge (d := d) k
  rw [← Nat.add_assoc]
  simp only [pre]
  rw [this, dg_ge (by omega), Nat.pow_succ]; simp [Nat.mul_comm, Nat.mul_assoc, Nat.mul_left_comm]
theorem pre_ge' {d : List Nat} {i : Nat} (h : d.length ≤ i) : pre d i = val d * 10 ^ (i - d.length) := by
 have := pre_ge (d := d) (i - d.length)
 rwa [show d.length + (i - d.length) = i by omega] at this
theorem val_zeros (t : List Nat) : ∀ k, val (t ++ List.replicate k 0) = val t * 10 ^ k
 | 0 => by simp
 | k + 1 => by
  rw [List.replicate_succ', ← List.append_assoc, val_snoc, val_zeros t k, Nat.pow_succ]; simp [Nat.mul_comm, Nat.mul_assoc, Nat.mul_left_comm]
theorem val_take {d : List Nat} {n : Nat} (h : n ≤ d.length) : val (d.take n) = pre d n := by
 have e : (d.take n).length = n := by rw [List.length_take]; omega
 unfold val
 rw [e]
 exact pre_congr n (fun i hi => dg_take hi)
theorem pre_lt {d : List Nat} (hd : ∀ i, dg d i < 10) : ∀ n, pre d n < 10 ^ n
 | 0 => by simp [pre]
 | n + 1 => by have := pre_lt hd n; have := hd n; simp only [pre, Nat.pow_succ]; omega
theorem pre_pos {d : List Nat} (hd : dg d 0 ≠ 0) : ∀ n, 10 ^ n ≤ pre d (n + 1)
 | 0 => by simp [pre]; omega
 | n + 1 => by have := pre_pos hd n; rw [pre, Nat.pow_succ]; omega
theorem pre_mono {x y : List Nat} (hx : ∀ i, dg x i < 10) {i : Nat} (h : pre x i < pre y i) : ∀ m, pre x (i + m) < pre y (i + m)
 | 0 => h
 | m + 1 => by have h1 := pre_mono hx h m; have := hx (i + m); rw [← Nat.add_assoc]; simp only [pre]; omega
theorem pre_between {d : List Nat} (hd : ∀ i, dg d i < 10) (n : Nat) : ∀ m, pre d n * 10 ^ m ≤ pre d (n + m) ∧ pre d (n + m) < (pre d n + 1) * 10 ^ m
 | 0 => by simp
 | m + 1 => by
  obtain ⟨h1, h2⟩ := pre_between hd n m
  have := hd (n + m)
  rw [← Nat.add_assoc]
  simp only [pre, Nat.pow_succ]
  rw [← Nat.mul_assoc, ← Nat.mul_assoc]
  omega
structure Canon (d : List Nat) : Prop where
 lt : ∀ i, dg d i < 10
 first : dg d 0 ≠ 0
 last : dg d (d.length - 1) ≠ 0
theorem Canon.pos {d : List Nat} (h : Canon d) : 1 ≤ d.length := by
 rcases Nat.eq_zero_or_pos d.length with h0 | h0
 ·exact absurd (dg_ge (by omega)) h.first
 ·exact h0
theorem Canon.ne {d : List Nat} (h : Canon d) : d ≠ [] := fun e => by have := h.pos; rw [e] at this; simp at this
theorem val_mod {d : List Nat} {m : Nat} (h : d.length = m + 1) : val d = 10 * pre d m + dg d m := by unfold val; rw [h, pre]
theorem Canon.not10 {d : List Nat} (h : Canon d) : val d % 10 ≠ 0 := by
 have hp := h.pos
 obtain ⟨m, hm⟩ : ∃ m, d.length = m + 1 := ⟨d.length - 1, by omega⟩
 have h1 := h.last
 rw [hm, Nat.add_sub_cancel] at h1
 have h2 := h.lt m
 rw [val_mod hm]; omega
theorem Canon.lo {d : List Nat} (h : Canon d) : 10 ^ (d.length - 1) ≤ val d := by
 have hp := h.pos
 have := pre_pos h.first (d.length - 1)
 unfold val
 rwa [show d.length - 1 + 1 = d.length by omega] at this
theorem Canon.hi {d : List Nat} (h : Canon d) : val d < 10 ^ d.length := pre_lt h.lt _
/-- d at the place dp is X / 10^e. -/
structure Dv (d : List Nat) (dp : Int) (X e : Nat) : Prop where
 canon : Canon d
 eq : ∃ j : Nat, dp = (d.length : Int) + j - e ∧ val d * 10 ^ j = X
theorem pow10_cancel {v a b Y : Nat} (hv : v % 10 ≠ 0) (h : v * 10 ^ a = Y * 10 ^ b) : b ≤ a ∧ v * 10 ^ (a - b) = Y := by
 have hle : b ≤ a := by
  rcases Nat.lt_or_ge a b with hlt | hge
  ·exfalso
   obtain ⟨c, rfl⟩ : ∃ c, b = a + 1 + c := ⟨b - a - 1, by omega⟩
   have e1 : Y * 10 ^ (a + 1 + c) = (Y * 10 ^ c * 10) * 10 ^ a := by rw [Nat.pow_add, Nat.pow_add]; simp [Nat.mul_comm, Nat.mul_assoc, Nat.mul_left_comm]
   rw [e1] at h
   have := Nat.eq_of_mul_eq_mul_right (Nat.pow_pos (by decide)) h
   omega
  ·exact hge
 refine ⟨hle, ?_⟩
 have e1 : v * 10 ^ a = (v * 10 ^ (a - b)) * 10 ^ b := by rw [Nat.mul_assoc, ← Nat.pow_add, Nat.sub_add_cancel hle]
 rw [e1] at h
 exact Nat.eq_of_mul_eq_mul_right (Nat.pow_pos (by decide)) h
theorem Dv.scale {d : List Nat} {dp : Int} {X e X' e' a b : Nat} (h : Dv d dp X e) (hx : X * 10 ^ a = X' * 10 ^ b) (he : e + a = e' + b) : Dv d dp X' e' := by
 obtain ⟨j, h1, h2⟩ := h.eq
 have h3 : val d * 10 ^ (j + a) = X' * 10 ^ b := by rw [Nat.pow_add, ← Nat.mul_assoc, h2, hx]
 obtain ⟨h4, h5⟩ := pow10_cancel h.canon.not10 h3
 exact ⟨h.canon, j + a - b, by omega, h5⟩
def Gt (x : List Nat) (px : Int) (y : List Nat) (py : Int) : Prop := x ≠ [] ∧ (y = [] ∨ py < px ∨ (px = py ∧ ∃ m, pre y m < pre x m))
theorem Dv.gt {x y : List Nat} {px py : Int} {X Y e e' : Nat} (hx : Dv x px X e) (hy : Dv y py Y e') (h : Y * 10 ^ e < X * 10 ^ e') : Gt x px y py := by
 obtain ⟨j, h1, h2⟩ := hx.eq
 obtain ⟨q, h3, h4⟩ := hy.eq
 refine ⟨hx.canon.ne, Or.inr ?_⟩
 have xl := hx.canon.lo; have xh := hx.canon.hi; have yl := hy.canon.lo; have yh := hy.canon.hi
 have yp := hy.canon.pos; have xp := hx.canon.pos
 subst h2; subst h4
 have hle : py ≤ px := by
  rcases (by omega : px < py ∨ py ≤ px) with hlt | hle
  ·exfalso
   have a1 : val x * 10 ^ j * 10 ^ e' < 10 ^ x.length * 10 ^ j * 10 ^ e' := Nat.mul_lt_mul_of_pos_right (Nat.mul_lt_mul_of_pos_right xh (Nat.pow_pos (by decide))) (Nat.pow_pos (by decide))
   have a2 : 10 ^ (y.length - 1) * 10 ^ q * 10 ^ e ≤ val y * 10 ^ q * 10 ^ e := Nat.mul_le_mul_right _ (Nat.mul_le_mul_right _ yl)
   rw [← Nat.pow_add, ← Nat.pow_add] at a1 a2
   have a3 : 10 ^ (x.length + j + e') ≤ 10 ^ (y.length - 1 + q + e) := Nat.pow_le_pow_right (by decide) (by omega)
   omega
  ·exact hle
 rcases (by omega : py < px ∨ px = py) with h5 | h5
 ·exact Or.inl h5
 ·refine Or.inr ⟨h5, x.length + y.length, ?_⟩
  rw [pre_ge, Nat.add_comm x.length y.length, pre_ge]
  have hs : x.length + j + e' = y.length + q + e := by omega
  have hP : 0 < 10 ^ (x.length + y.length) := Nat.pow_pos (by decide)
  have b1 := Nat.mul_lt_mul_of_pos_right h hP
  have e1 : val y * 10 ^ q * 10 ^ e * 10 ^ (x.length + y.length) = val y * 10 ^ x.length * 10 ^ (y.length + q + e) := by
   rw [show val y * 10 ^ q * 10 ^ e * 10 ^ (x.length + y.length) = val y * (10 ^ q * 10 ^ e * 10 ^ (x.length + y.length)) by simp [Nat.mul_assoc], show val y * 10 ^ x.length * 10 ^ (y.length + q + e) = val y * (10 ^ x.length * 10 ^ (y.length + q + e)) by simp [Nat.mul_assoc]]
   rw [← Nat.pow_add, ← Nat.pow_add, ← Nat.pow_add]
   congr 2; omega
  have e2 : val x * 10 ^ j * 10 ^ e' * 10 ^ (x.length + y.length) = val x * 10 ^ y.length * 10 ^ (y.length + q + e) := by
   rw [show val x * 10 ^ j * 10 ^ e' * 10 ^ (x.length + y.length) = val x * (10 ^ j * 10 ^ e' * 10 ^ (x.length + y.length)) by simp [Nat.mul_assoc], show val x * 10 ^ y.length * 10 ^ (y.length + q + e) = val x * (10 ^ y.length * 10 ^ (y.length + q + e)) by simp [Nat.mul_assoc]]
   rw [← Nat.pow_add, ← Nat.pow_add, ← Nat.pow_add]
   congr 2; omega
  rw [e1, e2] at b1
  exact Nat.lt_of_mul_lt_mul_right b1
/-- The zeros at a row's end are cut off. -/
structure Cut (o t : List Nat) (z : Nat) : Prop where
 eq : o = t ++ List.replicate z 0
 last : t ≠ [] → dg t (t.length - 1) ≠ 0
theorem Cut.canon {o t : List Nat} {z : Nat} (h : Cut o t z) (hl : ∀ i, dg o i < 10) (hf : dg o 0 ≠ 0) : Canon t := by
 have hne : t ≠ [] := fun e => by
  have := h.eq; rw [e, List.nil_append] at this
  rw [this] at hf
  exact hf (by cases z <;> simp [dg, List.replicate_succ])
 have hp : 0 < t.length := List.length_pos_iff.2 hne
 refine ⟨fun i => ?_, ?_, h.last hne⟩
 ·rcases Nat.lt_or_ge i t.length with hi | hi
  ·rw [← dg_left (b := List.replicate z 0) hi, ← h.eq]; exact hl i
  ·rw [dg_ge hi]; decide
 ·rw [← dg_left (b := List.replicate z 0) hp, ← h.eq]; exact hf
theorem Cut.val {o t : List Nat} {z : Nat} (h : Cut o t z) : val o = val t * 10 ^ z := by rw [h.eq, val_zeros]
theorem Cut.len {o t : List Nat} {z : Nat} (h : Cut o t z) : o.length = t.length + z := by rw [h.eq]; simp
theorem half_fin {d o t : List Nat} {dp : Int} {X e k i i0 z : Nat} (h : Dv d dp X e) (heq : pre d i = val o * 10 * 2 ^ k) (hlen : o.length + i0 = i) (hi : d.length ≤ i) (hl : ∀ i, dg o i < 10) (hf : dg o 0 ≠ 0) (hc : Cut o t z) : Dv t (dp - ((i0 : Int) - 1)) (X * 5 ^ k) (e + k) := by
 obtain ⟨j, h1, h2⟩ := h.eq
 have hcan := hc.canon hl hf
 rw [pre_ge' hi, hc.val] at heq
 have h3 : val t * 10 ^ (z + 1 + k + j) = X * 5 ^ k * 10 ^ (i - d.length) := by
  have e1 : val t * 10 ^ (z + 1 + k + j) = (val t * 10 ^ z * 10 * 2 ^ k) * (5 ^ k * 10 ^ j) := by
   rw [Nat.pow_add, Nat.pow_add, Nat.pow_add, show (10 : Nat) ^ k = 2 ^ k * 5 ^ k by rw [← Nat.mul_pow]]
   simp [Nat.mul_comm, Nat.mul_assoc, Nat.mul_left_comm]
  rw [e1, ← heq, ← h2]
  simp [Nat.mul_comm, Nat.mul_assoc, Nat.mul_left_comm]
 obtain ⟨h4, h5⟩ := pow10_cancel hcan.not10 h3
 have := hc.len
 exact ⟨hcan, z + 1 + k + j - (i - d.length), by omega, h5⟩
/-! ### Digits of numbers -/
def digL (n : Nat) : List Nat := (decL n).map fun c => c.toNat - 48
theorem ofNat_dig {d : Nat} (h : d < 10) : (UInt8.ofNat (48 + d)).toNat - 48 = d := by rw [UInt8.toNat_ofNat']; omega
theorem digL_lt {n : Nat} (h : n < 10) : digL n = [n] := by simp only [digL, decL_lt h, List.map_cons, List.map_nil, ofNat_dig h]
theorem digL_ge {n : Nat} (h : 10 ≤ n) : digL n = digL (n / 10) ++ [n % 10] := by
 simp only [digL, decL_ge h, List.map_append, List.map_cons, List.map_nil, ofNat_dig (Nat.mod_lt n (by decide : 0 < 10))]
theorem val_one (x : Nat) : val [x] = x := by simp [val, pre, dg]
theorem digL_val : ∀ (k n : Nat), n < 10 ^ (k + 1) → val (digL n) = n
 | k, n, hk => by
  by_cases h : n < 10
  ·rw [digL_lt h, val_one]
  ·cases k with
   | zero => simp at hk; omega
   | succ k =>
    rw [digL_ge (by omega), val_snoc, digL_val k (n / 10) (by rw [Nat.pow_succ] at hk; omega)]; omega
theorem digL_ne (n : Nat) : 1 ≤ (digL n).length := by
 by_cases h : n < 10
 ·rw [digL_lt h]; simp
 ·rw [digL_ge (by omega)]; simp
theorem digL_ok : ∀ (k n : Nat), n < 10 ^ (k + 1) → (∀ i, dg (digL n) i < 10) ∧ (0 < n → dg (digL n) 0 ≠ 0)
 | k, n, hk => by
  by_cases h : n < 10
  ·rw [digL_lt h]
   refine ⟨fun i => ?_, fun h0 => by simp [dg]; omega⟩
   cases i with
   | zero => simpa [dg] using h
   | succ i => rw [dg_ge (by simp)]; decide
  ·cases k with
   | zero => simp at hk; omega
   | succ k =>
    obtain ⟨h1, h2⟩ := digL_ok k (n / 10) (by rw [Nat.pow_succ] at hk; omega)
    rw [digL_ge (by omega)]
    refine ⟨fun i => ?_, fun h0 => ?_⟩
    ·rcases Nat.lt_or_ge i (digL (n / 10)).length with hi | hi
     ·rw [dg_left hi]; exact h1 i
     ·obtain ⟨q, rfl⟩ : ∃ q, i = (digL (n / 10)).length + q := ⟨i - (digL (n / 10)).length, by omega⟩
      rw [dg_right]
      cases q with
      | zero => simp [dg]; omega
      | succ q => rw [dg_ge (by simp)]; decide
    ·rw [dg_left (by have := digL_ne (n / 10); omega)]; exact h2 (by omega)
theorem new_fin {n k z : Nat} {t : List Nat} (h0 : 0 < n) (hk : n < 10 ^ (k + 1)) (hc : Cut (digL n) t z) : Dv t ((digL n).length : Int) n 0 := by
 obtain ⟨h1, h2⟩ := digL_ok k n hk
 have hcan := hc.canon h1 (h2 h0)
 have := hc.len
 exact ⟨hcan, z, by omega, by rw [← hc.val, digL_val k n hk]⟩
/-- Digits back to a text. -/
theorem decL_digits : ∀ (d : List Nat), (∀ i, dg d i < 10) → dg d 0 ≠ 0 → decL (val d) = d.map fun x => UInt8.ofNat (48 + x) := by
 intro d
 induction hn : d.length generalizing d with
 | zero => intro _ h0; exact absurd (dg_ge (by omega)) h0
 | succ m ih =>
  intro hl h0
  have hd : d = d.take m ++ [dg d m] := by
   have h1 : m < d.length := by omega
   rw [dg_lt h1, List.take_append_getElem h1, List.take_of_length_le (by omega)]
  have hlen : (d.take m).length = m := by rw [List.length_take]; omega
  rw [hd, val_snoc, List.map_append]
  by_cases hm : m = 0
  ·subst hm
   simp only [List.take_zero, List.map_nil, List.nil_append, List.map_cons]
   have : val [] = 0 := rfl
   rw [this, decL_lt (by have := hl 0; omega)]; simp
  ·have h2 := ih (d.take m) hlen (fun i => by
    rcases Nat.lt_or_ge i m with hi | hi
    ·rw [dg_take hi]; exact hl i
    ·rw [dg_ge (by omega)]; decide) (by rw [dg_take (by omega)]; exact h0)
   have h3 := hl m
   have hpos : 1 ≤ val (d.take m) := by
    rw [val_take (by omega)]
    have := pre_pos h0 (m - 1)
    rw [show m - 1 + 1 = m by omega] at this
    exact Nat.le_trans (Nat.pow_pos (by decide)) this
   rw [decL_ge (by omega), show (10 * val (d.take m) + dg d m) / 10 = val (d.take m) by omega, show (10 * val (d.take m) + dg d m) % 10 = dg d m by omega, h2]; simp
/-! ### A half, cut and rounded -/
section
variable {a : List Nat} {h : Nat}
/-- The digits of an odd number's half. -/
structure Half (a : List Nat) (dp : Int) (h : Nat) : Prop where
 canon : Canon a
 dp : dp = (a.length : Int) - 1
 val : val a = 5 * h
 odd : h % 2 = 1
theorem half_of {a : List Nat} {dp : Int} {h : Nat} (D : Dv a dp (5 * h) 1) (ho : h % 2 = 1) : Half a dp h := by
 obtain ⟨j, h1, h2⟩ := D.eq
 have hj : j = 0 := by
  cases j with
  | zero => rfl
  | succ j =>
   exfalso
   rw [Nat.pow_succ, ← Nat.mul_assoc] at h2; omega
 subst hj
 exact ⟨D.canon, by omega, by simpa using h2, ho⟩
theorem Half.split {dp : Int} (H : Half a dp h) {n : Nat} (hn : n < a.length) : pre a n * 10 ^ (a.length - n) + 5 ≤ 5 * h ∧ 5 * h + 5 ≤ (pre a n + 1) * 10 ^ (a.length - n) := by
 have hb := pre_between H.canon.lt n (a.length - n)
 rw [show n + (a.length - n) = a.length by omega] at hb
 have hv : pre a a.length = 5 * h := H.val
 rw [hv] at hb
 have ho := H.odd
 obtain ⟨c, hc⟩ : ∃ c, a.length - n = c + 1 := ⟨a.length - n - 1, by omega⟩
 rw [hc, Nat.pow_succ, ← Nat.mul_assoc, ← Nat.mul_assoc] at hb ⊢
 omega
theorem Half.down {dp : Int} (H : Half a dp h) {n z : Nat} (hn : n < a.length) (h0 : 1 ≤ n) {t : List Nat} (hc : Cut (a.take n) t z) : Dv t dp (pre a n * 10 ^ (a.length - n)) 1 := by
 have hcan : Canon t := hc.canon (fun i => by
  rcases Nat.lt_or_ge i n with hi | hi
  ·rw [dg_take hi]; exact H.canon.lt i
  ·rw [dg_ge (by rw [List.length_take]; omega)]; decide) (by rw [dg_take (by omega)]; exact H.canon.first)
 have hl := hc.len
 rw [List.length_take] at hl
 have hv := hc.val
 rw [val_take (by omega)] at hv
 have := H.dp
 exact ⟨hcan, z + (a.length - n), by omega, by rw [hv, Nat.pow_add, Nat.mul_assoc]⟩
theorem up_carry {n i : Nat} (hi : i < n) (h9 : ∀ q, i < q → q < n → dg a q = 9) : (pre a (i + 1) + 1) * 10 ^ (n - 1 - i) = pre a n + 1 := by
 obtain ⟨c, rfl⟩ : ∃ c, n = i + 1 + c := ⟨n - i - 1, by omega⟩
 rw [show i + 1 + c - 1 - i = c by omega]
 induction c with
 | zero => simp
 | succ c ih =>
  have h1 := ih (by omega) (fun q h1 h2 => h9 q h1 (by omega))
  have h2 := h9 (i + 1 + c) (by omega) (by omega)
  rw [← Nat.add_assoc]
  simp only [pre] at h1 ⊢
  rw [h2, Nat.pow_succ, ← Nat.mul_assoc, h1]; omega
theorem up_all {n : Nat} (h9 : ∀ q, q < n → dg a q = 9) : pre a n + 1 = 10 ^ n := by
 induction n with
 | zero => rfl
 | succ n ih =>
  have h1 := ih (fun q hq => h9 q (by omega))
  have h2 := h9 n (by omega)
  simp only [pre, Nat.pow_succ]; omega
theorem Half.up1 {dp : Int} (H : Half a dp h) {n i : Nat} (hn : n < a.length) (hi : i < n) (hd : dg a i < 9) (h9 : ∀ q, i < q → q < n → dg a q = 9) : Dv (a.take i ++ [dg a i + 1]) dp ((pre a n + 1) * 10 ^ (a.length - n)) 1 := by
 have hlen : (a.take i).length = i := by rw [List.length_take]; omega
 have hcan : Canon (a.take i ++ [dg a i + 1]) := by
  refine ⟨fun q => ?_, ?_, ?_⟩
  ·rcases Nat.lt_or_ge q i with hq | hq
   ·rw [dg_left (by omega), dg_take hq]; exact H.canon.lt q
   ·obtain ⟨r, rfl⟩ : ∃ r, q = (a.take i).length + r := ⟨q - i, by omega⟩
    rw [dg_right]
    cases r with
    | zero => simp [dg] at hd ⊢; omega
    | succ r => rw [dg_ge (by simp)]; decide
  ·rcases Nat.eq_zero_or_pos i with h0 | h0
   ·subst h0; simp [dg]
   ·rw [dg_left (by omega), dg_take h0]; exact H.canon.first
  ·have e : (a.take i ++ [dg a i + 1]).length - 1 = (a.take i).length + 0 := by simp
   rw [e, dg_right]; simp [dg]
 have hv : Go.Proofs.YtmbleojlnaofjaaGreatDoor.val (a.take i ++ [dg a i + 1]) = pre a (i + 1) + 1 := by rw [val_snoc, val_take (by omega)]; simp only [pre]; omega
 have := H.dp
 refine ⟨hcan, (n - 1 - i) + (a.length - n), ?_, ?_⟩
 ·rw [List.length_append, hlen, List.length_singleton]; omega
 ·rw [hv, Nat.pow_add, ← Nat.mul_assoc, up_carry hi h9]
theorem Half.up2 {dp : Int} (H : Half a dp h) {n : Nat} (hn : n < a.length) (h9 : ∀ q, q < n → dg a q = 9) : Dv [1] (dp + 1) ((pre a n + 1) * 10 ^ (a.length - n)) 1 := by
 have := H.dp
 refine ⟨⟨fun i => by cases i with
  | zero => simp [dg]
  | succ i => rw [dg_ge (by simp)]; decide, by simp [dg], by simp [dg]⟩, a.length, ?_, ?_⟩
 ·simp; omega
 ·rw [val_one, up_all h9, Nat.one_mul, ← Nat.pow_add, show n + (a.length - n) = a.length by omega]
/-- Below the half by less than a quarter: still above what is cut. -/
theorem low_gt {dp pl : Int} {low t : List Nat} {k n z : Nat} (H : Half a dp h) (hk : 1 ≤ k) (L : Dv low pl ((h * 2 ^ k - 1) * 5 ^ (k + 1)) (k + 1)) (hn : n < a.length) (hc : Cut (a.take n) t z) {p : Int} (hp : t ≠ [] → p = dp) : Gt low pl t p := by
 rcases Nat.eq_zero_or_pos n with h0 | h0
 ·subst h0
  have : t = [] := by
   have := hc.len; simp at this
   exact List.eq_nil_of_length_eq_zero (by omega)
  exact ⟨L.canon.ne, Or.inl this⟩
 ·have D := H.down hn h0 hc
  rw [hp D.canon.ne]
  refine L.gt D ?_
  have hs := (H.split hn).1
  generalize pre a n * 10 ^ (a.length - n) = Y at hs ⊢
  have hh := H.odd
  have e1 : (10 : Nat) ^ (k + 1) = 2 * 2 ^ k * 5 ^ (k + 1) := by
   rw [show 2 * 2 ^ k = 2 ^ (k + 1) by rw [Nat.pow_succ, Nat.mul_comm], ← Nat.mul_pow]
  rw [e1, ← Nat.mul_assoc, Nat.pow_one, Nat.mul_assoc _ _ 10, Nat.mul_comm (5 ^ (k + 1)) 10, ← Nat.mul_assoc _ 10]
  refine Nat.mul_lt_mul_of_pos_right ?_ (Nat.pow_pos (by decide))
  have h2k : 2 ≤ 2 ^ k := by
   obtain ⟨c, rfl⟩ : ∃ c, k = c + 1 := ⟨k - 1, by omega⟩
   rw [Nat.pow_succ]; have := Nat.two_pow_pos c; omega
  generalize 2 ^ k = T at h2k ⊢
  have h5 : Y * (2 * T) ≤ (5 * h - 5) * (2 * T) := Nat.mul_le_mul_right _ (by omega)
  have h6 : (5 * h - 5) * (2 * T) = 10 * (h * T) - 10 * T := by
   rw [Nat.sub_mul]; simp only [Nat.mul_comm, Nat.mul_assoc, Nat.mul_left_comm]
  have h7 : T ≤ h * T := Nat.le_mul_of_pos_left _ (by omega)
  generalize h * T = W at h6 h7 ⊢
  omega
theorem up_gt {dp pu ph : Int} {high u : List Nat} {k n : Nat} (H : Half a dp h) (hk : 1 ≤ k) (L : Dv high ph ((h * 2 ^ k + 1) * 5 ^ (k + 1)) (k + 1)) (hn : n < a.length) (U : Dv u pu ((pre a n + 1) * 10 ^ (a.length - n)) 1) : Gt u pu high ph := by
 refine U.gt L ?_
 have hs := (H.split hn).2
 generalize (pre a n + 1) * 10 ^ (a.length - n) = Y at hs ⊢
 have e1 : (10 : Nat) ^ (k + 1) = 2 * 2 ^ k * 5 ^ (k + 1) := by
  rw [show 2 * 2 ^ k = 2 ^ (k + 1) by rw [Nat.pow_succ, Nat.mul_comm], ← Nat.mul_pow]
 rw [e1, ← Nat.mul_assoc, Nat.pow_one, Nat.mul_assoc _ _ 10, Nat.mul_comm (5 ^ (k + 1)) 10, ← Nat.mul_assoc _ 10]
 refine Nat.mul_lt_mul_of_pos_right ?_ (Nat.pow_pos (by decide))
 have h2k : 2 ≤ 2 ^ k := by
  obtain ⟨c, rfl⟩ : ∃ c, k = c + 1 := ⟨k - 1, by omega⟩
  rw [Nat.pow_succ]; have := Nat.two_pow_pos c; omega
 generalize 2 ^ k = T at h2k ⊢
 have h5 : (5 * h + 5) * (2 * T) ≤ Y * (2 * T) := Nat.mul_le_mul_right _ hs
 have h6 : (5 * h + 5) * (2 * T) = 10 * (h * T) + 10 * T := by
  rw [Nat.add_mul]; simp only [Nat.mul_comm, Nat.mul_assoc, Nat.mul_left_comm]
 generalize h * T = W at h6 ⊢
 omega
end
end Go.Proofs.YtmbleojlnaofjaaGreatDoor

/- []byte(s); a row of one's own made shorter, its cells, one of them set. -/
namespace Go.Proofs.YtmbleojlnaofjaaGreatDoor.D
open Go Go.RowKit Go.Deep
set_option linter.unusedVariables false
set_option linter.unusedSectionVars false
set_option linter.unusedSimpArgs false
section
variable {P : Program} {n : Nat} {e : Env} {w : World} {ops rest : List Oper} {K : Env → World → Prop} {ty : TypeId} {pos : String} {af : Array Edge} {g : Option (Nat × Bool)}
theorem DL.bytesOf {x : Operand} {s t el d : Nat} {b : ByteArray} (hg : wantB ops e g = true) (hn : Nat.blt d n = true) (hs : P.underlying s = some .string) (ht : P.underlying t = some (.slice el)) (he : P.underlying el = some (.int .u8)) (hx : ev e x = .string b)
  (k : ∀ a w' cap, Fr [] w w' → w.heap.size ≤ a → a < w'.heap.size → (∀ i (h : i < b.data.toList.length), w'.cell? ⟨a, 0 + i * 1, none⟩ = some (.int .u8 (b.data.toList[i].toNat : Int))) → DL P n ops rest (upd e d (.slice (some ⟨a, 0, none⟩) b.size cap)) w' K) :
  DL P n ops (⟨some d, .convert s t x, ty, pos, af, g⟩ :: rest) e w K := by
 have hrun := run_bytes_of_string (P := P) w s t el b hs ht he
 generalize grownCap w b.size 0 el = cap at hrun
 refine DL.run (w' := w.drew.alloc (.cells (bytesRow b cap) el ((bytesRow b cap).size, (bytesRow b cap).size + 1))) hg hn (v := .slice (some ⟨w.heap.size, 0, none⟩) b.size cap) ?_ (k w.heap.size _ cap ?_ (Nat.le_refl _) ?_ (fun i hi => ?_))
 ·simp only [execOp, hx, Sem.run_bind, hrun, Result.andThen_ok, Sem.run_pure]
 ·exact (Fr.drawn w (w.drawn + 1)).tr (fr_alloc w.drew _)
 ·show w.heap.size < (w.heap.push _).size; simp
 have hb := blk_alloc w.drew (.cells (bytesRow b cap) el ((bytesRow b cap).size, (bytesRow b cap).size + 1))
 refine cell_of_blk hb ?_
 have hi' : i < b.data.size := by simpa using hi
 rw [show 0 + i * 1 = i by omega]
 unfold bytesRow
 rw [Array.getElem?_append_left (by simpa using hi')]
 simp only [List.getElem?_map, Array.getElem?_map, Array.getElem?_eq_getElem hi', Option.map_some]
 rfl
end
end Go.Proofs.YtmbleojlnaofjaaGreatDoor.D
/-! ### Rows of digits -/
namespace Go.Proofs.YtmbleojlnaofjaaGreatDoor
open Go Go.RowKit D Go.Deep
def dv (d : List Nat) : List Value := d.map fun x : Nat => Value.int .u8 (x : Int)
theorem dv_len (d : List Nat) : (dv d).length = d.length := by simp [dv]
theorem dv_append (a b : List Nat) : dv (a ++ b) = dv a ++ dv b := by simp [dv]
theorem dv_get {d : List Nat} {i : Nat} (h : i < d.length) : (dv d)[i]? = some (.int .u8 (dg d i : Int)) := by simp [dv, dg_lt h, h]
theorem own_some {w : World} {B e size m cap : Nat} {a : Option Addr} {xs : List Value} (h : w.ownsRow B e size (.slice a m cap) m xs) (hm : 0 < m) : ∃ g, a = some ⟨g, 0, none⟩ := by
 rcases h.2 with ⟨h1, h2⟩ | ⟨g, c, cur, h1, _⟩
 ·omega
 ·injection h1 with h1; exact ⟨g, h1⟩
theorem own_cap {w : World} {B e size m cap : Nat} {a : Option Addr} {xs : List Value} (h : w.ownsRow B e size (.slice a m cap) m xs) : m ≤ cap := by
 rcases h.2 with ⟨h1, h2⟩ | ⟨g, c, cur, h1, _, _, h2, _⟩
 ·omega
 ·injection h1 with _ _ h1; omega
theorem own_dig {w : World} {B e m cap g : Nat} {d : List Nat} (h : w.ownsRow B e 1 (.slice (some ⟨g, 0, none⟩) m cap) m (dv d)) {i : Nat} (hi : i < m) : w.cell? ⟨g, 0 + i * 1, none⟩ = some (.int .u8 (dg d i : Int)) := by
 have hl : d.length = m := by have := h.1; rw [dv_len] at this; omega
 have := h.cells (g := g) rfl i (.int .u8 (dg d i : Int)) (dv_get (by omega))
 rw [add_addr] at this
 rw [show 0 + i * 1 = 0 + i by omega]; exact this
theorem own_shrink {w : World} {B e m cap k : Nat} {a : Option Addr} {d : List Nat} (h : w.ownsRow B e 1 (.slice a m cap) m (dv d)) (hk : k ≤ m) (hs : a ≠ none) : w.ownsRow B e 1 (.slice a k cap) k (dv (d.take k)) := by
 have hl : d.length = m := by have := h.1; rw [dv_len] at this; omega
 refine ⟨by rw [dv_len, List.length_take]; omega, ?_⟩
 rcases h.2 with ⟨h1, h2⟩ | ⟨g, c, cur, h1, hb, hg, hnc, hcm, hcs, ht⟩
 ·injection h1 with h1; exact absurd h1 hs
 ·injection h1 with h1 h3 h4
  subst h1; subst h4
  refine Or.inr ⟨g, cap, cur, rfl, hb, hg, by omega, hcm, hcs, ?_⟩
  rw [Nat.mul_one] at ht ⊢
  rw [dv, List.map_take, ← dv, ← ht, List.take_take, Nat.min_eq_left hk]
end Go.Proofs.YtmbleojlnaofjaaGreatDoor
namespace Go.Proofs.YtmbleojlnaofjaaGreatDoor.D
open Go Go.RowKit Go.Deep
theorem Op.intBits_andNot_top {a : Nat} (ha : a < 18446744073709551616) : Op.intBits .andNot .u64 (a : Int) 9223372036854775808 = pure (.int .u64 ((a % 9223372036854775808 : Nat) : Int)) := by
 have e1 : (BitVec.ofInt 64 (a : Int)).toNat = a := ofInt_nat 64 a (by simpa using ha)
 have e2 : (BitVec.ofInt 64 9223372036854775808) = (BitVec.ofNat 64 9223372036854775808) := rfl
 have e3 : (BitVec.ofInt 64 (a : Int) &&& ~~~(BitVec.ofInt 64 9223372036854775808)).toNat = a % 9223372036854775808 := by
  rw [e2, BitVec.toNat_and, e1]
  have e4 : (~~~(BitVec.ofNat 64 9223372036854775808)).toNat = 2 ^ 63 - 1 := by decide
  rw [e4, Nat.and_two_pow_sub_one_eq_mod]
 have e5 : IntKind.u64.wrap ((a % 9223372036854775808 : Nat) : Int) = ((a % 9223372036854775808 : Nat) : Int) := wrap_u64 (by omega)
 show (pure (.int .u64 (IntKind.u64.wrap ((BitVec.ofInt 64 (a : Int) &&& ~~~(BitVec.ofInt 64 9223372036854775808)).toNat : Int))) : Sem Value) = _
 rw [e3, e5]
theorem Y.andNotTop {P : Program} {e : Env} {w : World} {dst : Option Tmp} {ty : TypeId} {pos : String} {af : Array Edge} {g : Option (Nat × Bool)} {x y : Operand} {t u : TypeId} {a : Nat} (hx : ev e x = .int .u64 (a : Int)) (hy : ev e y = .int .u64 9223372036854775808) (ha : a < 18446744073709551616) : Y P e ⟨dst, .binOp .andNot t x y u, ty, pos, af, g⟩ w (.int .u64 ((a % 9223372036854775808 : Nat) : Int)) := by
 have h := Op.intBits_andNot_top ha
 unfold Y; simp only [execOp, hx, hy, eqGuard, binOp_andNot, h]; rfl
end Go.Proofs.YtmbleojlnaofjaaGreatDoor.D

/- Drawn regions with guards; copy of a text into a block. -/
namespace Go.Proofs.YtmbleojlnaofjaaGreatDoor.D
open Go Go.RowKit Go.Deep
set_option linter.unusedVariables false
set_option linter.unusedSectionVars false
set_option linter.unusedSimpArgs false
section
variable {P : Program} {n : Nat} {e : Env} {w : World} {l : List Oper} {S : World → Prop} {fuel : Nat} {listed : Array Bool} {K : Env → World → Prop}
theorem DK.skip {o : Oper} (i : Nat) (hi : nthO l i = some o) (hs : Region.noSelect l.toArray = true) (hf : Region.free .any l.toArray listed i = true) (hr : (Region.ready .any l.toArray listed).contains i = true)
  (hg : wantB l e o.guard = false) (hd : ltB n o.dst = true) (k : DK P n l S fuel (listed.setIfInBounds i true) (put e o.dst undef) w K) : DK P n l S (fuel + 1) listed e w K := by
 rw [nthO_eq] at hi
 refine ⟨fun a Q ha hw hnp hq => wpAnyH_take (oi := o) (v := undef) (by simpa using hi) hs hf hr (fun c a w h => (hnp _ _ _ h).elim) (Or.inr ⟨by rw [wantB_eq ha, hg], rfl⟩) hw
  (k.out _ Q (ha.put o.dst undef (ltB_spec hd)) hw hnp (fun a' e' w' h1 h2 h4 => hq a' e' w' h1 (fun t ht => ?_) h4))⟩
 rw [h2 t ht, put_other hi ht]
end
section
variable {P : Program} {n : Nat} {e : Env} {w : World} {ops rest : List Oper} {K : Env → World → Prop} {ty : TypeId} {pos : String} {af : Array Edge} {g : Option (Nat × Bool)}
/-- copy(b[0:], s) where there is room. -/
theorem DL.copyStr {s x : Operand} {t u el bl dl cap T d : Nat} {cur : Array Value} {b : ByteArray} (hg : wantB ops e g = true) (hn : Nat.blt d n = true) (ht : eltT P t el 1 1 = true) (hs : ev e s = .slice (some ⟨bl, 0, none⟩) dl cap) (hx : ev e x = .string b)
  (hb : w.heap[bl]? = some (.cells cur T (0, 0))) (hroom : b.size ≤ dl) (hfit : b.size ≤ cur.size)
  (k : ∀ cur' w', Fr [bl] w w' → w'.heap[bl]? = some (.cells cur' T (0, 0)) → cur'.size = cur.size → (∀ j (hj : j < b.data.toList.length), cur'[j]? = some (.int .u8 (b.data.toList[j].toNat : Int))) → DL P n ops rest (upd e d (.int .i64 (b.size : Int))) w' K) :
  DL P n ops (⟨some d, .call ⟨.builtin .copy, #[s, x], #[t, u]⟩, ty, pos, af, g⟩ :: rest) e w K := by
 obtain ⟨i, z, k1, k2, k3, k4, k5, k6, k7, k8⟩ := eltT_spec ht
 have hrun := Lib.run_copy_row_string (P := P) w t u ty el bl 0 dl cap b cur T k1 (by rw [k2]; simpa using k3) hb hroom (by omega)
 have hlen : (cur.toList.take 0 ++ Lib.byteCells b.data.toList ++ cur.toList.drop (0 + b.size)).length = cur.size := by
  have h2 := size_list b
  have h3 : cur.toList.length = cur.size := Array.length_toList
  rw [List.length_append, List.length_append, Lib.byteCells_length, List.length_take, List.length_drop, h3]; omega
 refine DL.run hg hn (v := .int .i64 (b.size : Int)) (w' := w.setRow bl (cur.toList.take 0 ++ Lib.byteCells b.data.toList ++ cur.toList.drop (0 + b.size)).toArray) ?_ (k _ _ ⟨rfl, rfl, rfl, by simp, fun i _ hi => setRow_other w bl i _ (by simpa using hi)⟩ (setRow_heap w bl cur _ T (0, 0) hb) (by simpa using hlen) (fun j hj => ?_))
 ·generalize w.setRow bl (cur.toList.take 0 ++ Lib.byteCells b.data.toList ++ cur.toList.drop (0 + b.size)).toArray = wR at hrun ⊢
  simp [execOp, resolve, Go.invoke, builtin, hs, hx, hrun, goInt]
 ·rw [List.getElem?_toArray, List.take_zero, List.nil_append, List.getElem?_append_left (by rw [Lib.byteCells_length]; exact hj)]
  simp only [Lib.byteCells, List.getElem?_map, List.getElem?_eq_getElem hj, Option.map_some]
end
end Go.Proofs.YtmbleojlnaofjaaGreatDoor.D

/- The walks of spec.free, escaped, Format at uri. -/
namespace Go.Proofs.YtmbleojlnaofjaaGreatDoor
open Go Go.RowKit D Go.Deep
set_option linter.unusedVariables false
set_option linter.unusedSimpArgs false


/-! ### What the escape makes of bytes -/
def freeB (n : Nat) : Bool := decide ((97 ≤ n ∧ n ≤ 122) ∨ (65 ≤ n ∧ n ≤ 90) ∨ (48 ≤ n ∧ n ≤ 57) ∨ n = 45 ∨ n = 95 ∨ n = 46 ∨ n = 126)
def hexU (d : Nat) : UInt8 := if d < 10 then UInt8.ofNat (48 + d) else UInt8.ofNat (55 + d)
def escU (c : UInt8) : List UInt8 := if freeB c.toNat = true then [c] else [37, hexU (c.toNat / 16), hexU (c.toNat % 16)]
def uL (l : List UInt8) : List UInt8 := l.flatMap escU
theorem escU_len (c : UInt8) : (escU c).length ≤ 3 := by
 unfold escU; split <;> simp
theorem uL_len : ∀ l : List UInt8, (uL l).length ≤ 3 * l.length
 | [] => by simp [uL]
 | c :: l => by
  have h1 := escU_len c
  have h2 := uL_len l
  simp only [uL, List.flatMap_cons, List.length_append, List.length_cons] at h2 ⊢
  omega
theorem uL_succ {s : ByteArray} {i : Nat} (h : i < s.size) : uL (s.data.toList.take (i + 1)) = uL (s.data.toList.take i) ++ escU s[i] := by
 have hl : i < s.data.toList.length := by simpa using h
 rw [List.take_succ_eq_append_getElem hl]
 simp [uL]
 rfl
theorem uL_take_len {l : List UInt8} (i : Nat) : (uL (l.take i)).length ≤ 3 * l.length := by
 have h1 := uL_len (l.take i)
 have h2 : (l.take i).length ≤ l.length := by rw [List.length_take]; omega
 omega
def nib (c : UInt8) (k : Nat) : Nat := if k = 0 then c.toNat / 16 else c.toNat % 16
theorem nib_lt (c : UInt8) (k : Nat) : nib c k < 16 := by
 have := c.toNat_lt
 unfold nib; split <;> omega
theorem hexS : ∀ d : Nat, d < 16 → ((⟨#[48, 49, 50, 51, 52, 53, 54, 55, 56, 57, 65, 66, 67, 68, 69, 70]⟩ : ByteArray).extract ((d : Int).toNat) (((d + 1 : Nat) : Int).toNat)).data.toList = [hexU d]
 | 0, _ => rfl
 | 1, _ => rfl
 | 2, _ => rfl
 | 3, _ => rfl
 | 4, _ => rfl
 | 5, _ => rfl
 | 6, _ => rfl
 | 7, _ => rfl
 | 8, _ => rfl
 | 9, _ => rfl
 | 10, _ => rfl
 | 11, _ => rfl
 | 12, _ => rfl
 | 13, _ => rfl
 | 14, _ => rfl
 | 15, _ => rfl
 | d + 16, h => by omega
def escK (c : UInt8) (k : Nat) : List UInt8 := [hexU (c.toNat / 16), hexU (c.toNat % 16)].take k
theorem escK_succ (c : UInt8) {k : Nat} (h : k < 2) : escK c (k + 1) = escK c k ++ [hexU (nib c k)] := by
 rcases (by omega : k = 0 ∨ k = 1) with rfl | rfl <;> rfl
theorem escK_len (c : UInt8) (k : Nat) : (escK c k).length ≤ 2 := by
 unfold escK; rw [List.length_take]; simp; omega
theorem ext_one {s : ByteArray} {i : Nat} (h : i < s.size) : (s.extract ((i : Int).toNat) (((i + 1 : Nat) : Int).toNat)).data.toList = [s[i]] := by
 have hl : i < s.data.toList.length := by simpa using h
 rw [Int.toNat_natCast, Int.toNat_natCast, ByteArray.data_extract, Array.toList_extract, List.extract_eq_take_drop, ← List.drop_take, List.take_succ_eq_append_getElem hl, List.drop_append_of_le_length (by rw [List.length_take]; omega), List.drop_of_length_le (by rw [List.length_take]; omega)]
 rfl

theorem free_any (c : UInt8) (w : World) : Calls Tryz.prog 128 #[.int .u8 (c.toNat : Int)] w (Ret w [] fun r _ => r = .bool (freeB c.toNat)) := by
 have hc := c.toNat_lt
 refine calls_of Tryz.func128 rfl rfl rfl rfl ?_
 have FR := Fr.refl [] w
 refine DC.seq ?_
 refine DC.region ?_
 refine DL.y rfl rfl (Y.assign) ?_
 refine DL.nil ?_
 show DC _ _ _ _ _ _
 refine DC.seq ?_
 refine DC.region ?_
 refine DL.y rfl rfl (Y.move) ?_
 refine DL.if rfl rfl (Y.ge rfl rfl) (fun c4 => ?_) (fun c4 => ?_)
 ·refine DL.y rfl rfl (Y.move) ?_
  refine DL.y rfl rfl (Y.move) ?_
  refine DL.if rfl rfl (Y.le rfl rfl) (fun c7 => ?_) (fun c7 => ?_)
  ·refine DL.y rfl rfl (Y.pickT rfl) ?_
   refine DL.y rfl rfl (Y.move) ?_
   refine DL.skip rfl rfl ?_
   refine DL.skip rfl rfl ?_
   refine DL.skip rfl rfl ?_
   refine DL.skip rfl rfl ?_
   refine DL.skip rfl rfl ?_
   refine DL.skip rfl rfl ?_
   refine DL.y rfl rfl (Y.pickT rfl) ?_
   refine DL.y rfl rfl (Y.move) ?_
   refine DL.skip rfl rfl ?_
   refine DL.skip rfl rfl ?_
   refine DL.skip rfl rfl ?_
   refine DL.skip rfl rfl ?_
   refine DL.skip rfl rfl ?_
   refine DL.skip rfl rfl ?_
   refine DL.y rfl rfl (Y.pickT rfl) ?_
   refine DL.y rfl rfl (Y.move) ?_
   refine DL.skip rfl rfl ?_
   refine DL.skip rfl rfl ?_
   refine DL.y rfl rfl (Y.pickT rfl) ?_
   refine DL.y rfl rfl (Y.move) ?_
   refine DL.skip rfl rfl ?_
   refine DL.skip rfl rfl ?_
   refine DL.y rfl rfl (Y.pickT rfl) ?_
   refine DL.y rfl rfl (Y.move) ?_
   refine DL.skip rfl rfl ?_
   refine DL.skip rfl rfl ?_
   refine DL.y rfl rfl (Y.pickT rfl) ?_
   refine DL.y rfl rfl (Y.move) ?_
   refine DL.skip rfl rfl ?_
   refine DL.skip rfl rfl ?_
   refine DL.y rfl rfl (Y.pickT rfl) ?_
   refine DL.y rfl rfl (Y.assign) ?_
   refine DL.nil ?_
   show DC _ _ _ _ _ _
   refine DC.ret ?_
   refine FinQ.ret1 rfl (Ret.mk FR ?_)
   show Value.bool true = Value.bool (decide _)
   rw [decide_eq_true (by omega)]
  ·refine DL.y rfl rfl (Y.pickT rfl) ?_
   refine DL.y rfl rfl (Y.move) ?_
   refine DL.y rfl rfl (Y.move) ?_
   refine DL.if rfl rfl (Y.ge rfl rfl) (fun c11 => ?_) (fun c11 => ?_)
   ·refine DL.y rfl rfl (Y.move) ?_
    refine DL.y rfl rfl (Y.move) ?_
    refine DL.if rfl rfl (Y.le rfl rfl) (fun c14 => ?_) (fun c14 => ?_)
    ·refine DL.y rfl rfl (Y.pickT rfl) ?_
     refine DL.y rfl rfl (Y.pickF rfl) ?_
     refine DL.y rfl rfl (Y.move) ?_
     refine DL.skip rfl rfl ?_
     refine DL.skip rfl rfl ?_
     refine DL.skip rfl rfl ?_
     refine DL.skip rfl rfl ?_
     refine DL.skip rfl rfl ?_
     refine DL.skip rfl rfl ?_
     refine DL.y rfl rfl (Y.pickT rfl) ?_
     refine DL.y rfl rfl (Y.move) ?_
     refine DL.skip rfl rfl ?_
     refine DL.skip rfl rfl ?_
     refine DL.y rfl rfl (Y.pickT rfl) ?_
     refine DL.y rfl rfl (Y.move) ?_
     refine DL.skip rfl rfl ?_
     refine DL.skip rfl rfl ?_
     refine DL.y rfl rfl (Y.pickT rfl) ?_
     refine DL.y rfl rfl (Y.move) ?_
     refine DL.skip rfl rfl ?_
     refine DL.skip rfl rfl ?_
     refine DL.y rfl rfl (Y.pickT rfl) ?_
     refine DL.y rfl rfl (Y.move) ?_
     refine DL.skip rfl rfl ?_
     refine DL.skip rfl rfl ?_
     refine DL.y rfl rfl (Y.pickT rfl) ?_
     refine DL.y rfl rfl (Y.assign) ?_
     refine DL.nil ?_
     show DC _ _ _ _ _ _
     refine DC.ret ?_
     refine FinQ.ret1 rfl (Ret.mk FR ?_)
     show Value.bool true = Value.bool (decide _)
     rw [decide_eq_true (by omega)]
    ·refine DL.y rfl rfl (Y.pickT rfl) ?_
     refine DL.y rfl rfl (Y.pickF rfl) ?_
     refine DL.y rfl rfl (Y.move) ?_
     refine DL.y rfl rfl (Y.move) ?_
     refine DL.if rfl rfl (Y.ge rfl rfl) (fun c19 => ?_) (fun c19 => ?_)
     ·refine DL.y rfl rfl (Y.move) ?_
      refine DL.y rfl rfl (Y.move) ?_
      refine DL.if rfl rfl (Y.le rfl rfl) (fun c22 => ?_) (fun c22 => ?_)
      ·refine DL.y rfl rfl (Y.pickT rfl) ?_
       refine DL.y rfl rfl (Y.pickF rfl) ?_
       refine DL.y rfl rfl (Y.move) ?_
       refine DL.skip rfl rfl ?_
       refine DL.skip rfl rfl ?_
       refine DL.y rfl rfl (Y.pickT rfl) ?_
       refine DL.y rfl rfl (Y.move) ?_
       refine DL.skip rfl rfl ?_
       refine DL.skip rfl rfl ?_
       refine DL.y rfl rfl (Y.pickT rfl) ?_
       refine DL.y rfl rfl (Y.move) ?_
       refine DL.skip rfl rfl ?_
       refine DL.skip rfl rfl ?_
       refine DL.y rfl rfl (Y.pickT rfl) ?_
       refine DL.y rfl rfl (Y.move) ?_
       refine DL.skip rfl rfl ?_
       refine DL.skip rfl rfl ?_
       refine DL.y rfl rfl (Y.pickT rfl) ?_
       refine DL.y rfl rfl (Y.assign) ?_
       refine DL.nil ?_
       show DC _ _ _ _ _ _
       refine DC.ret ?_
       refine FinQ.ret1 rfl (Ret.mk FR ?_)
       show Value.bool true = Value.bool (decide _)
       rw [decide_eq_true (by omega)]
      ·refine DL.y rfl rfl (Y.pickT rfl) ?_
       refine DL.y rfl rfl (Y.pickF rfl) ?_
       refine DL.y rfl rfl (Y.move) ?_
       refine DL.y rfl rfl (Y.move) ?_
       refine DL.if rfl rfl (Y.eq rfl rfl) (fun c27 => ?_) (fun c27 => ?_)
       ·refine DL.y rfl rfl (Y.pickF rfl) ?_
        refine DL.y rfl rfl (Y.move) ?_
        refine DL.skip rfl rfl ?_
        refine DL.skip rfl rfl ?_
        refine DL.y rfl rfl (Y.pickT rfl) ?_
        refine DL.y rfl rfl (Y.move) ?_
        refine DL.skip rfl rfl ?_
        refine DL.skip rfl rfl ?_
        refine DL.y rfl rfl (Y.pickT rfl) ?_
        refine DL.y rfl rfl (Y.move) ?_
        refine DL.skip rfl rfl ?_
        refine DL.skip rfl rfl ?_
        refine DL.y rfl rfl (Y.pickT rfl) ?_
        refine DL.y rfl rfl (Y.assign) ?_
        refine DL.nil ?_
        show DC _ _ _ _ _ _
        refine DC.ret ?_
        refine FinQ.ret1 rfl (Ret.mk FR ?_)
        show Value.bool true = Value.bool (decide _)
        rw [decide_eq_true (by omega)]
       ·refine DL.y rfl rfl (Y.pickF rfl) ?_
        refine DL.y rfl rfl (Y.move) ?_
        refine DL.y rfl rfl (Y.move) ?_
        refine DL.if rfl rfl (Y.eq rfl rfl) (fun c31 => ?_) (fun c31 => ?_)
        ·refine DL.y rfl rfl (Y.pickF rfl) ?_
         refine DL.y rfl rfl (Y.move) ?_
         refine DL.skip rfl rfl ?_
         refine DL.skip rfl rfl ?_
         refine DL.y rfl rfl (Y.pickT rfl) ?_
         refine DL.y rfl rfl (Y.move) ?_
         refine DL.skip rfl rfl ?_
         refine DL.skip rfl rfl ?_
         refine DL.y rfl rfl (Y.pickT rfl) ?_
         refine DL.y rfl rfl (Y.assign) ?_
         refine DL.nil ?_
         show DC _ _ _ _ _ _
         refine DC.ret ?_
         refine FinQ.ret1 rfl (Ret.mk FR ?_)
         show Value.bool true = Value.bool (decide _)
         rw [decide_eq_true (by omega)]
        ·refine DL.y rfl rfl (Y.pickF rfl) ?_
         refine DL.y rfl rfl (Y.move) ?_
         refine DL.y rfl rfl (Y.move) ?_
         refine DL.if rfl rfl (Y.eq rfl rfl) (fun c35 => ?_) (fun c35 => ?_)
         ·refine DL.y rfl rfl (Y.pickF rfl) ?_
          refine DL.y rfl rfl (Y.move) ?_
          refine DL.skip rfl rfl ?_
          refine DL.skip rfl rfl ?_
          refine DL.y rfl rfl (Y.pickT rfl) ?_
          refine DL.y rfl rfl (Y.assign) ?_
          refine DL.nil ?_
          show DC _ _ _ _ _ _
          refine DC.ret ?_
          refine FinQ.ret1 rfl (Ret.mk FR ?_)
          show Value.bool true = Value.bool (decide _)
          rw [decide_eq_true (by omega)]
         ·refine DL.y rfl rfl (Y.pickF rfl) ?_
          refine DL.y rfl rfl (Y.move) ?_
          refine DL.y rfl rfl (Y.move) ?_
          refine DL.if rfl rfl (Y.eq rfl rfl) (fun c39 => ?_) (fun c39 => ?_)
          ·refine DL.y rfl rfl (Y.pickF rfl) ?_
           refine DL.y rfl rfl (Y.assign) ?_
           refine DL.nil ?_
           show DC _ _ _ _ _ _
           refine DC.ret ?_
           refine FinQ.ret1 rfl (Ret.mk FR ?_)
           show Value.bool true = Value.bool (decide _)
           rw [decide_eq_true (by omega)]
          ·refine DL.y rfl rfl (Y.pickF rfl) ?_
           refine DL.y rfl rfl (Y.assign) ?_
           refine DL.nil ?_
           show DC _ _ _ _ _ _
           refine DC.ret ?_
           refine FinQ.ret1 rfl (Ret.mk FR ?_)
           show Value.bool false = Value.bool (decide _)
           rw [decide_eq_false (by omega)]
     ·refine DL.y rfl rfl (Y.move) ?_
      refine DL.skip rfl rfl ?_
      refine DL.skip rfl rfl ?_
      refine DL.y rfl rfl (Y.pickF rfl) ?_
      refine DL.y rfl rfl (Y.pickF rfl) ?_
      refine DL.y rfl rfl (Y.move) ?_
      refine DL.y rfl rfl (Y.move) ?_
      refine DL.if rfl rfl (Y.eq rfl rfl) (fun c27 => ?_) (fun c27 => ?_)
      ·refine DL.y rfl rfl (Y.pickF rfl) ?_
       refine DL.y rfl rfl (Y.move) ?_
       refine DL.skip rfl rfl ?_
       refine DL.skip rfl rfl ?_
       refine DL.y rfl rfl (Y.pickT rfl) ?_
       refine DL.y rfl rfl (Y.move) ?_
       refine DL.skip rfl rfl ?_
       refine DL.skip rfl rfl ?_
       refine DL.y rfl rfl (Y.pickT rfl) ?_
       refine DL.y rfl rfl (Y.move) ?_
       refine DL.skip rfl rfl ?_
       refine DL.skip rfl rfl ?_
       refine DL.y rfl rfl (Y.pickT rfl) ?_
       refine DL.y rfl rfl (Y.assign) ?_
       refine DL.nil ?_
       show DC _ _ _ _ _ _
       refine DC.ret ?_
       refine FinQ.ret1 rfl (Ret.mk FR ?_)
       show Value.bool true = Value.bool (decide _)
       rw [decide_eq_true (by omega)]
      ·refine DL.y rfl rfl (Y.pickF rfl) ?_
       refine DL.y rfl rfl (Y.move) ?_
       refine DL.y rfl rfl (Y.move) ?_
       refine DL.if rfl rfl (Y.eq rfl rfl) (fun c31 => ?_) (fun c31 => ?_)
       ·refine DL.y rfl rfl (Y.pickF rfl) ?_
        refine DL.y rfl rfl (Y.move) ?_
        refine DL.skip rfl rfl ?_
        refine DL.skip rfl rfl ?_
        refine DL.y rfl rfl (Y.pickT rfl) ?_
        refine DL.y rfl rfl (Y.move) ?_
        refine DL.skip rfl rfl ?_
        refine DL.skip rfl rfl ?_
        refine DL.y rfl rfl (Y.pickT rfl) ?_
        refine DL.y rfl rfl (Y.assign) ?_
        refine DL.nil ?_
        show DC _ _ _ _ _ _
        refine DC.ret ?_
        refine FinQ.ret1 rfl (Ret.mk FR ?_)
        show Value.bool true = Value.bool (decide _)
        rw [decide_eq_true (by omega)]
       ·refine DL.y rfl rfl (Y.pickF rfl) ?_
        refine DL.y rfl rfl (Y.move) ?_
        refine DL.y rfl rfl (Y.move) ?_
        refine DL.if rfl rfl (Y.eq rfl rfl) (fun c35 => ?_) (fun c35 => ?_)
        ·refine DL.y rfl rfl (Y.pickF rfl) ?_
         refine DL.y rfl rfl (Y.move) ?_
         refine DL.skip rfl rfl ?_
         refine DL.skip rfl rfl ?_
         refine DL.y rfl rfl (Y.pickT rfl) ?_
         refine DL.y rfl rfl (Y.assign) ?_
         refine DL.nil ?_
         show DC _ _ _ _ _ _
         refine DC.ret ?_
         refine FinQ.ret1 rfl (Ret.mk FR ?_)
         show Value.bool true = Value.bool (decide _)
         rw [decide_eq_true (by omega)]
        ·refine DL.y rfl rfl (Y.pickF rfl) ?_
         refine DL.y rfl rfl (Y.move) ?_
         refine DL.y rfl rfl (Y.move) ?_
         refine DL.if rfl rfl (Y.eq rfl rfl) (fun c39 => ?_) (fun c39 => ?_)
         ·refine DL.y rfl rfl (Y.pickF rfl) ?_
          refine DL.y rfl rfl (Y.assign) ?_
          refine DL.nil ?_
          show DC _ _ _ _ _ _
          refine DC.ret ?_
          refine FinQ.ret1 rfl (Ret.mk FR ?_)
          show Value.bool true = Value.bool (decide _)
          rw [decide_eq_true (by omega)]
         ·refine DL.y rfl rfl (Y.pickF rfl) ?_
          refine DL.y rfl rfl (Y.assign) ?_
          refine DL.nil ?_
          show DC _ _ _ _ _ _
          refine DC.ret ?_
          refine FinQ.ret1 rfl (Ret.mk FR ?_)
          show Value.bool false = Value.bool (decide _)
          rw [decide_eq_false (by omega)]
   ·refine DL.y rfl rfl (Y.move) ?_
    refine DL.skip rfl rfl ?_
    refine DL.skip rfl rfl ?_
    refine DL.y rfl rfl (Y.pickF rfl) ?_
    refine DL.y rfl rfl (Y.pickF rfl) ?_
    refine DL.y rfl rfl (Y.move) ?_
    refine DL.y rfl rfl (Y.move) ?_
    refine DL.if rfl rfl (Y.ge rfl rfl) (fun c19 => ?_) (fun c19 => ?_)
    ·refine DL.y rfl rfl (Y.move) ?_
     refine DL.y rfl rfl (Y.move) ?_
     refine DL.if rfl rfl (Y.le rfl rfl) (fun c22 => ?_) (fun c22 => ?_)
     ·refine DL.y rfl rfl (Y.pickT rfl) ?_
      refine DL.y rfl rfl (Y.pickF rfl) ?_
      refine DL.y rfl rfl (Y.move) ?_
      refine DL.skip rfl rfl ?_
      refine DL.skip rfl rfl ?_
      refine DL.y rfl rfl (Y.pickT rfl) ?_
      refine DL.y rfl rfl (Y.move) ?_
      refine DL.skip rfl rfl ?_
      refine DL.skip rfl rfl ?_
      refine DL.y rfl rfl (Y.pickT rfl) ?_
      refine DL.y rfl rfl (Y.move) ?_
      refine DL.skip rfl rfl ?_
      refine DL.skip rfl rfl ?_
      refine DL.y rfl rfl (Y.pickT rfl) ?_
      refine DL.y rfl rfl (Y.move) ?_
      refine DL.skip rfl rfl ?_
      refine DL.skip rfl rfl ?_
      refine DL.y rfl rfl (Y.pickT rfl) ?_
      refine DL.y rfl rfl (Y.assign) ?_
      refine DL.nil ?_
      show DC _ _ _ _ _ _
      refine DC.ret ?_
      refine FinQ.ret1 rfl (Ret.mk FR ?_)
      show Value.bool true = Value.bool (decide _)
      rw [decide_eq_true (by omega)]
     ·refine DL.y rfl rfl (Y.pickT rfl) ?_
      refine DL.y rfl rfl (Y.pickF rfl) ?_
      refine DL.y rfl rfl (Y.move) ?_
      refine DL.y rfl rfl (Y.move) ?_
      refine DL.if rfl rfl (Y.eq rfl rfl) (fun c27 => ?_) (fun c27 => ?_)
      ·refine DL.y rfl rfl (Y.pickF rfl) ?_
       refine DL.y rfl rfl (Y.move) ?_
       refine DL.skip rfl rfl ?_
       refine DL.skip rfl rfl ?_
       refine DL.y rfl rfl (Y.pickT rfl) ?_
       refine DL.y rfl rfl (Y.move) ?_
       refine DL.skip rfl rfl ?_
       refine DL.skip rfl rfl ?_
       refine DL.y rfl rfl (Y.pickT rfl) ?_
       refine DL.y rfl rfl (Y.move) ?_
       refine DL.skip rfl rfl ?_
       refine DL.skip rfl rfl ?_
       refine DL.y rfl rfl (Y.pickT rfl) ?_
       refine DL.y rfl rfl (Y.assign) ?_
       refine DL.nil ?_
       show DC _ _ _ _ _ _
       refine DC.ret ?_
       refine FinQ.ret1 rfl (Ret.mk FR ?_)
       show Value.bool true = Value.bool (decide _)
       rw [decide_eq_true (by omega)]
      ·refine DL.y rfl rfl (Y.pickF rfl) ?_
       refine DL.y rfl rfl (Y.move) ?_
       refine DL.y rfl rfl (Y.move) ?_
       refine DL.if rfl rfl (Y.eq rfl rfl) (fun c31 => ?_) (fun c31 => ?_)
       ·refine DL.y rfl rfl (Y.pickF rfl) ?_
        refine DL.y rfl rfl (Y.move) ?_
        refine DL.skip rfl rfl ?_
        refine DL.skip rfl rfl ?_
        refine DL.y rfl rfl (Y.pickT rfl) ?_
        refine DL.y rfl rfl (Y.move) ?_
        refine DL.skip rfl rfl ?_
        refine DL.skip rfl rfl ?_
        refine DL.y rfl rfl (Y.pickT rfl) ?_
        refine DL.y rfl rfl (Y.assign) ?_
        refine DL.nil ?_
        show DC _ _ _ _ _ _
        refine DC.ret ?_
        refine FinQ.ret1 rfl (Ret.mk FR ?_)
        show Value.bool true = Value.bool (decide _)
        rw [decide_eq_true (by omega)]
       ·refine DL.y rfl rfl (Y.pickF rfl) ?_
        refine DL.y rfl rfl (Y.move) ?_
        refine DL.y rfl rfl (Y.move) ?_
        refine DL.if rfl rfl (Y.eq rfl rfl) (fun c35 => ?_) (fun c35 => ?_)
        ·refine DL.y rfl rfl (Y.pickF rfl) ?_
         refine DL.y rfl rfl (Y.move) ?_
         refine DL.skip rfl rfl ?_
         refine DL.skip rfl rfl ?_
         refine DL.y rfl rfl (Y.pickT rfl) ?_
         refine DL.y rfl rfl (Y.assign) ?_
         refine DL.nil ?_
         show DC _ _ _ _ _ _
         refine DC.ret ?_
         refine FinQ.ret1 rfl (Ret.mk FR ?_)
         show Value.bool true = Value.bool (decide _)
         rw [decide_eq_true (by omega)]
        ·refine DL.y rfl rfl (Y.pickF rfl) ?_
         refine DL.y rfl rfl (Y.move) ?_
         refine DL.y rfl rfl (Y.move) ?_
         refine DL.if rfl rfl (Y.eq rfl rfl) (fun c39 => ?_) (fun c39 => ?_)
         ·refine DL.y rfl rfl (Y.pickF rfl) ?_
          refine DL.y rfl rfl (Y.assign) ?_
          refine DL.nil ?_
          show DC _ _ _ _ _ _
          refine DC.ret ?_
          refine FinQ.ret1 rfl (Ret.mk FR ?_)
          show Value.bool true = Value.bool (decide _)
          rw [decide_eq_true (by omega)]
         ·refine DL.y rfl rfl (Y.pickF rfl) ?_
          refine DL.y rfl rfl (Y.assign) ?_
          refine DL.nil ?_
          show DC _ _ _ _ _ _
          refine DC.ret ?_
          refine FinQ.ret1 rfl (Ret.mk FR ?_)
          show Value.bool false = Value.bool (decide _)
          rw [decide_eq_false (by omega)]
    ·refine DL.y rfl rfl (Y.move) ?_
     refine DL.skip rfl rfl ?_
     refine DL.skip rfl rfl ?_
     refine DL.y rfl rfl (Y.pickF rfl) ?_
     refine DL.y rfl rfl (Y.pickF rfl) ?_
     refine DL.y rfl rfl (Y.move) ?_
     refine DL.y rfl rfl (Y.move) ?_
     refine DL.if rfl rfl (Y.eq rfl rfl) (fun c27 => ?_) (fun c27 => ?_)
     ·refine DL.y rfl rfl (Y.pickF rfl) ?_
      refine DL.y rfl rfl (Y.move) ?_
      refine DL.skip rfl rfl ?_
      refine DL.skip rfl rfl ?_
      refine DL.y rfl rfl (Y.pickT rfl) ?_
      refine DL.y rfl rfl (Y.move) ?_
      refine DL.skip rfl rfl ?_
      refine DL.skip rfl rfl ?_
      refine DL.y rfl rfl (Y.pickT rfl) ?_
      refine DL.y rfl rfl (Y.move) ?_
      refine DL.skip rfl rfl ?_
      refine DL.skip rfl rfl ?_
      refine DL.y rfl rfl (Y.pickT rfl) ?_
      refine DL.y rfl rfl (Y.assign) ?_
      refine DL.nil ?_
      show DC _ _ _ _ _ _
      refine DC.ret ?_
      refine FinQ.ret1 rfl (Ret.mk FR ?_)
      show Value.bool true = Value.bool (decide _)
      rw [decide_eq_true (by omega)]
     ·refine DL.y rfl rfl (Y.pickF rfl) ?_
      refine DL.y rfl rfl (Y.move) ?_
      refine DL.y rfl rfl (Y.move) ?_
      refine DL.if rfl rfl (Y.eq rfl rfl) (fun c31 => ?_) (fun c31 => ?_)
      ·refine DL.y rfl rfl (Y.pickF rfl) ?_
       refine DL.y rfl rfl (Y.move) ?_
       refine DL.skip rfl rfl ?_
       refine DL.skip rfl rfl ?_
       refine DL.y rfl rfl (Y.pickT rfl) ?_
       refine DL.y rfl rfl (Y.move) ?_
       refine DL.skip rfl rfl ?_
       refine DL.skip rfl rfl ?_
       refine DL.y rfl rfl (Y.pickT rfl) ?_
       refine DL.y rfl rfl (Y.assign) ?_
       refine DL.nil ?_
       show DC _ _ _ _ _ _
       refine DC.ret ?_
       refine FinQ.ret1 rfl (Ret.mk FR ?_)
       show Value.bool true = Value.bool (decide _)
       rw [decide_eq_true (by omega)]
      ·refine DL.y rfl rfl (Y.pickF rfl) ?_
       refine DL.y rfl rfl (Y.move) ?_
       refine DL.y rfl rfl (Y.move) ?_
       refine DL.if rfl rfl (Y.eq rfl rfl) (fun c35 => ?_) (fun c35 => ?_)
       ·refine DL.y rfl rfl (Y.pickF rfl) ?_
        refine DL.y rfl rfl (Y.move) ?_
        refine DL.skip rfl rfl ?_
        refine DL.skip rfl rfl ?_
        refine DL.y rfl rfl (Y.pickT rfl) ?_
        refine DL.y rfl rfl (Y.assign) ?_
        refine DL.nil ?_
        show DC _ _ _ _ _ _
        refine DC.ret ?_
        refine FinQ.ret1 rfl (Ret.mk FR ?_)
        show Value.bool true = Value.bool (decide _)
        rw [decide_eq_true (by omega)]
       ·refine DL.y rfl rfl (Y.pickF rfl) ?_
        refine DL.y rfl rfl (Y.move) ?_
        refine DL.y rfl rfl (Y.move) ?_
        refine DL.if rfl rfl (Y.eq rfl rfl) (fun c39 => ?_) (fun c39 => ?_)
        ·refine DL.y rfl rfl (Y.pickF rfl) ?_
         refine DL.y rfl rfl (Y.assign) ?_
         refine DL.nil ?_
         show DC _ _ _ _ _ _
         refine DC.ret ?_
         refine FinQ.ret1 rfl (Ret.mk FR ?_)
         show Value.bool true = Value.bool (decide _)
         rw [decide_eq_true (by omega)]
        ·refine DL.y rfl rfl (Y.pickF rfl) ?_
         refine DL.y rfl rfl (Y.assign) ?_
         refine DL.nil ?_
         show DC _ _ _ _ _ _
         refine DC.ret ?_
         refine FinQ.ret1 rfl (Ret.mk FR ?_)
         show Value.bool false = Value.bool (decide _)
         rw [decide_eq_false (by omega)]
 ·refine DL.y rfl rfl (Y.move) ?_
  refine DL.skip rfl rfl ?_
  refine DL.skip rfl rfl ?_
  refine DL.y rfl rfl (Y.pickF rfl) ?_
  refine DL.y rfl rfl (Y.move) ?_
  refine DL.y rfl rfl (Y.move) ?_
  refine DL.if rfl rfl (Y.ge rfl rfl) (fun c11 => ?_) (fun c11 => ?_)
  ·refine DL.y rfl rfl (Y.move) ?_
   refine DL.y rfl rfl (Y.move) ?_
   refine DL.if rfl rfl (Y.le rfl rfl) (fun c14 => ?_) (fun c14 => ?_)
   ·refine DL.y rfl rfl (Y.pickT rfl) ?_
    refine DL.y rfl rfl (Y.pickF rfl) ?_
    refine DL.y rfl rfl (Y.move) ?_
    refine DL.skip rfl rfl ?_
    refine DL.skip rfl rfl ?_
    refine DL.skip rfl rfl ?_
    refine DL.skip rfl rfl ?_
    refine DL.skip rfl rfl ?_
    refine DL.skip rfl rfl ?_
    refine DL.y rfl rfl (Y.pickT rfl) ?_
    refine DL.y rfl rfl (Y.move) ?_
    refine DL.skip rfl rfl ?_
    refine DL.skip rfl rfl ?_
    refine DL.y rfl rfl (Y.pickT rfl) ?_
    refine DL.y rfl rfl (Y.move) ?_
    refine DL.skip rfl rfl ?_
    refine DL.skip rfl rfl ?_
    refine DL.y rfl rfl (Y.pickT rfl) ?_
    refine DL.y rfl rfl (Y.move) ?_
    refine DL.skip rfl rfl ?_
    refine DL.skip rfl rfl ?_
    refine DL.y rfl rfl (Y.pickT rfl) ?_
    refine DL.y rfl rfl (Y.move) ?_
    refine DL.skip rfl rfl ?_
    refine DL.skip rfl rfl ?_
    refine DL.y rfl rfl (Y.pickT rfl) ?_
    refine DL.y rfl rfl (Y.assign) ?_
    refine DL.nil ?_
    show DC _ _ _ _ _ _
    refine DC.ret ?_
    refine FinQ.ret1 rfl (Ret.mk FR ?_)
    show Value.bool true = Value.bool (decide _)
    rw [decide_eq_true (by omega)]
   ·refine DL.y rfl rfl (Y.pickT rfl) ?_
    refine DL.y rfl rfl (Y.pickF rfl) ?_
    refine DL.y rfl rfl (Y.move) ?_
    refine DL.y rfl rfl (Y.move) ?_
    refine DL.if rfl rfl (Y.ge rfl rfl) (fun c19 => ?_) (fun c19 => ?_)
    ·refine DL.y rfl rfl (Y.move) ?_
     refine DL.y rfl rfl (Y.move) ?_
     refine DL.if rfl rfl (Y.le rfl rfl) (fun c22 => ?_) (fun c22 => ?_)
     ·refine DL.y rfl rfl (Y.pickT rfl) ?_
      refine DL.y rfl rfl (Y.pickF rfl) ?_
      refine DL.y rfl rfl (Y.move) ?_
      refine DL.skip rfl rfl ?_
      refine DL.skip rfl rfl ?_
      refine DL.y rfl rfl (Y.pickT rfl) ?_
      refine DL.y rfl rfl (Y.move) ?_
      refine DL.skip rfl rfl ?_
      refine DL.skip rfl rfl ?_
      refine DL.y rfl rfl (Y.pickT rfl) ?_
      refine DL.y rfl rfl (Y.move) ?_
      refine DL.skip rfl rfl ?_
      refine DL.skip rfl rfl ?_
      refine DL.y rfl rfl (Y.pickT rfl) ?_
      refine DL.y rfl rfl (Y.move) ?_
      refine DL.skip rfl rfl ?_
      refine DL.skip rfl rfl ?_
      refine DL.y rfl rfl (Y.pickT rfl) ?_
      refine DL.y rfl rfl (Y.assign) ?_
      refine DL.nil ?_
      show DC _ _ _ _ _ _
      refine DC.ret ?_
      refine FinQ.ret1 rfl (Ret.mk FR ?_)
      show Value.bool true = Value.bool (decide _)
      rw [decide_eq_true (by omega)]
     ·refine DL.y rfl rfl (Y.pickT rfl) ?_
      refine DL.y rfl rfl (Y.pickF rfl) ?_
      refine DL.y rfl rfl (Y.move) ?_
      refine DL.y rfl rfl (Y.move) ?_
      refine DL.if rfl rfl (Y.eq rfl rfl) (fun c27 => ?_) (fun c27 => ?_)
      ·refine DL.y rfl rfl (Y.pickF rfl) ?_
       refine DL.y rfl rfl (Y.move) ?_
       refine DL.skip rfl rfl ?_
       refine DL.skip rfl rfl ?_
       refine DL.y rfl rfl (Y.pickT rfl) ?_
       refine DL.y rfl rfl (Y.move) ?_
       refine DL.skip rfl rfl ?_
       refine DL.skip rfl rfl ?_
       refine DL.y rfl rfl (Y.pickT rfl) ?_
       refine DL.y rfl rfl (Y.move) ?_
       refine DL.skip rfl rfl ?_
       refine DL.skip rfl rfl ?_
       refine DL.y rfl rfl (Y.pickT rfl) ?_
       refine DL.y rfl rfl (Y.assign) ?_
       refine DL.nil ?_
       show DC _ _ _ _ _ _
       refine DC.ret ?_
       refine FinQ.ret1 rfl (Ret.mk FR ?_)
       show Value.bool true = Value.bool (decide _)
       rw [decide_eq_true (by omega)]
      ·refine DL.y rfl rfl (Y.pickF rfl) ?_
       refine DL.y rfl rfl (Y.move) ?_
       refine DL.y rfl rfl (Y.move) ?_
       refine DL.if rfl rfl (Y.eq rfl rfl) (fun c31 => ?_) (fun c31 => ?_)
       ·refine DL.y rfl rfl (Y.pickF rfl) ?_
        refine DL.y rfl rfl (Y.move) ?_
        refine DL.skip rfl rfl ?_
        refine DL.skip rfl rfl ?_
        refine DL.y rfl rfl (Y.pickT rfl) ?_
        refine DL.y rfl rfl (Y.move) ?_
        refine DL.skip rfl rfl ?_
        refine DL.skip rfl rfl ?_
        refine DL.y rfl rfl (Y.pickT rfl) ?_
        refine DL.y rfl rfl (Y.assign) ?_
        refine DL.nil ?_
        show DC _ _ _ _ _ _
        refine DC.ret ?_
        refine FinQ.ret1 rfl (Ret.mk FR ?_)
        show Value.bool true = Value.bool (decide _)
        rw [decide_eq_true (by omega)]
       ·refine DL.y rfl rfl (Y.pickF rfl) ?_
        refine DL.y rfl rfl (Y.move) ?_
        refine DL.y rfl rfl (Y.move) ?_
        refine DL.if rfl rfl (Y.eq rfl rfl) (fun c35 => ?_) (fun c35 => ?_)
        ·refine DL.y rfl rfl (Y.pickF rfl) ?_
         refine DL.y rfl rfl (Y.move) ?_
         refine DL.skip rfl rfl ?_
         refine DL.skip rfl rfl ?_
         refine DL.y rfl rfl (Y.pickT rfl) ?_
         refine DL.y rfl rfl (Y.assign) ?_
         refine DL.nil ?_
         show DC _ _ _ _ _ _
         refine DC.ret ?_
         refine FinQ.ret1 rfl (Ret.mk FR ?_)
         show Value.bool true = Value.bool (decide _)
         rw [decide_eq_true (by omega)]
        ·refine DL.y rfl rfl (Y.pickF rfl) ?_
         refine DL.y rfl rfl (Y.move) ?_
         refine DL.y rfl rfl (Y.move) ?_
         refine DL.if rfl rfl (Y.eq rfl rfl) (fun c39 => ?_) (fun c39 => ?_)
         ·refine DL.y rfl rfl (Y.pickF rfl) ?_
          refine DL.y rfl rfl (Y.assign) ?_
          refine DL.nil ?_
          show DC _ _ _ _ _ _
          refine DC.ret ?_
          refine FinQ.ret1 rfl (Ret.mk FR ?_)
          show Value.bool true = Value.bool (decide _)
          rw [decide_eq_true (by omega)]
         ·refine DL.y rfl rfl (Y.pickF rfl) ?_
          refine DL.y rfl rfl (Y.assign) ?_
          refine DL.nil ?_
          show DC _ _ _ _ _ _
          refine DC.ret ?_
          refine FinQ.ret1 rfl (Ret.mk FR ?_)
          show Value.bool false = Value.bool (decide _)
          rw [decide_eq_false (by omega)]
    ·refine DL.y rfl rfl (Y.move) ?_
     refine DL.skip rfl rfl ?_
     refine DL.skip rfl rfl ?_
     refine DL.y rfl rfl (Y.pickF rfl) ?_
     refine DL.y rfl rfl (Y.pickF rfl) ?_
     refine DL.y rfl rfl (Y.move) ?_
     refine DL.y rfl rfl (Y.move) ?_
     refine DL.if rfl rfl (Y.eq rfl rfl) (fun c27 => ?_) (fun c27 => ?_)
     ·refine DL.y rfl rfl (Y.pickF rfl) ?_
      refine DL.y rfl rfl (Y.move) ?_
      refine DL.skip rfl rfl ?_
      refine DL.skip rfl rfl ?_
      refine DL.y rfl rfl (Y.pickT rfl) ?_
      refine DL.y rfl rfl (Y.move) ?_
      refine DL.skip rfl rfl ?_
      refine DL.skip rfl rfl ?_
      refine DL.y rfl rfl (Y.pickT rfl) ?_
      refine DL.y rfl rfl (Y.move) ?_
      refine DL.skip rfl rfl ?_
      refine DL.skip rfl rfl ?_
      refine DL.y rfl rfl (Y.pickT rfl) ?_
      refine DL.y rfl rfl (Y.assign) ?_
      refine DL.nil ?_
      show DC _ _ _ _ _ _
      refine DC.ret ?_
      refine FinQ.ret1 rfl (Ret.mk FR ?_)
      show Value.bool true = Value.bool (decide _)
      rw [decide_eq_true (by omega)]
     ·refine DL.y rfl rfl (Y.pickF rfl) ?_
      refine DL.y rfl rfl (Y.move) ?_
      refine DL.y rfl rfl (Y.move) ?_
      refine DL.if rfl rfl (Y.eq rfl rfl) (fun c31 => ?_) (fun c31 => ?_)
      ·refine DL.y rfl rfl (Y.pickF rfl) ?_
       refine DL.y rfl rfl (Y.move) ?_
       refine DL.skip rfl rfl ?_
       refine DL.skip rfl rfl ?_
       refine DL.y rfl rfl (Y.pickT rfl) ?_
       refine DL.y rfl rfl (Y.move) ?_
       refine DL.skip rfl rfl ?_
       refine DL.skip rfl rfl ?_
       refine DL.y rfl rfl (Y.pickT rfl) ?_
       refine DL.y rfl rfl (Y.assign) ?_
       refine DL.nil ?_
       show DC _ _ _ _ _ _
       refine DC.ret ?_
       refine FinQ.ret1 rfl (Ret.mk FR ?_)
       show Value.bool true = Value.bool (decide _)
       rw [decide_eq_true (by omega)]
      ·refine DL.y rfl rfl (Y.pickF rfl) ?_
       refine DL.y rfl rfl (Y.move) ?_
       refine DL.y rfl rfl (Y.move) ?_
       refine DL.if rfl rfl (Y.eq rfl rfl) (fun c35 => ?_) (fun c35 => ?_)
       ·refine DL.y rfl rfl (Y.pickF rfl) ?_
        refine DL.y rfl rfl (Y.move) ?_
        refine DL.skip rfl rfl ?_
        refine DL.skip rfl rfl ?_
        refine DL.y rfl rfl (Y.pickT rfl) ?_
        refine DL.y rfl rfl (Y.assign) ?_
        refine DL.nil ?_
        show DC _ _ _ _ _ _
        refine DC.ret ?_
        refine FinQ.ret1 rfl (Ret.mk FR ?_)
        show Value.bool true = Value.bool (decide _)
        rw [decide_eq_true (by omega)]
       ·refine DL.y rfl rfl (Y.pickF rfl) ?_
        refine DL.y rfl rfl (Y.move) ?_
        refine DL.y rfl rfl (Y.move) ?_
        refine DL.if rfl rfl (Y.eq rfl rfl) (fun c39 => ?_) (fun c39 => ?_)
        ·refine DL.y rfl rfl (Y.pickF rfl) ?_
         refine DL.y rfl rfl (Y.assign) ?_
         refine DL.nil ?_
         show DC _ _ _ _ _ _
         refine DC.ret ?_
         refine FinQ.ret1 rfl (Ret.mk FR ?_)
         show Value.bool true = Value.bool (decide _)
         rw [decide_eq_true (by omega)]
        ·refine DL.y rfl rfl (Y.pickF rfl) ?_
         refine DL.y rfl rfl (Y.assign) ?_
         refine DL.nil ?_
         show DC _ _ _ _ _ _
         refine DC.ret ?_
         refine FinQ.ret1 rfl (Ret.mk FR ?_)
         show Value.bool false = Value.bool (decide _)
         rw [decide_eq_false (by omega)]
  ·refine DL.y rfl rfl (Y.move) ?_
   refine DL.skip rfl rfl ?_
   refine DL.skip rfl rfl ?_
   refine DL.y rfl rfl (Y.pickF rfl) ?_
   refine DL.y rfl rfl (Y.pickF rfl) ?_
   refine DL.y rfl rfl (Y.move) ?_
   refine DL.y rfl rfl (Y.move) ?_
   refine DL.if rfl rfl (Y.ge rfl rfl) (fun c19 => ?_) (fun c19 => ?_)
   ·refine DL.y rfl rfl (Y.move) ?_
    refine DL.y rfl rfl (Y.move) ?_
    refine DL.if rfl rfl (Y.le rfl rfl) (fun c22 => ?_) (fun c22 => ?_)
    ·refine DL.y rfl rfl (Y.pickT rfl) ?_
     refine DL.y rfl rfl (Y.pickF rfl) ?_
     refine DL.y rfl rfl (Y.move) ?_
     refine DL.skip rfl rfl ?_
     refine DL.skip rfl rfl ?_
     refine DL.y rfl rfl (Y.pickT rfl) ?_
     refine DL.y rfl rfl (Y.move) ?_
     refine DL.skip rfl rfl ?_
     refine DL.skip rfl rfl ?_
     refine DL.y rfl rfl (Y.pickT rfl) ?_
     refine DL.y rfl rfl (Y.move) ?_
     refine DL.skip rfl rfl ?_
     refine DL.skip rfl rfl ?_
     refine DL.y rfl rfl (Y.pickT rfl) ?_
     refine DL.y rfl rfl (Y.move) ?_
     refine DL.skip rfl rfl ?_
     refine DL.skip rfl rfl ?_
     refine DL.y rfl rfl (Y.pickT rfl) ?_
     refine DL.y rfl rfl (Y.assign) ?_
     refine DL.nil ?_
     show DC _ _ _ _ _ _
     refine DC.ret ?_
     refine FinQ.ret1 rfl (Ret.mk FR ?_)
     show Value.bool true = Value.bool (decide _)
     rw [decide_eq_true (by omega)]
    ·refine DL.y rfl rfl (Y.pickT rfl) ?_
     refine DL.y rfl rfl (Y.pickF rfl) ?_
     refine DL.y rfl rfl (Y.move) ?_
     refine DL.y rfl rfl (Y.move) ?_
     refine DL.if rfl rfl (Y.eq rfl rfl) (fun c27 => ?_) (fun c27 => ?_)
     ·refine DL.y rfl rfl (Y.pickF rfl) ?_
      refine DL.y rfl rfl (Y.move) ?_
      refine DL.skip rfl rfl ?_
      refine DL.skip rfl rfl ?_
      refine DL.y rfl rfl (Y.pickT rfl) ?_
      refine DL.y rfl rfl (Y.move) ?_
      refine DL.skip rfl rfl ?_
      refine DL.skip rfl rfl ?_
      refine DL.y rfl rfl (Y.pickT rfl) ?_
      refine DL.y rfl rfl (Y.move) ?_
      refine DL.skip rfl rfl ?_
      refine DL.skip rfl rfl ?_
      refine DL.y rfl rfl (Y.pickT rfl) ?_
      refine DL.y rfl rfl (Y.assign) ?_
      refine DL.nil ?_
      show DC _ _ _ _ _ _
      refine DC.ret ?_
      refine FinQ.ret1 rfl (Ret.mk FR ?_)
      show Value.bool true = Value.bool (decide _)
      rw [decide_eq_true (by omega)]
     ·refine DL.y rfl rfl (Y.pickF rfl) ?_
      refine DL.y rfl rfl (Y.move) ?_
      refine DL.y rfl rfl (Y.move) ?_
      refine DL.if rfl rfl (Y.eq rfl rfl) (fun c31 => ?_) (fun c31 => ?_)
      ·refine DL.y rfl rfl (Y.pickF rfl) ?_
       refine DL.y rfl rfl (Y.move) ?_
       refine DL.skip rfl rfl ?_
       refine DL.skip rfl rfl ?_
       refine DL.y rfl rfl (Y.pickT rfl) ?_
       refine DL.y rfl rfl (Y.move) ?_
       refine DL.skip rfl rfl ?_
       refine DL.skip rfl rfl ?_
       refine DL.y rfl rfl (Y.pickT rfl) ?_
       refine DL.y rfl rfl (Y.assign) ?_
       refine DL.nil ?_
       show DC _ _ _ _ _ _
       refine DC.ret ?_
       refine FinQ.ret1 rfl (Ret.mk FR ?_)
       show Value.bool true = Value.bool (decide _)
       rw [decide_eq_true (by omega)]
      ·refine DL.y rfl rfl (Y.pickF rfl) ?_
       refine DL.y rfl rfl (Y.move) ?_
       refine DL.y rfl rfl (Y.move) ?_
       refine DL.if rfl rfl (Y.eq rfl rfl) (fun c35 => ?_) (fun c35 => ?_)
       ·refine DL.y rfl rfl (Y.pickF rfl) ?_
        refine DL.y rfl rfl (Y.move) ?_
        refine DL.skip rfl rfl ?_
        refine DL.skip rfl rfl ?_
        refine DL.y rfl rfl (Y.pickT rfl) ?_
        refine DL.y rfl rfl (Y.assign) ?_
        refine DL.nil ?_
        show DC _ _ _ _ _ _
        refine DC.ret ?_
        refine FinQ.ret1 rfl (Ret.mk FR ?_)
        show Value.bool true = Value.bool (decide _)
        rw [decide_eq_true (by omega)]
       ·refine DL.y rfl rfl (Y.pickF rfl) ?_
        refine DL.y rfl rfl (Y.move) ?_
        refine DL.y rfl rfl (Y.move) ?_
        refine DL.if rfl rfl (Y.eq rfl rfl) (fun c39 => ?_) (fun c39 => ?_)
        ·refine DL.y rfl rfl (Y.pickF rfl) ?_
         refine DL.y rfl rfl (Y.assign) ?_
         refine DL.nil ?_
         show DC _ _ _ _ _ _
         refine DC.ret ?_
         refine FinQ.ret1 rfl (Ret.mk FR ?_)
         show Value.bool true = Value.bool (decide _)
         rw [decide_eq_true (by omega)]
        ·refine DL.y rfl rfl (Y.pickF rfl) ?_
         refine DL.y rfl rfl (Y.assign) ?_
         refine DL.nil ?_
         show DC _ _ _ _ _ _
         refine DC.ret ?_
         refine FinQ.ret1 rfl (Ret.mk FR ?_)
         show Value.bool false = Value.bool (decide _)
         rw [decide_eq_false (by omega)]
   ·refine DL.y rfl rfl (Y.move) ?_
    refine DL.skip rfl rfl ?_
    refine DL.skip rfl rfl ?_
    refine DL.y rfl rfl (Y.pickF rfl) ?_
    refine DL.y rfl rfl (Y.pickF rfl) ?_
    refine DL.y rfl rfl (Y.move) ?_
    refine DL.y rfl rfl (Y.move) ?_
    refine DL.if rfl rfl (Y.eq rfl rfl) (fun c27 => ?_) (fun c27 => ?_)
    ·refine DL.y rfl rfl (Y.pickF rfl) ?_
     refine DL.y rfl rfl (Y.move) ?_
     refine DL.skip rfl rfl ?_
     refine DL.skip rfl rfl ?_
     refine DL.y rfl rfl (Y.pickT rfl) ?_
     refine DL.y rfl rfl (Y.move) ?_
     refine DL.skip rfl rfl ?_
     refine DL.skip rfl rfl ?_
     refine DL.y rfl rfl (Y.pickT rfl) ?_
     refine DL.y rfl rfl (Y.move) ?_
     refine DL.skip rfl rfl ?_
     refine DL.skip rfl rfl ?_
     refine DL.y rfl rfl (Y.pickT rfl) ?_
     refine DL.y rfl rfl (Y.assign) ?_
     refine DL.nil ?_
     show DC _ _ _ _ _ _
     refine DC.ret ?_
     refine FinQ.ret1 rfl (Ret.mk FR ?_)
     show Value.bool true = Value.bool (decide _)
     rw [decide_eq_true (by omega)]
    ·refine DL.y rfl rfl (Y.pickF rfl) ?_
     refine DL.y rfl rfl (Y.move) ?_
     refine DL.y rfl rfl (Y.move) ?_
     refine DL.if rfl rfl (Y.eq rfl rfl) (fun c31 => ?_) (fun c31 => ?_)
     ·refine DL.y rfl rfl (Y.pickF rfl) ?_
      refine DL.y rfl rfl (Y.move) ?_
      refine DL.skip rfl rfl ?_
      refine DL.skip rfl rfl ?_
      refine DL.y rfl rfl (Y.pickT rfl) ?_
      refine DL.y rfl rfl (Y.move) ?_
      refine DL.skip rfl rfl ?_
      refine DL.skip rfl rfl ?_
      refine DL.y rfl rfl (Y.pickT rfl) ?_
      refine DL.y rfl rfl (Y.assign) ?_
      refine DL.nil ?_
      show DC _ _ _ _ _ _
      refine DC.ret ?_
      refine FinQ.ret1 rfl (Ret.mk FR ?_)
      show Value.bool true = Value.bool (decide _)
      rw [decide_eq_true (by omega)]
     ·refine DL.y rfl rfl (Y.pickF rfl) ?_
      refine DL.y rfl rfl (Y.move) ?_
      refine DL.y rfl rfl (Y.move) ?_
      refine DL.if rfl rfl (Y.eq rfl rfl) (fun c35 => ?_) (fun c35 => ?_)
      ·refine DL.y rfl rfl (Y.pickF rfl) ?_
       refine DL.y rfl rfl (Y.move) ?_
       refine DL.skip rfl rfl ?_
       refine DL.skip rfl rfl ?_
       refine DL.y rfl rfl (Y.pickT rfl) ?_
       refine DL.y rfl rfl (Y.assign) ?_
       refine DL.nil ?_
       show DC _ _ _ _ _ _
       refine DC.ret ?_
       refine FinQ.ret1 rfl (Ret.mk FR ?_)
       show Value.bool true = Value.bool (decide _)
       rw [decide_eq_true (by omega)]
      ·refine DL.y rfl rfl (Y.pickF rfl) ?_
       refine DL.y rfl rfl (Y.move) ?_
       refine DL.y rfl rfl (Y.move) ?_
       refine DL.if rfl rfl (Y.eq rfl rfl) (fun c39 => ?_) (fun c39 => ?_)
       ·refine DL.y rfl rfl (Y.pickF rfl) ?_
        refine DL.y rfl rfl (Y.assign) ?_
        refine DL.nil ?_
        show DC _ _ _ _ _ _
        refine DC.ret ?_
        refine FinQ.ret1 rfl (Ret.mk FR ?_)
        show Value.bool true = Value.bool (decide _)
        rw [decide_eq_true (by omega)]
       ·refine DL.y rfl rfl (Y.pickF rfl) ?_
        refine DL.y rfl rfl (Y.assign) ?_
        refine DL.nil ?_
        show DC _ _ _ _ _ _
        refine DC.ret ?_
        refine FinQ.ret1 rfl (Ret.mk FR ?_)
        show Value.bool false = Value.bool (decide _)
        rw [decide_eq_false (by omega)]

set_option maxHeartbeats 1000000 in
theorem escaped_any (s : ByteArray) (hs : s.size ≤ 1000000) (w : World) : Calls Tryz.prog 82 #[.string s] w (Ret w [] fun r _ => ∃ t : ByteArray, r = .string t ∧ t.data.toList = uL s.data.toList) := by
 refine calls_of Tryz.func82 rfl rfl rfl rfl ?_
 have FR := Fr.refl [] w
 refine DC.seq ?_
 refine DC.region ?_
 refine DL.y rfl rfl (Y.assign) ?_
 refine DL.nil ?_
 show DC _ _ _ _ _ _
 refine DC.seq ?_
 refine DC.region ?_
 refine DL.y rfl rfl (Y.assign) ?_
 refine DL.nil ?_
 show DC _ _ _ _ _ _
 refine DC.seq ?_
 refine DC.seq ?_
 refine DC.region ?_
 refine DL.y rfl rfl (Y.assign) ?_
 refine DL.nil ?_
 show DC _ _ _ _ _ _
 refine DC.block ?_
 refine DC.loopE (σ := Nat × ByteArray) [(3, 4), (6, 46)] [(0, .string s)] (fun (i, out) => [(3, .string out), (4, .int .i64 (i : Int))]) (fun sg wl => Fr [] w wl ∧ (fun (i, out) wl => i ≤ s.size ∧ out.data.toList = uL (s.data.toList.take i)) sg wl) (fun (i, _) => s.size - i) ((0, ⟨#[]⟩)) rfl ?_ ?_ ?_ ?_
 ·exact rfl
 ·exact ⟨rfl, rfl⟩
 ·exact ⟨Fr.refl _ _, Nat.zero_le _, by simp [uL]⟩
 ·rintro e0 ⟨i, out⟩ j w1 ⟨f2, hi0, hout⟩
  replace FR := FR.tr0 f2
  have G3 := f2
  have HG3 := Fr.refl [] w1
  have hsz := size_list out
  have hsz2 := size_list s
  have hul := uL_take_len (l := s.data.toList) i
  rw [← hout] at hul
  refine DC.seq ?_
  refine DC.seq ?_
  refine DC.region ?_
  refine DL.y rfl rfl (Y.move) ?_
  refine DL.y rfl rfl (Y.move) ?_
  refine DL.y rfl rfl (Y.lenStr Tryz.underlying9 rfl) ?_
  refine DL.if rfl rfl (Y.lt rfl rfl) (fun c10 => ?_) (fun c10 => ?_)
  ·have hi : i < s.size := by omega
   have hu := s[i].toNat_lt
   refine DL.nil ?_
   show DC _ _ _ _ _ _
   refine DC.condT rfl ?_
   refine DC.skip ?_
   show DC _ _ _ _ _ _
   refine DC.seq ?_
   refine DC.block ?_
   refine DC.seq ?_
   refine DC.seq ?_
   refine DC.region ?_
   refine DL.y rfl rfl (Y.move) ?_
   refine DL.y rfl rfl (Y.move) ?_
   refine DL.y rfl rfl (Y.strIx (i := i) Tryz.underlying9 rfl rfl rfl hi) ?_
   refine DL.call rfl rfl F.nm128 rfl ((free_any s[i] _).mono (Ret.into (fun i hi => hi) (fun v w' _ hv => (⟨_, hv, rfl⟩ : ∃ q, v = .bool q ∧ q = freeB s[i].toNat)))) ?_
   rintro _ w4 f5 ⟨q16, rfl, hq16⟩
   replace FR := FR.tr0 f5
   replace G3 := G3.tr0 f5
   replace HG3 := HG3.tr0 f5
   refine (Bool.eq_false_or_eq_true q16).elim (fun hq16 => ?_) (fun hq16 => ?_)
   ·subst hq16
    refine DL.nil ?_
    show DC _ _ _ _ _ _
    refine DC.condT rfl ?_
    refine DC.seq ?_
    refine DC.region ?_
    refine DL.y rfl rfl (Y.move) ?_
    refine DL.y rfl rfl (Y.move) ?_
    refine DL.y rfl rfl (Y.move) ?_
    refine DL.y rfl rfl (Y.move) ?_
    refine DL.y rfl rfl (Y.addI (c := ((i + 1 : Nat) : Int)) rfl rfl (by omega) (by omega) (by omega)) ?_
    refine DL.y rfl rfl (Y.strLH (l := (i : Int)) (h := ((i + 1 : Nat) : Int)) Tryz.underlying9 rfl rfl rfl (by omega) (by omega) (by omega)) ?_
    refine DL.catE rfl rfl rfl rfl (by rw [size_list (s.extract _ _), ext_one hi]; simp only [List.length_singleton]; omega) (fun c23 h23 => ?_)
    refine DL.y rfl rfl (Y.assign) ?_
    refine DL.nil ?_
    show DC _ _ _ _ _ _
    refine DC.exit ?_
    show DC _ _ _ _ _ _
    refine DC.region ?_
    refine DL.y rfl rfl (Y.move) ?_
    refine DL.y rfl rfl (Y.addI (c := ((i + 1 : Nat) : Int)) rfl rfl (by omega) (by omega) (by omega)) ?_
    refine DL.y rfl rfl (Y.assign) ?_
    refine DL.nil ?_
    exact ⟨(i + 1, c23), ⟨G3, hi, by rw [h23, hout, ext_one hi, uL_succ hi, escU, if_pos hq16.symm]⟩, by show s.size - (i + 1) < s.size - i; omega, rfl, rfl⟩
   ·subst hq16
    refine DL.nil ?_
    show DC _ _ _ _ _ _
    refine DC.condF rfl ?_
    refine DC.skip ?_
    show DC _ _ _ _ _ _
    refine DC.seq ?_
    refine DC.region ?_
    refine DL.y rfl rfl (Y.move) ?_
    refine DL.catE rfl rfl rfl rfl (by rw [show (⟨#[37]⟩ : ByteArray).size = 1 from rfl]; omega) (fun c25 h25 => ?_)
    refine DL.y rfl rfl (Y.assign) ?_
    refine DL.nil ?_
    show DC _ _ _ _ _ _
    refine DC.seq ?_
    refine DC.drawnF F.mixed ?_
    intro w6 f7 hsw6
    replace FR := FR.tr0 f7
    replace G3 := G3.tr0 f7
    replace HG3 := HG3.tr0 f7
    have FS := Fr.refl [] w6
    refine DK.take 0 rfl (by kernel_rfl) (by kernel_rfl) (by kernel_rfl) rfl rfl (fun wq sq => Y.move) ?_
    refine DK.take 1 rfl (by kernel_rfl) (by kernel_rfl) (by kernel_rfl) rfl rfl (fun wq sq => Y.move) ?_
    refine DK.take 2 rfl (by kernel_rfl) (by kernel_rfl) (by kernel_rfl) rfl rfl (fun wq sq => Y.strIx (i := i) Tryz.underlying9 rfl rfl rfl hi) ?_
    refine DK.take 3 rfl (by kernel_rfl) (by kernel_rfl) (by kernel_rfl) rfl rfl (fun wq sq => Y.quoI (k := .u8) (a := (s[i].toNat : Int)) (b := 16) (c := ((nib s[i] 0 : Nat) : Int)) rfl rfl (by decide) (by rw [show (16 : Int) = ((16 : Nat) : Int) from rfl, tdivN _ 16 (by decide)]; exact wrap_u8 (by omega))) ?_
    refine DK.take 4 rfl (by kernel_rfl) (by kernel_rfl) (by kernel_rfl) rfl rfl (fun wq sq => Y.move) ?_
    refine DK.take 5 rfl (by kernel_rfl) (by kernel_rfl) (by kernel_rfl) rfl rfl (fun wq sq => Y.move) ?_
    refine DK.take 6 rfl (by kernel_rfl) (by kernel_rfl) (by kernel_rfl) rfl rfl (fun wq sq => Y.strIx (i := i) Tryz.underlying9 rfl rfl rfl hi) ?_
    refine DK.take 7 rfl (by kernel_rfl) (by kernel_rfl) (by kernel_rfl) rfl rfl (fun wq sq => Y.remC (k := .u8) (a := (s[i].toNat : Int)) (b := 16) (c := ((nib s[i] 1 : Nat) : Int)) rfl rfl (by decide) (tmodN _ 16 (by decide))) ?_
    refine DK.take 10 rfl (by kernel_rfl) (by kernel_rfl) (by kernel_rfl) rfl rfl (fun wq sq => Y.move) ?_
    refine DK.pick [8] (by kernel_rfl) (by simp) (fun ip hip => ?_)
    obtain rfl := List.mem_singleton.1 hip
    refine ⟨_, rfl, ?_⟩
    refine DL.buildSlC (cs := #[.int .u8 ((nib s[i] 0 : Nat) : Int), .int .u8 ((nib s[i] 1 : Nat) : Int)]) rfl rfl Tryz.underlying107 (by kernel_rfl) ?_
    intro b34 w8 f9 lo34 hi34 hb34
    have lo34G3 := Nat.le_trans G3.size lo34
    have lo34HG3 := Nat.le_trans HG3.size lo34
    have lo34FS := Nat.le_trans FS.size lo34
    replace lo34 := Nat.le_trans FR.size lo34
    replace FR := FR.tr0 f9
    replace G3 := G3.tr0 f9
    replace HG3 := HG3.tr0 f9
    replace FS := FS.tr0 f9
    refine DL.nil ⟨FS, ?_⟩
    refine DK.take 9 rfl (by kernel_rfl) (by kernel_rfl) (by kernel_rfl) rfl rfl (fun wq sq => Y.lenS Tryz.underlying107 rfl) ?_
    refine DK.done (by kernel_rfl) ?_
    show DC _ _ _ _ _ _
    refine DC.block ?_
    refine DC.loopE (σ := Nat × ByteArray) [(3, 3), (6, 6), (36, 46)] [(0, .string s), (4, .int .i64 (i : Int)), (34, .slice (some ⟨b34, 0, none⟩) 2 2), (35, .int .i64 2)] (fun (q, o2) => [(3, .string o2), (36, .int .i64 (q : Int))]) (fun sg wl => Fr [] w8 wl ∧ (fun (q, o2) wl => q ≤ 2 ∧ o2.data.toList = c25.data.toList ++ escK s[i] q) sg wl) (fun (q, _) => 2 - q) ((0, c25)) rfl ?_ ?_ ?_ ?_
    ·exact ⟨rfl, rfl, rfl, rfl⟩
    ·exact ⟨rfl, rfl⟩
    ·exact ⟨Fr.refl _ _, Nat.zero_le _, by simp [escK]⟩
    ·rintro e0 ⟨q, o2⟩ j w10 ⟨f11, hq0, ho2⟩
     replace FR := FR.tr0 f11
     replace G3 := G3.tr0 f11
     replace HG3 := HG3.tr0 f11
     replace hb34 := f11.blk0 hb34
     replace hi34 := Nat.lt_of_lt_of_le hi34 f11.size
     have G12 := f11
     have HG12 := Fr.refl [] w10
     have hsz3 := size_list o2
     rw [ho2, List.length_append] at hsz3
     have hkl := escK_len s[i] q
     refine DC.seq ?_
     refine DC.region ?_
     refine DL.if rfl rfl (Y.lt rfl rfl) (fun c37 => ?_) (fun c37 => ?_)
     ·have hq2 : q < 2 := by omega
      have hnl := nib_lt s[i] q
      have hcs : (#[.int .u8 ((nib s[i] 0 : Nat) : Int), .int .u8 ((nib s[i] 1 : Nat) : Int)] : Array Value)[0 + q * 1]? = some (.int .u8 ((nib s[i] q : Nat) : Int)) := by
       rcases (by omega : q = 0 ∨ q = 1) with rfl | rfl <;> rfl
      refine DL.nil ?_
      show DC _ _ _ _ _ _
      refine DC.seq ?_
      refine DC.condT rfl ?_
      refine DC.skip ?_
      show DC _ _ _ _ _ _
      refine DC.seq ?_
      refine DC.block ?_
      refine DC.seq ?_
      refine DC.region ?_
      refine DL.y rfl rfl (Y.index F.sl107 rfl rfl (rfl) (hq2)) ?_
      refine DL.y rfl rfl (Y.loadB F.sc5 rfl hb34 hcs) ?_
      refine DL.y rfl rfl (Y.assign) ?_
      refine DL.nil ?_
      show DC _ _ _ _ _ _
      refine DC.region ?_
      refine DL.y rfl rfl (Y.move) ?_
      refine DL.y rfl rfl (Y.move) ?_
      refine DL.y rfl rfl (Y.move) ?_
      refine DL.y rfl rfl (Y.addC (k := .u8) (a := ((nib s[i] q : Nat) : Int)) (b := 1) (c := ((nib s[i] q + 1 : Nat) : Int)) rfl rfl (by rw [show ((nib s[i] q : Nat) : Int) + 1 = ((nib s[i] q + 1 : Nat) : Int) by omega]; exact wrap_u8 (by omega))) ?_
      refine DL.y rfl rfl (Y.strLH (l := (nib s[i] q : Int)) (h := ((nib s[i] q + 1 : Nat) : Int)) Tryz.underlying9 rfl rfl rfl (by omega) (by omega) (by show _ ≤ (16 : Int); omega)) ?_
      refine DL.catE rfl rfl rfl rfl (by rw [size_list (ByteArray.extract _ _ _), hexS _ hnl]; simp only [List.length_singleton]; have h25l := congrArg List.length h25; rw [List.length_append] at h25l; have : (⟨#[37]⟩ : ByteArray).data.toList.length = 1 := rfl; omega) (fun c45 h45 => ?_)
      refine DL.y rfl rfl (Y.assign) ?_
      refine DL.nil ?_
      show DC _ _ _ _ _ _
      refine DC.region ?_
      refine DL.y rfl rfl (Y.addI (c := ((q + 1 : Nat) : Int)) rfl rfl (by omega) (by omega) (by omega)) ?_
      refine DL.y rfl rfl (Y.move) ?_
      refine DL.nil ?_
      exact ⟨(q + 1, c45), ⟨G12, by omega, by rw [h45, ho2, hexS _ (nib_lt _ _), escK_succ _ (by omega), List.append_assoc]⟩, by show 2 - (q + 1) < 2 - q; omega, rfl, rfl⟩
     ·refine DL.nil ?_
      show DC _ _ _ _ _ _
      refine DC.seq ?_
      refine DC.condF rfl ?_
      refine DC.exit ?_
      show DC _ _ _ _ _ _
      refine DC.region ?_
      refine DL.y rfl rfl (Y.move) ?_
      refine DL.y rfl rfl (Y.addI (c := ((i + 1 : Nat) : Int)) rfl rfl (by omega) (by omega) (by omega)) ?_
      refine DL.y rfl rfl (Y.assign) ?_
      refine DL.nil ?_
      have h2 : q = 2 := by omega
      subst h2
      exact ⟨(i + 1, o2), ⟨G3, hi, by rw [ho2, h25, hout, uL_succ hi, escU, if_neg (by rw [← hq16]; decide), List.append_assoc]; rfl⟩, by show s.size - (i + 1) < s.size - i; omega, rfl, rfl⟩
  ·have hie : i = s.size := by omega
   refine DL.nil ?_
   show DC _ _ _ _ _ _
   refine DC.condF rfl ?_
   refine DC.exit ?_
   show DC _ _ _ _ _ _
   refine DC.seq ?_
   refine DC.region ?_
   refine DL.y rfl rfl (Y.move) ?_
   refine DL.y rfl rfl (Y.assign) ?_
   refine DL.nil ?_
   show DC _ _ _ _ _ _
   refine DC.ret ?_
   refine FinQ.ret1 rfl (Ret.mk FR ⟨_, rfl, ?_⟩)
   rw [hout, hie, size_list, List.take_length]

theorem Format_uri (v : V) (cs : Array Value) (B : Nat) (w : World) (hn : v.nodes ≤ 1000000) (hby : v.bytes ≤ 1000000) (hsl : (sL v).length ≤ 1000000) (hG : Good v) (hR : RV w B v cs) (hB : B ≤ w.heap.size) : Calls Tryz.prog 43 #[.string (⟨#[117, 114, 105]⟩ : ByteArray), .agg cs] w (Ret w [] fun r _ => ∃ b how, r = .tuple #[.string b, .int .i64 how] ∧ Said b how (uL (sL v))) := by
 obtain ⟨v', hv'⟩ : ∃ v', v' = v := ⟨_, rfl⟩
 obtain ⟨kind, half, text, list, keys, vals⟩ := v
 obtain ⟨la, lc, ka, kc, va, vc, rfl⟩ := hR.shape
 rw [← hv'] at hn hby hsl hG hR ⊢
 refine calls_of Tryz.func43 rfl rfl rfl rfl ?_
 have FR := Fr.refl [] w
 refine DC.seq ?_
 refine DC.region ?_
 refine DL.boxA rfl rfl rfl ?_
 intro b3 w1 f2 lo3 hi3 hb3
 replace lo3 := Nat.le_trans FR.size lo3
 replace FR := FR.tr0 f2
 replace hR := hR.fr f2 (by intro x hx; simp <;> omega)
 refine DL.y rfl rfl (Y.assign) ?_
 refine DL.y rfl rfl (Y.assign) ?_
 refine DL.nil ?_
 show DC _ _ _ _ _ _
 refine DC.seq ?_
 refine DC.seq ?_
 refine DC.region ?_
 refine DL.y rfl rfl (Y.move) ?_
 refine DL.y rfl rfl (Y.seqc rfl rfl (c := false) (by decide)) ?_
 refine DL.y rfl rfl (Y.move) ?_
 refine DL.y rfl rfl (Y.move) ?_
 refine DL.y rfl rfl (Y.seqc rfl rfl (c := false) (by decide)) ?_
 refine DL.y rfl rfl (Y.pickF rfl) ?_
 refine DL.y rfl rfl (Y.move) ?_
 refine DL.y rfl rfl (Y.move) ?_
 refine DL.y rfl rfl (Y.seqc rfl rfl (c := false) (by decide)) ?_
 refine DL.y rfl rfl (Y.pickF rfl) ?_
 refine DL.y rfl rfl (Y.move) ?_
 refine DL.skip rfl rfl ?_
 refine DL.skip rfl rfl ?_
 refine DL.y rfl rfl (Y.pickF rfl) ?_
 refine DL.nil ?_
 show DC _ _ _ _ _ _
 refine DC.condF rfl ?_
 refine DC.skip ?_
 show DC _ _ _ _ _ _
 refine DC.forget [(0, .string (⟨#[117, 114, 105]⟩ : ByteArray)), (3, .pointer (some ⟨b3, 0, none⟩))] ⟨rfl, rfl⟩ (fun e0 => ?_)
 refine DC.seq ?_
 refine DC.seq ?_
 refine DC.region ?_
 refine DL.y rfl rfl (Y.move) ?_
 refine DL.nil ?_
 show DC _ _ _ _ _ _
 refine DC.block ?_
 refine DC.seq ?_
 refine DC.seq ?_
 refine DC.region ?_
 refine DL.y rfl rfl (Y.seqc rfl rfl (c := false) (by decide)) ?_
 refine DL.y rfl rfl (Y.assign) ?_
 refine DL.nil ?_
 show DC _ _ _ _ _ _
 refine DC.condF rfl ?_
 refine DC.region ?_
 refine DL.y rfl rfl (Y.seqc rfl rfl (c := false) (by decide)) ?_
 refine DL.y rfl rfl (Y.assign) ?_
 refine DL.nil ?_
 show DC _ _ _ _ _ _
 refine DC.condF rfl ?_
 refine DC.seq ?_
 refine DC.seq ?_
 refine DC.region ?_
 refine DL.y rfl rfl (Y.seqc rfl rfl (c := false) (by decide)) ?_
 refine DL.y rfl rfl (Y.assign) ?_
 refine DL.nil ?_
 show DC _ _ _ _ _ _
 refine DC.condF rfl ?_
 refine DC.region ?_
 refine DL.y rfl rfl (Y.seqc rfl rfl (c := false) (by decide)) ?_
 refine DL.y rfl rfl (Y.assign) ?_
 refine DL.nil ?_
 show DC _ _ _ _ _ _
 refine DC.condF rfl ?_
 refine DC.seq ?_
 refine DC.region ?_
 refine DL.y rfl rfl (Y.seqc rfl rfl (c := false) (by decide)) ?_
 refine DL.y rfl rfl (Y.assign) ?_
 refine DL.nil ?_
 show DC _ _ _ _ _ _
 refine DC.condF rfl ?_
 refine DC.skip ?_
 show DC _ _ _ _ _ _
 refine DC.forget [(0, .string (⟨#[117, 114, 105]⟩ : ByteArray)), (3, .pointer (some ⟨b3, 0, none⟩))] ⟨rfl, rfl⟩ (fun e0 => ?_)
 refine DC.seq ?_
 refine DC.region ?_
 refine DL.y rfl rfl (Y.loadW rfl hb3 F.ag26) ?_
 refine DL.call rfl rfl F.nm13 rfl (string_any v' _ B _ hn hby hG hR (by have := FR.size; omega)) ?_
 rintro _ w3 f4 ⟨b57, how57, rfl, hsd⟩
 replace FR := FR.tr0 f4
 replace hR := hR.fr f4 (by intro x hx; simp <;> omega)
 replace hb3 := f4.blk0 hb3
 replace hi3 := Nat.lt_of_lt_of_le hi3 f4.size
 refine DL.y rfl rfl (Y.move) ?_
 refine DL.y rfl rfl (Y.extract rfl rfl) ?_
 refine DL.y rfl rfl (Y.extract rfl rfl) ?_
 refine DL.y rfl rfl (Y.assign) ?_
 refine DL.y rfl rfl (Y.assign) ?_
 refine DL.nil ?_
 show DC _ _ _ _ _ _
 refine DC.forget [(0, .string (⟨#[117, 114, 105]⟩ : ByteArray)), (7, .string b57), (8, .int .i64 how57)] ⟨rfl, rfl, rfl⟩ (fun e0 => ?_)
 refine DC.seq ?_
 refine DC.seq ?_
 refine DC.region ?_
 refine DL.y rfl rfl (Y.move) ?_
 refine DL.if rfl rfl (Y.ne rfl rfl) (fun c61 => ?_) (fun c61 => ?_)
 ·refine DL.nil ?_
  show DC _ _ _ _ _ _
  refine DC.condT rfl ?_
  refine DC.seq ?_
  refine DC.region ?_
  refine DL.y rfl rfl (Y.move) ?_
  refine DL.y rfl rfl (Y.assign) ?_
  refine DL.y rfl rfl (Y.assign) ?_
  refine DL.nil ?_
  show DC _ _ _ _ _ _
  refine DC.ret ?_
  refine FinQ.ret2 rfl rfl (Ret.mk FR ⟨_, _, rfl, Or.inr ?_⟩)
  rcases hsd with h | h
  ·omega
  ·exact h
 ·obtain ⟨hh0, hb57⟩ : how57 = 0 ∧ b57.data.toList = sL v' := by
   rcases hsd with h | h
   ·exact h
   ·omega
  refine DL.nil ?_
  show DC _ _ _ _ _ _
  refine DC.condF rfl ?_
  refine DC.skip ?_
  show DC _ _ _ _ _ _
  refine DC.seq ?_
  refine DC.seq ?_
  refine DC.region ?_
  refine DL.y rfl rfl (Y.move) ?_
  refine DL.nil ?_
  show DC _ _ _ _ _ _
  refine DC.block ?_
  refine DC.seq ?_
  refine DC.region ?_
  refine DL.y rfl rfl (Y.seqc rfl rfl (c := false) (by decide)) ?_
  refine DL.y rfl rfl (Y.assign) ?_
  refine DL.nil ?_
  show DC _ _ _ _ _ _
  refine DC.condF rfl ?_
  refine DC.seq ?_
  refine DC.region ?_
  refine DL.y rfl rfl (Y.seqc rfl rfl (c := true) (by decide)) ?_
  refine DL.y rfl rfl (Y.assign) ?_
  refine DL.nil ?_
  show DC _ _ _ _ _ _
  refine DC.condT rfl ?_
  refine DC.seq ?_
  refine DC.region ?_
  refine DL.y rfl rfl (Y.move) ?_
  refine DL.call rfl rfl F.nm82 rfl (escaped_any b57 (by rw [size_list, hb57]; omega) _) ?_
  rintro _ w5 f6 ⟨t82, rfl, ht82⟩
  replace FR := FR.tr0 f6
  replace hR := hR.fr f6 (by intro x hx; simp <;> omega)
  replace hb3 := f6.blk0 hb3
  replace hi3 := Nat.lt_of_lt_of_le hi3 f6.size
  refine DL.y rfl rfl (Y.assign) ?_
  refine DL.y rfl rfl (Y.assign) ?_
  refine DL.nil ?_
  show DC _ _ _ _ _ _
  refine DC.ret ?_
  refine FinQ.ret2 rfl rfl (Ret.mk FR ⟨_, _, rfl, Or.inl ⟨rfl, ?_⟩⟩)
  rw [ht82, hb57]

end Go.Proofs.YtmbleojlnaofjaaGreatDoor

