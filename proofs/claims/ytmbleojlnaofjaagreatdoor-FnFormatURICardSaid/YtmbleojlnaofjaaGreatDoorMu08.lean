/- Own texts, merged: ShelfDec, Js7, Js8, S2, ShelfSl, Kv, O13, Enc1, Dec1. -/
import Derived.Shelf.Unicode.DecodeAny
import Derived.Test.YtmbleojlnaofjaaGreatDoorProg
import Derived.Test.YtmbleojlnaofjaaGreatDoorMu06
import Derived.Test.YtmbleojlnaofjaaGreatDoorMu03
import Derived.Test.YtmbleojlnaofjaaGreatDoorMu01
import Derived.Lib.ValidLaws
import Derived.Lib.TrimUEq
import Derived.Lib.TrimAscii
import Derived.Lib.MapLaws
import Derived.Lib.RuneCountTail
import Derived.Sort.LotA
import Derived.Shelf.GgSortFunc.Slice
import Derived.Test.YtmbleojlnaofjaaGreatDoorMu02
import Derived.Shelf.SlSortFuncK.WholeK
import Derived.Shelf.GgSortFunc.Tiny
import Derived.Deep.QuietTactic
import Derived.Laws.Externs
import Derived.Laws.MakeOwn
import Derived.Test.YtmbleojlnaofjaaGreatDoorMu04
import Derived.Test.YtmbleojlnaofjaaGreatDoorMu07
/-
  DERIVED: THE SHELF's CONTRACTS AT THIS DUMP, IN PLAIN WORDS (tools/lay-plain.mjs out of 'TryzShelfDec.lean', which tools/lay-shelf.mjs wrote): THE SAME DECLARATIONS UNDER THE SAME NAMES: 'import', 'namespace', 'open', 'def', 'theorem' AND NOTHING ELSE: no command of the shelf's: FOR A HAND-IN. Each laying: the table of numbers ('.._ren') and one theorem, a field a fact of the dump's own or the kernel's comparison; each contract: ONE APPLICATION.
-/
namespace Go.Proofs
open Go.Shelf
def Tryz.laysDec_ren : Go.Shelf.Ren := ⟨fun | 197 => 188 | 260 => 200 | n => n, fun | 9 => 9 | 21 => 21 | 3 => 3 | 4 => 4 | 5 => 5 | 105 => 199 | 119 => 59 | 0 => 0 | 46 => 63 | 139 => 62 | 138 => 61 | n => n, fun | 3 => 0 | 4 => 1 | n => n⟩
theorem Tryz.laysDec : Go.Proofs.Lays.n197 Tryz.prog Tryz.laysDec_ren := {
 mixed := by kernel_rfl
 f197 := Tryz.func188.trans (congrArg some (by kernel_rfl))
 f260 := Tryz.func200.trans (congrArg some (by kernel_rfl))
 t0 := Tryz.underlying0
 a0 := Tryz.isAgg0
 z0 := Tryz.sizeOf0
 v0 := Tryz.zeroValue0
 t3 := Tryz.underlying3
 a3 := Tryz.isAgg3
 z3 := Tryz.sizeOf3
 v3 := Tryz.zeroValue3
 t4 := Tryz.underlying4
 a4 := Tryz.isAgg4
 z4 := Tryz.sizeOf4
 v4 := Tryz.zeroValue4
 t5 := Tryz.underlying5
 a5 := Tryz.isAgg5
 z5 := Tryz.sizeOf5
 v5 := Tryz.zeroValue5
 t9 := Tryz.underlying9
 a9 := Tryz.isAgg9
 z9 := Tryz.sizeOf9
 v9 := Tryz.zeroValue9
 t21 := Tryz.underlying21
 a21 := Tryz.isAgg21
 z21 := Tryz.sizeOf21
 v21 := Tryz.zeroValue21
 t46 := Tryz.underlying63
 a46 := Tryz.isAgg63
 z46 := Tryz.sizeOf63
 v46 := Tryz.zeroValue63
 t105 := Tryz.underlying199
 a105 := Tryz.isAgg199
 z105 := Tryz.sizeOf199
 v105 := Tryz.zeroValue199
 t119 := Tryz.underlying59
 a119 := Tryz.isAgg59
 z119 := Tryz.sizeOf59
 t138 := Tryz.underlying61
 a138 := Tryz.isAgg61
 z138 := Tryz.sizeOf61
 v138 := Tryz.zeroValue61
 t139 := Tryz.underlying62
 a139 := Tryz.isAgg62
 z139 := Tryz.sizeOf62
 v139 := Tryz.zeroValue62
 g3 := by kernel_rfl
 g4 := by kernel_rfl }
end Go.Proofs

/- The encoder's state; bytes of runes. -/
namespace Go.Proofs.YtmbleojlnaofjaaGreatDoor
open Go Go.RowKit D Go.Deep
set_option linter.unusedVariables false
set_option linter.unusedSimpArgs false


theorem hmWS (x a : Value) (w : World) : (callMethod (.iface 157 x) "WriteString" [a].toArray).run Tryz.prog w = .ok (.enter 267 (x :: [a]).toArray) w := by kernel_rfl
theorem hmWB (x a : Value) (w : World) : (callMethod (.iface 157 x) "WriteByte" [a].toArray).run Tryz.prog w = .ok (.enter 266 (x :: [a]).toArray) w := by kernel_rfl
theorem hmW (x a : Value) (w : World) : (callMethod (.iface 157 x) "Write" [a].toArray).run Tryz.prog w = .ok (.enter 265 (x :: [a]).toArray) w := by kernel_rfl
/-- An encoder in block be, over a builder in block b: the bytes written, the blocks that are theirs. -/
structure ES (w : World) (B be b : Nat) (X : List Nat) (l : List UInt8) : Prop where
 cell : w.cell? ⟨be, 0, none⟩ = some (.iface 157 (.pointer (some ⟨b, 0, none⟩)))
 row : ∃ buf, w.heap[be]? = some (.cells buf 164 (0, 0)) ∧ buf.size = 65
 bld : ∃ Xb, Bld w B b Xb l ∧ X = be :: Xb ∧ be ∉ Xb
 lo : B ≤ be
 two : 2 ≤ B
theorem ES.ge {w : World} {B be b : Nat} {X : List Nat} {l : List UInt8} (h : ES w B be b X l) : ∀ i ∈ X, B ≤ i ∧ i < w.heap.size := by
 obtain ⟨Xb, hb, rfl, hn⟩ := h.bld
 obtain ⟨buf, hr, _⟩ := h.row
 intro i hi
 rcases List.mem_cons.1 hi with rfl | hi
 ·exact ⟨h.lo, lt_of_blk hr⟩
 ·exact hb.ge i hi
theorem ES.fr {S : List Nat} {w w' : World} {B be b : Nat} {X : List Nat} {l : List UInt8} (h : ES w B be b X l) (f : Fr S w w') (hs : ∀ i ∈ S, i ∉ X) : ES w' B be b X l := by
 obtain ⟨Xb, hb, rfl, hn⟩ := h.bld
 obtain ⟨buf, hr, hz⟩ := h.row
 have hbe : be ∉ S := fun hi => hs be hi (by simp)
 exact ⟨f.cell h.cell hbe, ⟨buf, f.blk hr hbe, hz⟩, ⟨Xb, hb.fr f (fun i hi hx => hs i hi (by simp [hx])), rfl, hn⟩, h.lo, h.two⟩
theorem ES.fr0 {w w' : World} {B be b : Nat} {X : List Nat} {l : List UInt8} (h : ES w B be b X l) (f : Fr [] w w') : ES w' B be b X l := h.fr f (by simp)
theorem ES.put {w w' : World} {B be b : Nat} {X Xb Xb' : List Nat} {l l' : List UInt8} (h : ES w B be b (be :: Xb) l) (hn : be ∉ Xb) (f : Fr Xb w w') (hb : Bld w' B b Xb' l') (hs : Sub Xb' Xb w) : ES w' B be b (be :: Xb') l' := by
 obtain ⟨buf, hr, hz⟩ := h.row
 exact ⟨f.cell h.cell hn, ⟨buf, f.blk hr hn, hz⟩, ⟨Xb', hb, rfl, hs.not hn (lt_of_blk hr)⟩, h.lo, h.two⟩
theorem ES.wstr {w : World} {B be b : Nat} {X : List Nat} {l : List UInt8} {s : ByteArray} (h : ES w B be b X l) (hlen : l.length + s.data.toList.length ≤ 140737488355328) : Calls Tryz.prog 267 #[.pointer (some ⟨b, 0, none⟩), .string s] w (Ret w X fun r w' => ∃ X', ES w' B be b X' (l ++ s.data.toList) ∧ Sub X' X w) := by
 obtain ⟨Xb, hb, rfl, hn⟩ := h.bld
 refine (WriteString_any hb (by rw [size_list]; exact hlen)).mono (Ret.into (fun i hi => by simp [hi]) ?_)
 rintro v w' hf ⟨X', h1, h2⟩
 exact ⟨be :: X', h.put (X := []) hn hf h1 h2, h2.cons be⟩
theorem ES.wbyte {w : World} {B be b : Nat} {X : List Nat} {l : List UInt8} {c : UInt8} (h : ES w B be b X l) (hlen : l.length + 1 ≤ 140737488355328) : Calls Tryz.prog 266 #[.pointer (some ⟨b, 0, none⟩), .int .u8 (c.toNat : Int)] w (Ret w X fun r w' => ∃ X', ES w' B be b X' (l ++ [c]) ∧ Sub X' X w) := by
 obtain ⟨Xb, hb, rfl, hn⟩ := h.bld
 refine (WriteByte_any hb hlen).mono (Ret.into (fun i hi => by simp [hi]) ?_)
 rintro v w' hf ⟨X', h1, h2⟩
 exact ⟨be :: X', h.put (X := []) hn hf h1 h2, h2.cons be⟩
theorem ES.wbuf {w : World} {B be b o cap : Nat} {X : List Nat} {l m : List UInt8} (h : ES w B be b X l) (hm : ∀ i (hi : i < m.length), w.cell? ⟨be, o + i, none⟩ = some (.int .u8 (m[i].toNat : Int))) (hlen : l.length + m.length ≤ 140737488355328) : Calls Tryz.prog 265 #[.pointer (some ⟨b, 0, none⟩), .slice (some ⟨be, o, none⟩) m.length cap] w (Ret w X fun r w' => ∃ X', ES w' B be b X' (l ++ m) ∧ Sub X' X w) := by
 obtain ⟨Xb, hb, rfl, hn⟩ := h.bld
 refine (Write_any hb hn hm hlen).mono (Ret.into (fun i hi => by simp [hi]) ?_)
 rintro v w' hf ⟨X', h1, h2⟩
 exact ⟨be :: X', h.put (X := []) hn hf h1 h2, h2.cons be⟩
/-- The encoder's buffer is written. -/
theorem ES.buf {w w' : World} {B be b : Nat} {X : List Nat} {l : List UInt8} {cur : Array Value} (h : ES w B be b X l) (f : Fr [be] w w') (hr : w'.heap[be]? = some (.cells cur 164 (0, 0))) (hz : cur.size = 65) (hc : cur[0]? = some (.iface 157 (.pointer (some ⟨b, 0, none⟩)))) : ES w' B be b X l := by
 obtain ⟨Xb, hb, rfl, hn⟩ := h.bld
 exact ⟨cell_of_blk hr hc, ⟨cur, hr, hz⟩, ⟨Xb, hb.fr f (fun i hi hx => by rcases List.mem_singleton.1 hi with rfl; exact hn hx), rfl, hn⟩, h.lo, h.two⟩
theorem ES.mem {w : World} {B be b : Nat} {X : List Nat} {l : List UInt8} (h : ES w B be b X l) : be ∈ X := by
 obtain ⟨Xb, hb, rfl, hn⟩ := h.bld
 simp
theorem ES.cast {w : World} {B be b : Nat} {X : List Nat} {l l' : List UInt8} (h : ES w B be b X l) (e : l = l') : ES w B be b X l' := e ▸ h
theorem Tabs.es {w w' : World} {B be b : Nat} {X : List Nat} {l : List UInt8} (h : Tabs w) (hE : ES w B be b X l) (f : Fr X w w') : Tabs w' := h.fr f (fun c hc hm => by have := (hE.ge c hm).1; have := hE.two; omega)
/-! ### Bytes of runes -/
theorem decodeN_hi {n b0 b1 b2 b3 : Nat} (h0 : 128 ≤ b0) (hv : ¬ ((Lib.decodeN n b0 b1 b2 b3).1 = 65533 ∧ (Lib.decodeN n b0 b1 b2 b3).2 = 1)) :
  ((Lib.decodeN n b0 b1 b2 b3).2 = 2 ∧ 1 < n ∧ 128 ≤ b1) ∨ ((Lib.decodeN n b0 b1 b2 b3).2 = 3 ∧ 2 < n ∧ 128 ≤ b1 ∧ 128 ≤ b2) ∨ ((Lib.decodeN n b0 b1 b2 b3).2 = 4 ∧ 3 < n ∧ 128 ≤ b1 ∧ 128 ≤ b2 ∧ 128 ≤ b3) := by
 unfold Lib.decodeN at hv ⊢
 rw [if_neg (by omega)] at hv ⊢
 split at hv
 ·rename_i h
  rw [if_pos h]
  split at hv
  ·rename_i h2; rw [if_pos h2]; exact Or.inl ⟨rfl, h.2.1, by omega⟩
  ·exact absurd ⟨rfl, rfl⟩ hv
 ·rename_i h
  rw [if_neg h]
  split at hv
  ·rename_i h
   rw [if_pos h]
   split at hv
   ·rename_i h2; rw [if_pos h2]; exact Or.inr (Or.inl ⟨rfl, h.2.2.1, by omega, by omega⟩)
   ·exact absurd ⟨rfl, rfl⟩ hv
  ·rename_i h
   rw [if_neg h]
   split at hv
   ·rename_i h
    rw [if_pos h]
    split at hv
    ·rename_i h2; rw [if_pos h2]; exact Or.inr (Or.inr ⟨rfl, h.2.2.2.1, by omega, by omega, by omega⟩)
    ·exact absurd ⟨rfl, rfl⟩ hv
   ·exact absurd ⟨rfl, rfl⟩ hv
theorem escJ_hi {c : UInt8} (h : 128 ≤ c.toNat) : escJ c = [c] := by
 have k (d : UInt8) (hd : ¬ 128 ≤ d.toNat) : ¬ c = d := fun hc => hd (hc ▸ h)
 unfold escJ
 rw [if_neg (k 34 (by decide)), if_neg (k 92 (by decide)), if_neg (k 10 (by decide)), if_neg (k 9 (by decide)), if_neg (k 13 (by decide)), if_neg (k 8 (by decide)), if_neg (k 12 (by decide)), if_neg]
 rintro (h1 | h1)
 ·omega
 ·exact k 127 (by decide) h1
theorem escT_app (a b : List UInt8) : escT (a ++ b) = escT a ++ escT b := by simp [escT]
theorem escT_hi : ∀ (l : List UInt8), (∀ c ∈ l, 128 ≤ c.toNat) → escT l = l
 | [], _ => rfl
 | c :: l, h => by
  have h1 := escT_hi l (fun x hx => h x (by simp [hx]))
  simp only [escT, List.flatMap_cons] at h1 ⊢
  rw [h1, escJ_hi (h c (by simp))]; rfl
/-- A rune that does not stand in one byte: its width, and that none of its bytes is written otherwise. -/
theorem rune_hi {l : List UInt8} (hne : l ≠ []) (hv : Lib.validD l = true) (h0 : 128 ≤ (l.getD 0 0).toNat) :
  ¬ ((Lib.decodeL l).1 = 65533 ∧ (Lib.decodeL l).2 = 1) ∧ 1 ≤ (Lib.decodeL l).2 ∧ (Lib.decodeL l).2 ≤ l.length ∧ escT (l.take (Lib.decodeL l).2) = l.take (Lib.decodeL l).2 ∧ Lib.validD (l.drop (Lib.decodeL l).2) = true := by
 rw [Lib.validD_step l hne] at hv
 have hn : ¬ ((Lib.decodeL l).1 = 65533 ∧ (Lib.decodeL l).2 = 1) := fun h => by rw [if_pos h] at hv; cases hv
 rw [if_neg hn] at hv
 refine ⟨hn, ?_⟩
 have hN := Lib.decodeL_N l
 have hc := decodeN_hi (n := l.length) (b1 := (l.getD 1 0).toNat) (b2 := (l.getD 2 0).toNat) (b3 := (l.getD 3 0).toNat) h0 (by rw [← hN]; exact hn)
 rw [← hN] at hc
 have hget : ∀ j, j < l.length → l.getD j 0 = l[j]! := fun j hj => by simp [List.getD_eq_getElem?_getD, hj]
 refine ⟨by omega, by omega, escT_hi _ (fun c hc' => ?_), hv⟩
 obtain ⟨j, hj, rfl⟩ := List.getElem_of_mem hc'
 rw [List.getElem_take]
 have hjl : j < l.length := by rw [List.length_take] at hj; omega
 have hj2 : j < (Lib.decodeL l).2 := by rw [List.length_take] at hj; omega
 have e : l[j] = l.getD j 0 := by simp [List.getD_eq_getElem?_getD, hjl]
 rw [e]
 rcases hc with h | h | h
 ·rcases (by omega : j = 0 ∨ j = 1) with rfl | rfl <;> omega
 ·rcases (by omega : j = 0 ∨ j = 1 ∨ j = 2) with rfl | rfl | rfl <;> omega
 ·rcases (by omega : j = 0 ∨ j = 1 ∨ j = 2 ∨ j = 3) with rfl | rfl | rfl | rfl <;> omega
theorem valid_ascii {c : UInt8} {t : List UInt8} (h : c.toNat < 128) (hv : Lib.validD (c :: t) = true) : Lib.validD t = true := by
 rw [Lib.validD_step _ (by simp), Lib.decodeL_ascii c t h] at hv
 split at hv
 ·cases hv
 ·simpa using hv
theorem decodeGo_drop {s : ByteArray} {i : Nat} (h : i < s.size) : Lib.decodeGo (s.extract i s.size) = Lib.decodeL (s.data.toList.drop i) := by
 unfold Lib.decodeGo
 rw [if_neg (by rw [Lib.tail_size]; omega), Lib.tail_decode, Nat.add_zero, Lib.decodeL_drop]
theorem dec_any {s : ByteArray} {i : Nat} {w : World} (h : i < s.size) (hT : Tabs w) : Calls Tryz.prog 188 #[.string (s.extract i s.size)] w (Ret w [] fun v _ => v = .tuple #[.int .i32 ((Lib.decodeL (s.data.toList.drop i)).1 : Int), .int .i64 ((Lib.decodeL (s.data.toList.drop i)).2 : Int)]) := by
 refine (Any.utf8_DecodeRuneInString Tryz.laysDec (s.extract i s.size) w hT).mono fun e w' h' => ?_
 obtain ⟨rfl, hb⟩ := h'
 exact Ret.mk (Fr.ofBelow hb) (by rw [decodeGo_drop h])

end Go.Proofs.YtmbleojlnaofjaaGreatDoor

/- The walk of the encoder's encodeString. -/
namespace Go.Proofs.YtmbleojlnaofjaaGreatDoor
open Go Go.RowKit D Go.Deep
set_option linter.unusedVariables false
set_option linter.unusedSimpArgs false


theorem take_drop_succ {s : ByteArray} {st i : Nat} (h : i < s.size) (hs : st ≤ i) : (s.data.toList.take (i + 1)).drop st = (s.data.toList.take i).drop st ++ [s[i]] := by
 have hl : i < s.data.toList.length := by simpa using h
 rw [List.take_succ_eq_append_getElem hl, List.drop_append_of_le_length (by rw [List.length_take]; omega)]
 rfl
theorem ext_list {s : ByteArray} {a b : Nat} : (s.extract ((a : Int).toNat) ((b : Int).toNat)).data.toList = (s.data.toList.take b).drop a := by
 rw [Int.toNat_natCast, Int.toNat_natCast, ByteArray.data_extract, Array.toList_extract, List.extract_eq_take_drop, ← List.drop_take]
theorem ext_tail {s : ByteArray} {a : Nat} : (s.extract ((a : Int).toNat) s.size).data.toList = s.data.toList.drop a := by
 rw [Int.toNat_natCast, ByteArray.data_extract, Array.toList_extract, List.extract_eq_take_drop]
 have : s.size = s.data.toList.length := size_list s
 rw [this, List.take_of_length_le (by simp)]
theorem drop_cons {s : ByteArray} {i : Nat} (h : i < s.size) : s.data.toList.drop i = s[i] :: s.data.toList.drop (i + 1) := by
 have hl : i < s.data.toList.length := by simpa using h
 rw [List.drop_eq_getElem_cons hl]; rfl


theorem hex_at : ∀ d : Nat, d < 16 → (⟨#[48, 49, 50, 51, 52, 53, 54, 55, 56, 57, 97, 98, 99, 100, 101, 102]⟩ : ByteArray).data.toList[d]? = some (hexd d) := by
 intro d hd
 have : ∀ d : Fin 16, (⟨#[48, 49, 50, 51, 52, 53, 54, 55, 56, 57, 97, 98, 99, 100, 101, 102]⟩ : ByteArray).data.toList[d.val]? = some (hexd d.val) := by decide +kernel
 exact this ⟨d, hd⟩
theorem and15 (c : UInt8) : IntKind.u8.wrap ((c.toNat &&& 15 : Nat) : Int) = ((c.toNat % 16 : Nat) : Int) := by
 have e : c.toNat &&& 15 = c.toNat % 16 := Nat.and_two_pow_sub_one_eq_mod c.toNat 4
 rw [e]; exact wrap_u8 (by omega)

set_option maxHeartbeats 1000000 in
theorem encodeString_any {B be b : Nat} {X : List Nat} {l : List UInt8} {s : ByteArray} {w : World} (hES : ES w B be b X l) (hT : Tabs w) (hv : Lib.validD s.data.toList = true) (hlen : l.length + 6 * s.size + 100 ≤ 140737488355328) : Calls Tryz.prog 170 #[(.pointer (some ⟨be, 0, none⟩)), .string s] w (Ret w X fun r w' => r = .tuple #[] ∧ ∃ X', ES w' B be b X' (l ++ qL s.data.toList) ∧ Sub X' X w) := by
 have xFR := Sub.refl X w
 have hsl0 := size_list s
 have hesl := escT_len s.data.toList
 refine calls_of Tryz.func170 rfl rfl rfl rfl ?_
 have FR := Fr.refl X w
 refine DC.seq ?_
 refine DC.region ?_
 refine DL.y rfl rfl (Y.move) ?_
 refine DL.y rfl rfl (Y.nil rfl) ?_
 refine DL.y rfl rfl (Y.field F.fd164_0 rfl) ?_
 refine DL.y rfl rfl (Y.load F.sc161 rfl hES.cell) ?_
 refine DL.invoke rfl rfl rfl rfl (hmWB _ _) (hES.wbyte (c := 34) (by first | omega | (simp only [List.length_append, List.length_cons, List.length_nil]; omega))) ?_
 rintro _ w4 f5 ⟨X1, hE3, hs2⟩
 have xFR' := xFR.step FR.size hs2
 replace FR := FR.put f5 xFR
 replace xFR := xFR'
 replace hT : Tabs w4 := by first | exact hT.es hES f5 | exact hT.fr f5 (by intro c hc hm; simp at hm)
 replace hES := hE3
 refine DL.nil ?_
 show DC _ _ _ _ _ _
 refine DC.seq ?_
 refine DC.region ?_
 refine DL.y rfl rfl (Y.assign) ?_
 refine DL.nil ?_
 show DC _ _ _ _ _ _
 refine DC.seq ?_
 refine DC.seq ?_
 refine DC.region ?_
 refine DL.y rfl rfl (Y.assign) ?_
 refine DL.nil ?_
 show DC _ _ _ _ _ _
 refine DC.block ?_
 refine DC.loopE (σ := Nat × Nat × List Nat) [(4, 8), (14, 169)] [(0, (.pointer (some ⟨be, 0, none⟩))), (1, .string s)] (fun (st, i, _) => [(4, .int .i64 (st : Int)), (5, .int .i64 (i : Int))]) (fun sg wl => Fr X1 w4 wl ∧ (fun (st, i, Xc) wl => st ≤ i ∧ i ≤ s.size ∧ ES wl B be b Xc (l ++ (34 :: escT (s.data.toList.take st))) ∧ Sub Xc X1 w4 ∧ escT (s.data.toList.take i) = escT (s.data.toList.take st) ++ (s.data.toList.take i).drop st ∧ Lib.validD (s.data.toList.drop i) = true ∧ Tabs wl) sg wl) (fun (_, i, _) => s.size - i) ((0, 0, X1)) (by kernel_rfl) ?_ ?_ ?_ ?_
 ·exact ⟨rfl, rfl⟩
 ·exact ⟨rfl, rfl⟩
 ·exact ⟨Fr.refl _ _, Nat.le_refl _, Nat.zero_le _, hES, Sub.refl _ _, by simp [escT], by simpa using hv, hT⟩
 ·rintro e0 ⟨st, i, Xc⟩ j w6 ⟨f7, hst, hi0, hEL, hsl, hE, hvd, hTL⟩
  have xFR' := xFR.step FR.size hsl
  replace FR := FR.put f7 xFR
  replace xFR := xFR'
  have G8 := f7
  have xG8 := hsl
  replace hES := hEL
  have hT := hTL
  have het := escT_len (s.data.toList.take st)
  have het2 : (escT (s.data.toList.take st)).length ≤ 6 * st := by { have h1 : (s.data.toList.take st).length ≤ st := by { rw [List.length_take]; omega }; omega }
  have het3 := escT_len (s.data.toList.take i)
  have het4 : (escT (s.data.toList.take i)).length ≤ 6 * i := by { have h1 : (s.data.toList.take i).length ≤ i := by { rw [List.length_take]; omega }; omega }
  refine DC.seq ?_
  refine DC.seq ?_
  refine DC.region ?_
  refine DL.y rfl rfl (Y.move) ?_
  refine DL.y rfl rfl (Y.move) ?_
  refine DL.y rfl rfl (Y.lenStr Tryz.underlying9 rfl) ?_
  refine DL.if rfl rfl (Y.lt rfl rfl) (fun c17 => ?_) (fun c17 => ?_)
  ·have hi : i < s.size := by omega
   have hu8 : s[i].toNat < 2 ^ IntKind.u8.bits := s[i].toNat_lt
   have hu := s[i].toNat_lt
   refine DL.nil ?_
   show DC _ _ _ _ _ _
   refine DC.condT rfl ?_
   refine DC.skip ?_
   show DC _ _ _ _ _ _
   refine DC.block ?_
   refine DC.seq ?_
   refine DC.seq ?_
   refine DC.region ?_
   refine DL.y rfl rfl (Y.move) ?_
   refine DL.y rfl rfl (Y.move) ?_
   refine DL.y rfl rfl (Y.strIx (i := i) Tryz.underlying9 rfl rfl rfl hi) ?_
   refine DL.y rfl rfl (Y.assign) ?_
   refine DL.nil ?_
   show DC _ _ _ _ _ _
   refine DC.seq ?_
   refine DC.region ?_
   refine DL.y rfl rfl (Y.move) ?_
   refine DL.if rfl rfl (Y.lt rfl rfl) (fun c22 => ?_) (fun c22 => ?_)
   ·have hvd1 : Lib.validD (s.data.toList.drop (i + 1)) = true := by rw [drop_cons hi] at hvd; exact valid_ascii (by omega) hvd
    refine DL.nil ?_
    show DC _ _ _ _ _ _
    refine DC.condT rfl ?_
    have J9 := Fr.refl Xc w6
    have xJ9 := Sub.refl Xc w6
    refine DC.seqJ (σ := List Nat) (fun _ => [(0, (.pointer (some ⟨be, 0, none⟩))), (1, .string s), (4, .int .i64 (st : Int)), (5, .int .i64 (i : Int)), (6, .int .u8 (s[i].toNat : Int))]) (fun sg wl => Fr Xc w6 wl ∧ (fun Xq wl => ES wl B be b Xq (l ++ (34 :: escT (s.data.toList.take st))) ∧ Sub Xq Xc w6 ∧ Tabs wl ∧ (s[i].toNat < 32 ∨ s[i] = 34 ∨ s[i] = 92 ∨ s[i] = 127)) sg wl) ?_ ?_
    ·refine DC.seq ?_
     refine DC.region ?_
     refine DL.y rfl rfl (Y.move) ?_
     refine DL.if rfl rfl (Y.le rfl rfl) (fun c24 => ?_) (fun c24 => ?_)
     ·refine DL.y rfl rfl (Y.move) ?_
      refine DL.y rfl rfl (Y.move) ?_
      refine DL.if rfl rfl (Y.le rfl rfl) (fun c27 => ?_) (fun c27 => ?_)
      ·refine DL.y rfl rfl (Y.pickT rfl) ?_
       refine DL.y rfl rfl (Y.move) ?_
       refine DL.y rfl rfl (Y.move) ?_
       refine DL.if rfl rfl (Y.ne rfl rfl) (fun c31 => ?_) (fun c31 => ?_)
       ·refine DL.y rfl rfl (Y.pickT rfl) ?_
        refine DL.y rfl rfl (Y.move) ?_
        refine DL.y rfl rfl (Y.move) ?_
        refine DL.if rfl rfl (Y.ne rfl rfl) (fun c35 => ?_) (fun c35 => ?_)
        ·have hpl : escJ s[i] = [s[i]] := by
          have e34 : ¬ s[i] = 34 := u8_ne (n := 34) (by decide) c31
          have e92 : ¬ s[i] = 92 := u8_ne (n := 92) (by decide) c35
          have e10 : ¬ s[i] = 10 := u8_ne (n := 10) (by decide) (by omega)
          have e9 : ¬ s[i] = 9 := u8_ne (n := 9) (by decide) (by omega)
          have e13 : ¬ s[i] = 13 := u8_ne (n := 13) (by decide) (by omega)
          have e8 : ¬ s[i] = 8 := u8_ne (n := 8) (by decide) (by omega)
          have e12 : ¬ s[i] = 12 := u8_ne (n := 12) (by decide) (by omega)
          have e127 : ¬ s[i] = 127 := u8_ne (n := 127) (by decide) (by omega)
          unfold escJ
          rw [if_neg e34, if_neg e92, if_neg e10, if_neg e9, if_neg e13, if_neg e8, if_neg e12, if_neg (by rintro (h | h); omega; exact e127 h)]
         refine DL.y rfl rfl (Y.pickT rfl) ?_
         refine DL.nil ?_
         show DC _ _ _ _ _ _
         refine DC.condT rfl ?_
         refine DC.seq ?_
         refine DC.region ?_
         refine DL.y rfl rfl (Y.move) ?_
         refine DL.y rfl rfl (Y.addI (c := ((i + 1 : Nat) : Int)) rfl rfl (by omega) (by omega) (by omega)) ?_
         refine DL.y rfl rfl (Y.assign) ?_
         refine DL.nil ?_
         show DC _ _ _ _ _ _
         refine DC.exit ?_
         have hes := escT_succ hi
         rw [hpl] at hes
         exact ⟨(st, i + 1, Xc), ⟨G8, by omega, hi, hES, xG8, by rw [take_drop_succ hi hst, hes, hE, List.append_assoc], hvd1, hT⟩, by show s.size - (i + 1) < s.size - i; omega, rfl, rfl⟩
        ·refine DL.y rfl rfl (Y.pickT rfl) ?_
         refine DL.nil ?_
         show DC _ _ _ _ _ _
         refine DC.condF rfl ?_
         refine DC.skip ?_
         refine ⟨Xc, ⟨rfl, rfl, rfl, rfl, rfl⟩, J9, hES, xJ9, hT, ?_⟩
         right; right; left; exact u8_eq (n := 92) (by decide) (Classical.not_not.1 c35)
       ·refine DL.y rfl rfl (Y.pickT rfl) ?_
        refine DL.y rfl rfl (Y.move) ?_
        refine DL.skip rfl rfl ?_
        refine DL.skip rfl rfl ?_
        refine DL.y rfl rfl (Y.pickF rfl) ?_
        refine DL.nil ?_
        show DC _ _ _ _ _ _
        refine DC.condF rfl ?_
        refine DC.skip ?_
        refine ⟨Xc, ⟨rfl, rfl, rfl, rfl, rfl⟩, J9, hES, xJ9, hT, ?_⟩
        right; left; exact u8_eq (n := 34) (by decide) (Classical.not_not.1 c31)
      ·refine DL.y rfl rfl (Y.pickT rfl) ?_
       refine DL.y rfl rfl (Y.move) ?_
       refine DL.skip rfl rfl ?_
       refine DL.skip rfl rfl ?_
       refine DL.y rfl rfl (Y.pickF rfl) ?_
       refine DL.y rfl rfl (Y.move) ?_
       refine DL.skip rfl rfl ?_
       refine DL.skip rfl rfl ?_
       refine DL.y rfl rfl (Y.pickF rfl) ?_
       refine DL.nil ?_
       show DC _ _ _ _ _ _
       refine DC.condF rfl ?_
       refine DC.skip ?_
       refine ⟨Xc, ⟨rfl, rfl, rfl, rfl, rfl⟩, J9, hES, xJ9, hT, ?_⟩
       right; right; right; exact u8_eq (n := 127) (by decide) (by omega)
     ·refine DL.y rfl rfl (Y.move) ?_
      refine DL.skip rfl rfl ?_
      refine DL.skip rfl rfl ?_
      refine DL.y rfl rfl (Y.pickF rfl) ?_
      refine DL.y rfl rfl (Y.move) ?_
      refine DL.skip rfl rfl ?_
      refine DL.skip rfl rfl ?_
      refine DL.y rfl rfl (Y.pickF rfl) ?_
      refine DL.y rfl rfl (Y.move) ?_
      refine DL.skip rfl rfl ?_
      refine DL.skip rfl rfl ?_
      refine DL.y rfl rfl (Y.pickF rfl) ?_
      refine DL.nil ?_
      show DC _ _ _ _ _ _
      refine DC.condF rfl ?_
      refine DC.skip ?_
      refine ⟨Xc, ⟨rfl, rfl, rfl, rfl, rfl⟩, J9, hES, xJ9, hT, ?_⟩
      left; omega
    ·rintro X6 e0 w10 ⟨f11, hE6, hs6, hT6, hcs⟩
     have xFR' := xFR.step FR.size hs6
     replace FR := FR.put f11 xFR
     replace xFR := xFR'
     have xG8' := xG8.step G8.size hs6
     replace G8 := G8.put f11 xG8
     replace xG8 := xG8'
     replace hES := hE6
     have hT := hT6
     have J13 := Fr.refl X6 w10
     have xJ13 := Sub.refl X6 w10
     refine DC.seqJ (σ := List Nat) (fun _ => [(0, (.pointer (some ⟨be, 0, none⟩))), (1, .string s), (4, .int .i64 (st : Int)), (5, .int .i64 (i : Int)), (6, .int .u8 (s[i].toNat : Int))]) (fun sg wl => Fr X6 w10 wl ∧ (fun Xq wl => ES wl B be b Xq (l ++ (34 :: escT (s.data.toList.take i))) ∧ Sub Xq X6 w10 ∧ Tabs wl) sg wl) ?_ ?_
     ·refine DC.seq ?_
      refine DC.region ?_
      refine DL.y rfl rfl (Y.move) ?_
      refine DL.y rfl rfl (Y.move) ?_
      refine DL.if rfl rfl (Y.lt rfl rfl) (fun c41 => ?_) (fun c41 => ?_)
      ·refine DL.nil ?_
       show DC _ _ _ _ _ _
       refine DC.condT rfl ?_
       refine DC.heldS (fun w => w.cell? ⟨be, 0, none⟩ = some (.iface 157 (.pointer (some ⟨b, 0, none⟩)))) F.mixed ?_
       intro w17 f18 hsw17
       replace FR := FR.tr0 f18
       replace G8 := G8.tr0 f18
       replace J13 := J13.tr0 f18
       replace hES := hES.fr0 f18
       replace hT : Tabs w17 := by first | exact hT.es hES f18 | exact hT.fr f18 (by intro c hc hm; simp at hm)
       refine ⟨hES.cell, ?_⟩
       refine DK.take 0 rfl (by kernel_rfl) (by kernel_rfl) (by kernel_rfl) rfl rfl (fun wq sq => Y.move) ?_
       refine DK.take 1 rfl (by kernel_rfl) (by kernel_rfl) (by kernel_rfl) rfl rfl (fun wq sq => Y.nil rfl) ?_
       refine DK.take 2 rfl (by kernel_rfl) (by kernel_rfl) (by kernel_rfl) rfl rfl (fun wq sq => Y.field F.fd164_0 rfl) ?_
       refine DK.take 3 rfl (by kernel_rfl) (by kernel_rfl) (by kernel_rfl) rfl rfl (fun wq sq => Y.load F.sc161 rfl sq) ?_
       refine DK.take 4 rfl (by kernel_rfl) (by kernel_rfl) (by kernel_rfl) rfl rfl (fun wq sq => Y.move) ?_
       refine DK.take 5 rfl (by kernel_rfl) (by kernel_rfl) (by kernel_rfl) rfl rfl (fun wq sq => Y.move) ?_
       refine DK.take 6 rfl (by kernel_rfl) (by kernel_rfl) (by kernel_rfl) rfl rfl (fun wq sq => Y.move) ?_
       refine DK.take 7 rfl (by kernel_rfl) (by kernel_rfl) (by kernel_rfl) rfl rfl (fun wq sq => Y.strLH Tryz.underlying9 rfl rfl rfl (by omega) (by omega) (by omega)) ?_
       refine DK.take 8 rfl (by kernel_rfl) (by kernel_rfl) (by kernel_rfl) rfl rfl (fun wq sq => Y.nilI rfl) ?_
       refine DK.take 9 rfl (by kernel_rfl) (by kernel_rfl) (by kernel_rfl) rfl rfl (fun wq sq => Y.move) ?_
       refine DK.pick [10] (by kernel_rfl) (by simp) (fun ip hip => ?_)
       obtain rfl := List.mem_singleton.1 hip
       refine ⟨_, rfl, ?_⟩
       refine DL.invoke rfl rfl rfl rfl (hmWS _ _) (hES.wstr (by rw [ext_list, List.length_drop, List.length_take]; simp only [List.length_append, List.length_cons]; omega)) ?_
       rintro _ w22 f23 ⟨X19, hE21, hs20⟩
       have xFR' := xFR.step FR.size hs20
       replace FR := FR.put f23 xFR
       replace xFR := xFR'
       have xG8' := xG8.step G8.size hs20
       replace G8 := G8.put f23 xG8
       replace xG8 := xG8'
       have xJ13' := xJ13.step J13.size hs20
       replace J13 := J13.put f23 xJ13
       replace xJ13 := xJ13'
       replace hT : Tabs w22 := by first | exact hT.es hES f23 | exact hT.fr f23 (by intro c hc hm; simp at hm)
       replace hES := hE21
       replace hES := hES.cast (l' := l ++ (34 :: escT (s.data.toList.take i))) (by rw [hE, ext_list]; simp)
       refine DL.nil ⟨hES.cell, ?_⟩
       refine DK.done (by kernel_rfl) ?_
       exact ⟨X19, ⟨rfl, rfl, rfl, rfl, rfl⟩, J13, hES, xJ13, hT⟩
      ·have hsi : st = i := by omega
       replace hES := hES.cast (l' := l ++ (34 :: escT (s.data.toList.take i))) (by rw [hsi])
       refine DL.nil ?_
       show DC _ _ _ _ _ _
       refine DC.condF rfl ?_
       refine DC.skip ?_
       exact ⟨X6, ⟨rfl, rfl, rfl, rfl, rfl⟩, J13, hES, xJ13, hT⟩
     ·rintro X8 e0 w14 ⟨f15, hE8, hs8, hT8⟩
      have xFR' := xFR.step FR.size hs8
      replace FR := FR.put f15 xFR
      replace xFR := xFR'
      have xG8' := xG8.step G8.size hs8
      replace G8 := G8.put f15 xG8
      replace xG8 := xG8'
      replace hES := hE8
      have hT := hT8
      have J24 := Fr.refl X8 w14
      have xJ24 := Sub.refl X8 w14
      refine DC.seqJ (σ := List Nat) (fun _ => [(0, (.pointer (some ⟨be, 0, none⟩))), (1, .string s), (4, .int .i64 (st : Int)), (5, .int .i64 (i : Int)), (6, .int .u8 (s[i].toNat : Int))]) (fun sg wl => Fr X8 w14 wl ∧ (fun Xq wl => ES wl B be b Xq (l ++ (34 :: escT (s.data.toList.take (i + 1)))) ∧ Sub Xq X8 w14 ∧ Tabs wl) sg wl) ?_ ?_
      ·refine DC.seq ?_
       refine DC.region ?_
       refine DL.y rfl rfl (Y.move) ?_
       refine DL.nil ?_
       show DC _ _ _ _ _ _
       refine DC.block ?_
       refine DC.seq ?_
       refine DC.region ?_
       refine DL.if rfl rfl (Y.eq rfl rfl) (fun c80 => ?_) (fun c80 => ?_)
       ·refine DL.y rfl rfl (Y.assign) ?_
        refine DL.nil ?_
        show DC _ _ _ _ _ _
        refine DC.condT rfl ?_
        refine DC.region ?_
        refine DL.y rfl rfl (Y.move) ?_
        refine DL.y rfl rfl (Y.nil rfl) ?_
        refine DL.y rfl rfl (Y.field F.fd164_0 rfl) ?_
        refine DL.y rfl rfl (Y.load F.sc161 rfl hES.cell) ?_
        refine DL.invoke rfl rfl rfl rfl (hmWS _ _) (hES.wstr (Nat.le_trans (Nat.add_le_add_left (Nat.le_of_ble_eq_true rfl : _ ≤ 8) _) (by first | omega | (simp only [List.length_append, List.length_cons, List.length_nil]; omega)))) ?_
        rintro _ w31 f32 ⟨X28, hE30, hs29⟩
        have xFR' := xFR.step FR.size hs29
        replace FR := FR.put f32 xFR
        replace xFR := xFR'
        have xG8' := xG8.step G8.size hs29
        replace G8 := G8.put f32 xG8
        replace xG8 := xG8'
        have xJ24' := xJ24.step J24.size hs29
        replace J24 := J24.put f32 xJ24
        replace xJ24 := xJ24'
        replace hT : Tabs w31 := by first | exact hT.es hES f32 | exact hT.fr f32 (by intro c hc hm; simp at hm)
        replace hES := hE30
        refine DL.nil ?_
        have hc : s[i] = 34 := u8_eq (n := 34) (by decide) c80
        refine ⟨X28, ⟨rfl, rfl, rfl, rfl, rfl⟩, J24, hES.cast ?_, xJ24, hT⟩
        rw [escT_succ hi, hc]; simp only [List.append_assoc, List.cons_append, List.nil_append]; rfl
       ·refine DL.y rfl rfl (Y.assign) ?_
        refine DL.nil ?_
        show DC _ _ _ _ _ _
        refine DC.condF rfl ?_
        refine DC.seq ?_
        refine DC.region ?_
        refine DL.if rfl rfl (Y.eq rfl rfl) (fun c87 => ?_) (fun c87 => ?_)
        ·refine DL.y rfl rfl (Y.assign) ?_
         refine DL.nil ?_
         show DC _ _ _ _ _ _
         refine DC.condT rfl ?_
         refine DC.region ?_
         refine DL.y rfl rfl (Y.move) ?_
         refine DL.y rfl rfl (Y.nil rfl) ?_
         refine DL.y rfl rfl (Y.field F.fd164_0 rfl) ?_
         refine DL.y rfl rfl (Y.load F.sc161 rfl hES.cell) ?_
         refine DL.invoke rfl rfl rfl rfl (hmWS _ _) (hES.wstr (Nat.le_trans (Nat.add_le_add_left (Nat.le_of_ble_eq_true rfl : _ ≤ 8) _) (by first | omega | (simp only [List.length_append, List.length_cons, List.length_nil]; omega)))) ?_
         rintro _ w36 f37 ⟨X33, hE35, hs34⟩
         have xFR' := xFR.step FR.size hs34
         replace FR := FR.put f37 xFR
         replace xFR := xFR'
         have xG8' := xG8.step G8.size hs34
         replace G8 := G8.put f37 xG8
         replace xG8 := xG8'
         have xJ24' := xJ24.step J24.size hs34
         replace J24 := J24.put f37 xJ24
         replace xJ24 := xJ24'
         replace hT : Tabs w36 := by first | exact hT.es hES f37 | exact hT.fr f37 (by intro c hc hm; simp at hm)
         replace hES := hE35
         refine DL.nil ?_
         have hc : s[i] = 92 := u8_eq (n := 92) (by decide) c87
         refine ⟨X33, ⟨rfl, rfl, rfl, rfl, rfl⟩, J24, hES.cast ?_, xJ24, hT⟩
         rw [escT_succ hi, hc]; simp only [List.append_assoc, List.cons_append, List.nil_append]; rfl
        ·refine DL.y rfl rfl (Y.assign) ?_
         refine DL.nil ?_
         show DC _ _ _ _ _ _
         refine DC.condF rfl ?_
         refine DC.seq ?_
         refine DC.region ?_
         refine DL.if rfl rfl (Y.eq rfl rfl) (fun c94 => ?_) (fun c94 => ?_)
         ·refine DL.y rfl rfl (Y.assign) ?_
          refine DL.nil ?_
          show DC _ _ _ _ _ _
          refine DC.condT rfl ?_
          refine DC.region ?_
          refine DL.y rfl rfl (Y.move) ?_
          refine DL.y rfl rfl (Y.nil rfl) ?_
          refine DL.y rfl rfl (Y.field F.fd164_0 rfl) ?_
          refine DL.y rfl rfl (Y.load F.sc161 rfl hES.cell) ?_
          refine DL.invoke rfl rfl rfl rfl (hmWS _ _) (hES.wstr (Nat.le_trans (Nat.add_le_add_left (Nat.le_of_ble_eq_true rfl : _ ≤ 8) _) (by first | omega | (simp only [List.length_append, List.length_cons, List.length_nil]; omega)))) ?_
          rintro _ w41 f42 ⟨X38, hE40, hs39⟩
          have xFR' := xFR.step FR.size hs39
          replace FR := FR.put f42 xFR
          replace xFR := xFR'
          have xG8' := xG8.step G8.size hs39
          replace G8 := G8.put f42 xG8
          replace xG8 := xG8'
          have xJ24' := xJ24.step J24.size hs39
          replace J24 := J24.put f42 xJ24
          replace xJ24 := xJ24'
          replace hT : Tabs w41 := by first | exact hT.es hES f42 | exact hT.fr f42 (by intro c hc hm; simp at hm)
          replace hES := hE40
          refine DL.nil ?_
          have hc : s[i] = 8 := u8_eq (n := 8) (by decide) c94
          refine ⟨X38, ⟨rfl, rfl, rfl, rfl, rfl⟩, J24, hES.cast ?_, xJ24, hT⟩
          rw [escT_succ hi, hc]; simp only [List.append_assoc, List.cons_append, List.nil_append]; rfl
         ·refine DL.y rfl rfl (Y.assign) ?_
          refine DL.nil ?_
          show DC _ _ _ _ _ _
          refine DC.condF rfl ?_
          refine DC.seq ?_
          refine DC.region ?_
          refine DL.if rfl rfl (Y.eq rfl rfl) (fun c101 => ?_) (fun c101 => ?_)
          ·refine DL.y rfl rfl (Y.assign) ?_
           refine DL.nil ?_
           show DC _ _ _ _ _ _
           refine DC.condT rfl ?_
           refine DC.region ?_
           refine DL.y rfl rfl (Y.move) ?_
           refine DL.y rfl rfl (Y.nil rfl) ?_
           refine DL.y rfl rfl (Y.field F.fd164_0 rfl) ?_
           refine DL.y rfl rfl (Y.load F.sc161 rfl hES.cell) ?_
           refine DL.invoke rfl rfl rfl rfl (hmWS _ _) (hES.wstr (Nat.le_trans (Nat.add_le_add_left (Nat.le_of_ble_eq_true rfl : _ ≤ 8) _) (by first | omega | (simp only [List.length_append, List.length_cons, List.length_nil]; omega)))) ?_
           rintro _ w46 f47 ⟨X43, hE45, hs44⟩
           have xFR' := xFR.step FR.size hs44
           replace FR := FR.put f47 xFR
           replace xFR := xFR'
           have xG8' := xG8.step G8.size hs44
           replace G8 := G8.put f47 xG8
           replace xG8 := xG8'
           have xJ24' := xJ24.step J24.size hs44
           replace J24 := J24.put f47 xJ24
           replace xJ24 := xJ24'
           replace hT : Tabs w46 := by first | exact hT.es hES f47 | exact hT.fr f47 (by intro c hc hm; simp at hm)
           replace hES := hE45
           refine DL.nil ?_
           have hc : s[i] = 12 := u8_eq (n := 12) (by decide) c101
           refine ⟨X43, ⟨rfl, rfl, rfl, rfl, rfl⟩, J24, hES.cast ?_, xJ24, hT⟩
           rw [escT_succ hi, hc]; simp only [List.append_assoc, List.cons_append, List.nil_append]; rfl
          ·refine DL.y rfl rfl (Y.assign) ?_
           refine DL.nil ?_
           show DC _ _ _ _ _ _
           refine DC.condF rfl ?_
           refine DC.seq ?_
           refine DC.region ?_
           refine DL.if rfl rfl (Y.eq rfl rfl) (fun c108 => ?_) (fun c108 => ?_)
           ·refine DL.y rfl rfl (Y.assign) ?_
            refine DL.nil ?_
            show DC _ _ _ _ _ _
            refine DC.condT rfl ?_
            refine DC.region ?_
            refine DL.y rfl rfl (Y.move) ?_
            refine DL.y rfl rfl (Y.nil rfl) ?_
            refine DL.y rfl rfl (Y.field F.fd164_0 rfl) ?_
            refine DL.y rfl rfl (Y.load F.sc161 rfl hES.cell) ?_
            refine DL.invoke rfl rfl rfl rfl (hmWS _ _) (hES.wstr (Nat.le_trans (Nat.add_le_add_left (Nat.le_of_ble_eq_true rfl : _ ≤ 8) _) (by first | omega | (simp only [List.length_append, List.length_cons, List.length_nil]; omega)))) ?_
            rintro _ w51 f52 ⟨X48, hE50, hs49⟩
            have xFR' := xFR.step FR.size hs49
            replace FR := FR.put f52 xFR
            replace xFR := xFR'
            have xG8' := xG8.step G8.size hs49
            replace G8 := G8.put f52 xG8
            replace xG8 := xG8'
            have xJ24' := xJ24.step J24.size hs49
            replace J24 := J24.put f52 xJ24
            replace xJ24 := xJ24'
            replace hT : Tabs w51 := by first | exact hT.es hES f52 | exact hT.fr f52 (by intro c hc hm; simp at hm)
            replace hES := hE50
            refine DL.nil ?_
            have hc : s[i] = 10 := u8_eq (n := 10) (by decide) c108
            refine ⟨X48, ⟨rfl, rfl, rfl, rfl, rfl⟩, J24, hES.cast ?_, xJ24, hT⟩
            rw [escT_succ hi, hc]; simp only [List.append_assoc, List.cons_append, List.nil_append]; rfl
           ·refine DL.y rfl rfl (Y.assign) ?_
            refine DL.nil ?_
            show DC _ _ _ _ _ _
            refine DC.condF rfl ?_
            refine DC.seq ?_
            refine DC.region ?_
            refine DL.if rfl rfl (Y.eq rfl rfl) (fun c115 => ?_) (fun c115 => ?_)
            ·refine DL.y rfl rfl (Y.assign) ?_
             refine DL.nil ?_
             show DC _ _ _ _ _ _
             refine DC.condT rfl ?_
             refine DC.region ?_
             refine DL.y rfl rfl (Y.move) ?_
             refine DL.y rfl rfl (Y.nil rfl) ?_
             refine DL.y rfl rfl (Y.field F.fd164_0 rfl) ?_
             refine DL.y rfl rfl (Y.load F.sc161 rfl hES.cell) ?_
             refine DL.invoke rfl rfl rfl rfl (hmWS _ _) (hES.wstr (Nat.le_trans (Nat.add_le_add_left (Nat.le_of_ble_eq_true rfl : _ ≤ 8) _) (by first | omega | (simp only [List.length_append, List.length_cons, List.length_nil]; omega)))) ?_
             rintro _ w56 f57 ⟨X53, hE55, hs54⟩
             have xFR' := xFR.step FR.size hs54
             replace FR := FR.put f57 xFR
             replace xFR := xFR'
             have xG8' := xG8.step G8.size hs54
             replace G8 := G8.put f57 xG8
             replace xG8 := xG8'
             have xJ24' := xJ24.step J24.size hs54
             replace J24 := J24.put f57 xJ24
             replace xJ24 := xJ24'
             replace hT : Tabs w56 := by first | exact hT.es hES f57 | exact hT.fr f57 (by intro c hc hm; simp at hm)
             replace hES := hE55
             refine DL.nil ?_
             have hc : s[i] = 13 := u8_eq (n := 13) (by decide) c115
             refine ⟨X53, ⟨rfl, rfl, rfl, rfl, rfl⟩, J24, hES.cast ?_, xJ24, hT⟩
             rw [escT_succ hi, hc]; simp only [List.append_assoc, List.cons_append, List.nil_append]; rfl
            ·refine DL.y rfl rfl (Y.assign) ?_
             refine DL.nil ?_
             show DC _ _ _ _ _ _
             refine DC.condF rfl ?_
             refine DC.seq ?_
             refine DC.region ?_
             refine DL.if rfl rfl (Y.eq rfl rfl) (fun c122 => ?_) (fun c122 => ?_)
             ·refine DL.y rfl rfl (Y.assign) ?_
              refine DL.nil ?_
              show DC _ _ _ _ _ _
              refine DC.condT rfl ?_
              refine DC.region ?_
              refine DL.y rfl rfl (Y.move) ?_
              refine DL.y rfl rfl (Y.nil rfl) ?_
              refine DL.y rfl rfl (Y.field F.fd164_0 rfl) ?_
              refine DL.y rfl rfl (Y.load F.sc161 rfl hES.cell) ?_
              refine DL.invoke rfl rfl rfl rfl (hmWS _ _) (hES.wstr (Nat.le_trans (Nat.add_le_add_left (Nat.le_of_ble_eq_true rfl : _ ≤ 8) _) (by first | omega | (simp only [List.length_append, List.length_cons, List.length_nil]; omega)))) ?_
              rintro _ w61 f62 ⟨X58, hE60, hs59⟩
              have xFR' := xFR.step FR.size hs59
              replace FR := FR.put f62 xFR
              replace xFR := xFR'
              have xG8' := xG8.step G8.size hs59
              replace G8 := G8.put f62 xG8
              replace xG8 := xG8'
              have xJ24' := xJ24.step J24.size hs59
              replace J24 := J24.put f62 xJ24
              replace xJ24 := xJ24'
              replace hT : Tabs w61 := by first | exact hT.es hES f62 | exact hT.fr f62 (by intro c hc hm; simp at hm)
              replace hES := hE60
              refine DL.nil ?_
              have hc : s[i] = 9 := u8_eq (n := 9) (by decide) c122
              refine ⟨X58, ⟨rfl, rfl, rfl, rfl, rfl⟩, J24, hES.cast ?_, xJ24, hT⟩
              rw [escT_succ hi, hc]; simp only [List.append_assoc, List.cons_append, List.nil_append]; rfl
             ·refine DL.y rfl rfl (Y.assign) ?_
              refine DL.nil ?_
              show DC _ _ _ _ _ _
              refine DC.condF rfl ?_
              refine DC.seq ?_
              refine DC.region ?_
              refine DL.y rfl rfl (Y.move) ?_
              refine DL.y rfl rfl (Y.nil rfl) ?_
              refine DL.y rfl rfl (Y.field F.fd164_0 rfl) ?_
              refine DL.y rfl rfl (Y.load F.sc161 rfl hES.cell) ?_
              refine DL.invoke rfl rfl rfl rfl (hmWS _ _) (hES.wstr (Nat.le_trans (Nat.add_le_add_left (Nat.le_of_ble_eq_true rfl : _ ≤ 8) _) (by first | omega | (simp only [List.length_append, List.length_cons, List.length_nil]; omega)))) ?_
              rintro _ w66 f67 ⟨X63, hE65, hs64⟩
              have xFR' := xFR.step FR.size hs64
              replace FR := FR.put f67 xFR
              replace xFR := xFR'
              have xG8' := xG8.step G8.size hs64
              replace G8 := G8.put f67 xG8
              replace xG8 := xG8'
              have xJ24' := xJ24.step J24.size hs64
              replace J24 := J24.put f67 xJ24
              replace xJ24 := xJ24'
              replace hT : Tabs w66 := by first | exact hT.es hES f67 | exact hT.fr f67 (by intro c hc hm; simp at hm)
              replace hES := hE65
              refine DL.nil ?_
              show DC _ _ _ _ _ _
              refine DC.seq ?_
              refine DC.heldS (fun w => w.cell? ⟨be, 0, none⟩ = some (.iface 157 (.pointer (some ⟨b, 0, none⟩)))) F.mixed ?_
              intro w68 f69 hsw68
              replace FR := FR.tr0 f69
              replace G8 := G8.tr0 f69
              replace J24 := J24.tr0 f69
              replace hT : Tabs w68 := by first | exact hT.es hES f69 | exact hT.fr f69 (by intro c hc hm; simp at hm)
              replace hES := hES.fr0 f69
              refine ⟨hES.cell, ?_⟩
              refine DK.take 0 rfl (by kernel_rfl) (by kernel_rfl) (by kernel_rfl) rfl rfl (fun wq sq => Y.move) ?_
              refine DK.take 1 rfl (by kernel_rfl) (by kernel_rfl) (by kernel_rfl) rfl rfl (fun wq sq => Y.nil rfl) ?_
              refine DK.take 2 rfl (by kernel_rfl) (by kernel_rfl) (by kernel_rfl) rfl rfl (fun wq sq => Y.field F.fd164_0 rfl) ?_
              refine DK.take 3 rfl (by kernel_rfl) (by kernel_rfl) (by kernel_rfl) rfl rfl (fun wq sq => Y.load F.sc161 rfl sq) ?_
              refine DK.take 4 rfl (by kernel_rfl) (by kernel_rfl) (by kernel_rfl) rfl rfl (fun wq sq => Y.move) ?_
              refine DK.take 5 rfl (by kernel_rfl) (by kernel_rfl) (by kernel_rfl) rfl rfl (fun wq sq => Y.shrN (k := .u8) (k' := .u64) (m := 4) (a := s[i].toNat) (c := s[i].toNat / 16) rfl rfl (by decide) rfl) ?_
              refine DK.take 6 rfl (by kernel_rfl) (by kernel_rfl) (by kernel_rfl) rfl rfl (fun wq sq => Y.strIxV (i := s[i].toNat / 16) Tryz.underlying9 rfl rfl rfl (hex_at (s[i].toNat / 16) (by omega))) ?_
              refine DK.take 7 rfl (by kernel_rfl) (by kernel_rfl) (by kernel_rfl) rfl rfl (fun wq sq => Y.nilI rfl) ?_
              refine DK.take 8 rfl (by kernel_rfl) (by kernel_rfl) (by kernel_rfl) rfl rfl (fun wq sq => Y.move) ?_
              refine DK.pick [9] (by kernel_rfl) (by simp) (fun ip hip => ?_)
              obtain rfl := List.mem_singleton.1 hip
              refine ⟨_, rfl, ?_⟩
              refine DL.invoke rfl rfl rfl rfl (hmWB _ _) (hES.wbyte (c := hexd (s[i].toNat / 16)) (by first | omega | (simp only [List.length_append, List.length_cons, List.length_nil]; omega))) ?_
              rintro _ w73 f74 ⟨X70, hE72, hs71⟩
              have xFR' := xFR.step FR.size hs71
              replace FR := FR.put f74 xFR
              replace xFR := xFR'
              have xG8' := xG8.step G8.size hs71
              replace G8 := G8.put f74 xG8
              replace xG8 := xG8'
              have xJ24' := xJ24.step J24.size hs71
              replace J24 := J24.put f74 xJ24
              replace xJ24 := xJ24'
              replace hT : Tabs w73 := by first | exact hT.es hES f74 | exact hT.fr f74 (by intro c hc hm; simp at hm)
              replace hES := hE72
              refine DL.nil ⟨hES.cell, ?_⟩
              refine DK.done (by kernel_rfl) ?_
              show DC _ _ _ _ _ _
              refine DC.heldS (fun w => w.cell? ⟨be, 0, none⟩ = some (.iface 157 (.pointer (some ⟨b, 0, none⟩)))) F.mixed ?_
              intro w75 f76 hsw75
              replace FR := FR.tr0 f76
              replace G8 := G8.tr0 f76
              replace J24 := J24.tr0 f76
              replace hT : Tabs w75 := by first | exact hT.es hES f76 | exact hT.fr f76 (by intro c hc hm; simp at hm)
              replace hES := hES.fr0 f76
              refine ⟨hES.cell, ?_⟩
              refine DK.take 0 rfl (by kernel_rfl) (by kernel_rfl) (by kernel_rfl) rfl rfl (fun wq sq => Y.move) ?_
              refine DK.take 1 rfl (by kernel_rfl) (by kernel_rfl) (by kernel_rfl) rfl rfl (fun wq sq => Y.nil rfl) ?_
              refine DK.take 2 rfl (by kernel_rfl) (by kernel_rfl) (by kernel_rfl) rfl rfl (fun wq sq => Y.field F.fd164_0 rfl) ?_
              refine DK.take 3 rfl (by kernel_rfl) (by kernel_rfl) (by kernel_rfl) rfl rfl (fun wq sq => Y.load F.sc161 rfl sq) ?_
              refine DK.take 4 rfl (by kernel_rfl) (by kernel_rfl) (by kernel_rfl) rfl rfl (fun wq sq => Y.move) ?_
              refine DK.take 5 rfl (by kernel_rfl) (by kernel_rfl) (by kernel_rfl) rfl rfl (fun wq sq => Y.andN (k := .u8) (a := s[i].toNat) (b := 15) rfl rfl hu8 (by decide) (and15 s[i])) ?_
              refine DK.take 6 rfl (by kernel_rfl) (by kernel_rfl) (by kernel_rfl) rfl rfl (fun wq sq => Y.strIxV (i := s[i].toNat % 16) Tryz.underlying9 rfl rfl rfl (hex_at (s[i].toNat % 16) (by omega))) ?_
              refine DK.take 7 rfl (by kernel_rfl) (by kernel_rfl) (by kernel_rfl) rfl rfl (fun wq sq => Y.nilI rfl) ?_
              refine DK.take 8 rfl (by kernel_rfl) (by kernel_rfl) (by kernel_rfl) rfl rfl (fun wq sq => Y.move) ?_
              refine DK.pick [9] (by kernel_rfl) (by simp) (fun ip hip => ?_)
              obtain rfl := List.mem_singleton.1 hip
              refine ⟨_, rfl, ?_⟩
              refine DL.invoke rfl rfl rfl rfl (hmWB _ _) (hES.wbyte (c := hexd (s[i].toNat % 16)) (by first | omega | (simp only [List.length_append, List.length_cons, List.length_nil]; omega))) ?_
              rintro _ w80 f81 ⟨X77, hE79, hs78⟩
              have xFR' := xFR.step FR.size hs78
              replace FR := FR.put f81 xFR
              replace xFR := xFR'
              have xG8' := xG8.step G8.size hs78
              replace G8 := G8.put f81 xG8
              replace xG8 := xG8'
              have xJ24' := xJ24.step J24.size hs78
              replace J24 := J24.put f81 xJ24
              replace xJ24 := xJ24'
              replace hT : Tabs w80 := by first | exact hT.es hES f81 | exact hT.fr f81 (by intro c hc hm; simp at hm)
              replace hES := hE79
              refine DL.nil ⟨hES.cell, ?_⟩
              refine DK.done (by kernel_rfl) ?_
              have e80 : ¬ s[i] = 34 := u8_ne (n := 34) (by decide) c80
              have e87 : ¬ s[i] = 92 := u8_ne (n := 92) (by decide) c87
              have e94 : ¬ s[i] = 8 := u8_ne (n := 8) (by decide) c94
              have e101 : ¬ s[i] = 12 := u8_ne (n := 12) (by decide) c101
              have e108 : ¬ s[i] = 10 := u8_ne (n := 10) (by decide) c108
              have e115 : ¬ s[i] = 13 := u8_ne (n := 13) (by decide) c115
              have e122 : ¬ s[i] = 9 := u8_ne (n := 9) (by decide) c122
              have hesc : escJ s[i] = [92, 117, 48, 48, hexd (s[i].toNat / 16), hexd (s[i].toNat % 16)] := by
               unfold escJ
               rw [if_neg e80, if_neg e87, if_neg e108, if_neg e122, if_neg e115, if_neg e94, if_neg e101, if_pos]
               rcases hcs with h | h | h | h
               ·exact Or.inl h
               ·exact absurd h e80
               ·exact absurd h e87
               ·exact Or.inr h
              refine ⟨X77, ⟨rfl, rfl, rfl, rfl, rfl⟩, J24, hES.cast ?_, xJ24, hT⟩
              rw [escT_succ hi, hesc]; simp only [List.append_assoc, List.cons_append, List.nil_append]
      ·rintro X10 e0 w25 ⟨f26, hE10, hs10, hT10⟩
       have xFR' := xFR.step FR.size hs10
       replace FR := FR.put f26 xFR
       replace xFR := xFR'
       have xG8' := xG8.step G8.size hs10
       replace G8 := G8.put f26 xG8
       replace xG8 := xG8'
       replace hES := hE10
       have hT := hT10
       refine DC.seq ?_
       refine DC.region ?_
       refine DL.y rfl rfl (Y.move) ?_
       refine DL.y rfl rfl (Y.addI (c := ((i + 1 : Nat) : Int)) rfl rfl (by omega) (by omega) (by omega)) ?_
       refine DL.y rfl rfl (Y.assign) ?_
       refine DL.nil ?_
       show DC _ _ _ _ _ _
       refine DC.seq ?_
       refine DC.region ?_
       refine DL.y rfl rfl (Y.move) ?_
       refine DL.y rfl rfl (Y.assign) ?_
       refine DL.nil ?_
       show DC _ _ _ _ _ _
       refine DC.exit ?_
       exact ⟨(i + 1, i + 1, X10), ⟨G8, Nat.le_refl _, hi, hES, xG8, by rw [List.drop_of_length_le (by rw [List.length_take]; omega), List.append_nil], hvd1, hT⟩, by show s.size - (i + 1) < s.size - i; omega, rfl, rfl⟩
   ·have hne : s.data.toList.drop i ≠ [] := by rw [drop_cons hi]; simp
    have hr := rune_hi hne hvd (by rw [drop_cons hi]; show 128 ≤ s[i].toNat; omega)
    have hw : i + (Lib.decodeL (s.data.toList.drop i)).2 ≤ s.size := by have := hr.2.2.1; rw [List.length_drop] at this; omega
    refine DL.nil ?_
    show DC _ _ _ _ _ _
    refine DC.condF rfl ?_
    refine DC.skip ?_
    show DC _ _ _ _ _ _
    refine DC.seq ?_
    refine DC.region ?_
    refine DL.y rfl rfl (Y.move) ?_
    refine DL.y rfl rfl (Y.move) ?_
    refine DL.y rfl rfl (v := .string (s.extract i s.size)) (by rw [show s.extract i s.size = s.extract ((i : Int).toNat) s.size by rw [Int.toNat_natCast]]; exact Y.strL Tryz.underlying9 rfl rfl (by omega) (by omega)) ?_
    refine DL.call rfl rfl F.nm188 rfl (dec_any hi hT) ?_
    rintro _ w82 f83 rfl
    replace FR := FR.tr0 f83
    replace G8 := G8.tr0 f83
    replace hES := hES.fr0 f83
    replace hT : Tabs w82 := by first | exact hT.es hES f83 | exact hT.fr f83 (by intro c hc hm; simp at hm)
    refine DL.y rfl rfl (Y.move) ?_
    refine DL.y rfl rfl (Y.extract rfl rfl) ?_
    refine DL.y rfl rfl (Y.extract rfl rfl) ?_
    refine DL.y rfl rfl (Y.assign) ?_
    refine DL.y rfl rfl (Y.assign) ?_
    refine DL.nil ?_
    show DC _ _ _ _ _ _
    refine DC.seq ?_
    refine DC.seq ?_
    refine DC.region ?_
    refine DL.y rfl rfl (Y.move) ?_
    refine DL.if rfl rfl (Y.eq rfl rfl) (fun c139 => ?_) (fun c139 => ?_)
    ·refine DL.y rfl rfl (Y.move) ?_
     refine DL.y rfl rfl (Y.move) ?_
     refine DL.if rfl rfl (Y.eq rfl rfl) (fun c142 => ?_) (fun c142 => ?_)
     ·exact absurd ⟨by omega, by omega⟩ hr.1
     ·refine DL.y rfl rfl (Y.pickT rfl) ?_
      refine DL.nil ?_
      show DC _ _ _ _ _ _
      refine DC.condF rfl ?_
      refine DC.skip ?_
      show DC _ _ _ _ _ _
      refine DC.region ?_
      refine DL.y rfl rfl (Y.move) ?_
      refine DL.y rfl rfl (Y.move) ?_
      refine DL.y rfl rfl (Y.addI (c := ((i + (Lib.decodeL (s.data.toList.drop i)).2 : Nat) : Int)) rfl rfl (by omega) (by omega) (by omega)) ?_
      refine DL.y rfl rfl (Y.assign) ?_
      refine DL.nil ?_
      have htk : s.data.toList.take (i + (Lib.decodeL (s.data.toList.drop i)).2) = s.data.toList.take i ++ (s.data.toList.drop i).take (Lib.decodeL (s.data.toList.drop i)).2 := List.take_add
      exact ⟨(st, i + (Lib.decodeL (s.data.toList.drop i)).2, Xc), ⟨G8, by omega, hw, hES, xG8, by rw [htk, escT_app, hr.2.2.2.1, hE, List.drop_append_of_le_length (by rw [List.length_take]; omega), List.append_assoc], by rw [← List.drop_drop]; exact hr.2.2.2.2, hT⟩, by have := hr.2.1; show s.size - (i + (Lib.decodeL (s.data.toList.drop i)).2) < s.size - i; omega, rfl, rfl⟩
    ·refine DL.y rfl rfl (Y.move) ?_
     refine DL.skip rfl rfl ?_
     refine DL.skip rfl rfl ?_
     refine DL.y rfl rfl (Y.pickF rfl) ?_
     refine DL.nil ?_
     show DC _ _ _ _ _ _
     refine DC.condF rfl ?_
     refine DC.skip ?_
     show DC _ _ _ _ _ _
     refine DC.region ?_
     refine DL.y rfl rfl (Y.move) ?_
     refine DL.y rfl rfl (Y.move) ?_
     refine DL.y rfl rfl (Y.addI (c := ((i + (Lib.decodeL (s.data.toList.drop i)).2 : Nat) : Int)) rfl rfl (by omega) (by omega) (by omega)) ?_
     refine DL.y rfl rfl (Y.assign) ?_
     refine DL.nil ?_
     have htk : s.data.toList.take (i + (Lib.decodeL (s.data.toList.drop i)).2) = s.data.toList.take i ++ (s.data.toList.drop i).take (Lib.decodeL (s.data.toList.drop i)).2 := List.take_add
     exact ⟨(st, i + (Lib.decodeL (s.data.toList.drop i)).2, Xc), ⟨G8, by omega, hw, hES, xG8, by rw [htk, escT_app, hr.2.2.2.1, hE, List.drop_append_of_le_length (by rw [List.length_take]; omega), List.append_assoc], by rw [← List.drop_drop]; exact hr.2.2.2.2, hT⟩, by have := hr.2.1; show s.size - (i + (Lib.decodeL (s.data.toList.drop i)).2) < s.size - i; omega, rfl, rfl⟩
  ·have hie : i = s.size := by omega
   have hEw : escT s.data.toList = escT (s.data.toList.take st) ++ s.data.toList.drop st := by rw [hie, hsl0, List.take_length] at hE; exact hE
   refine DL.nil ?_
   show DC _ _ _ _ _ _
   refine DC.condF rfl ?_
   refine DC.exit ?_
   show DC _ _ _ _ _ _
   refine DC.seq ?_
   refine DC.seq ?_
   refine DC.region ?_
   refine DL.y rfl rfl (Y.move) ?_
   refine DL.y rfl rfl (Y.move) ?_
   refine DL.y rfl rfl (Y.lenStr Tryz.underlying9 rfl) ?_
   refine DL.if rfl rfl (Y.lt rfl rfl) (fun c173 => ?_) (fun c173 => ?_)
   ·refine DL.nil ?_
    show DC _ _ _ _ _ _
    refine DC.condT rfl ?_
    refine DC.heldS (fun w => w.cell? ⟨be, 0, none⟩ = some (.iface 157 (.pointer (some ⟨b, 0, none⟩)))) F.mixed ?_
    intro w84 f85 hsw84
    replace FR := FR.tr0 f85
    replace hES := hES.fr0 f85
    replace hT : Tabs w84 := by first | exact hT.es hES f85 | exact hT.fr f85 (by intro c hc hm; simp at hm)
    refine ⟨hES.cell, ?_⟩
    refine DK.take 0 rfl (by kernel_rfl) (by kernel_rfl) (by kernel_rfl) rfl rfl (fun wq sq => Y.move) ?_
    refine DK.take 1 rfl (by kernel_rfl) (by kernel_rfl) (by kernel_rfl) rfl rfl (fun wq sq => Y.nil rfl) ?_
    refine DK.take 2 rfl (by kernel_rfl) (by kernel_rfl) (by kernel_rfl) rfl rfl (fun wq sq => Y.field F.fd164_0 rfl) ?_
    refine DK.take 3 rfl (by kernel_rfl) (by kernel_rfl) (by kernel_rfl) rfl rfl (fun wq sq => Y.load F.sc161 rfl sq) ?_
    refine DK.take 4 rfl (by kernel_rfl) (by kernel_rfl) (by kernel_rfl) rfl rfl (fun wq sq => Y.move) ?_
    refine DK.take 5 rfl (by kernel_rfl) (by kernel_rfl) (by kernel_rfl) rfl rfl (fun wq sq => Y.move) ?_
    refine DK.take 6 rfl (by kernel_rfl) (by kernel_rfl) (by kernel_rfl) rfl rfl (fun wq sq => Y.strL Tryz.underlying9 rfl rfl (by omega) (by omega)) ?_
    refine DK.take 7 rfl (by kernel_rfl) (by kernel_rfl) (by kernel_rfl) rfl rfl (fun wq sq => Y.nilI rfl) ?_
    refine DK.take 8 rfl (by kernel_rfl) (by kernel_rfl) (by kernel_rfl) rfl rfl (fun wq sq => Y.move) ?_
    refine DK.pick [9] (by kernel_rfl) (by simp) (fun ip hip => ?_)
    obtain rfl := List.mem_singleton.1 hip
    refine ⟨_, rfl, ?_⟩
    refine DL.invoke rfl rfl rfl rfl (hmWS _ _) (hES.wstr (by rw [ext_tail, List.length_drop]; simp only [List.length_append, List.length_cons]; omega)) ?_
    rintro _ w89 f90 ⟨X86, hE88, hs87⟩
    have xFR' := xFR.step FR.size hs87
    replace FR := FR.put f90 xFR
    replace xFR := xFR'
    replace hT : Tabs w89 := by first | exact hT.es hES f90 | exact hT.fr f90 (by intro c hc hm; simp at hm)
    replace hES := hE88
    replace hES := hES.cast (l' := l ++ (34 :: escT s.data.toList)) (by rw [ext_tail, hEw]; simp)
    refine DL.nil ⟨hES.cell, ?_⟩
    refine DK.done (by kernel_rfl) ?_
    show DC _ _ _ _ _ _
    refine DC.region ?_
    refine DL.y rfl rfl (Y.move) ?_
    refine DL.y rfl rfl (Y.nil rfl) ?_
    refine DL.y rfl rfl (Y.field F.fd164_0 rfl) ?_
    refine DL.y rfl rfl (Y.load F.sc161 rfl hES.cell) ?_
    refine DL.invoke rfl rfl rfl rfl (hmWB _ _) (hES.wbyte (c := 34) (by first | omega | (simp only [List.length_append, List.length_cons, List.length_nil]; omega))) ?_
    rintro _ w94 f95 ⟨X91, hE93, hs92⟩
    have xFR' := xFR.step FR.size hs92
    replace FR := FR.put f95 xFR
    replace xFR := xFR'
    replace hT : Tabs w94 := by first | exact hT.es hES f95 | exact hT.fr f95 (by intro c hc hm; simp at hm)
    replace hES := hE93
    refine DL.nil ?_
    exact FinQ.end0 (Ret.mk FR ⟨rfl, _, hES.cast (by simp [qL]), xFR⟩)
   ·replace hES := hES.cast (l' := l ++ (34 :: escT s.data.toList)) (by rw [show st = s.data.toList.length by omega, List.take_length])
    refine DL.nil ?_
    show DC _ _ _ _ _ _
    refine DC.condF rfl ?_
    refine DC.skip ?_
    show DC _ _ _ _ _ _
    refine DC.region ?_
    refine DL.y rfl rfl (Y.move) ?_
    refine DL.y rfl rfl (Y.nil rfl) ?_
    refine DL.y rfl rfl (Y.field F.fd164_0 rfl) ?_
    refine DL.y rfl rfl (Y.load F.sc161 rfl hES.cell) ?_
    refine DL.invoke rfl rfl rfl rfl (hmWB _ _) (hES.wbyte (c := 34) (by first | omega | (simp only [List.length_append, List.length_cons, List.length_nil]; omega))) ?_
    rintro _ w99 f100 ⟨X96, hE98, hs97⟩
    have xFR' := xFR.step FR.size hs97
    replace FR := FR.put f100 xFR
    replace xFR := xFR'
    replace hT : Tabs w99 := by first | exact hT.es hES f100 | exact hT.fr f100 (by intro c hc hm; simp at hm)
    replace hES := hE98
    refine DL.nil ?_
    exact FinQ.end0 (Ret.mk FR ⟨rfl, _, hES.cast (by simp [qL]), xFR⟩)

end Go.Proofs.YtmbleojlnaofjaaGreatDoor

/- Pairs of keys and values, sorted by their keys: plain facts. -/
namespace Go.Proofs.YtmbleojlnaofjaaGreatDoor
open Go Go.Sort
set_option linter.unusedVariables false
def ltF {n : Nat} (x y : Fin n) : Bool := decide (x < y)
theorem swo_ltF {n : Nat} [Inhabited (Fin n)] : SWO (ltF (n := n)) where
 irrefl x := by simp [ltF]
 trans x y z h1 h2 := by simp only [ltF, decide_eq_true_eq] at h1 h2 ⊢; omega
 ntrans x y z h1 h2 := by simp only [ltF, decide_eq_false_iff_not] at h1 h2 ⊢; omega
/-- All numbers below n, in some order, sorted: each stands at its own place. -/
theorem sorted_fin {n : Nat} [Inhabited (Fin n)] {d d' : Array (Fin n)} (hp : (d.toList.map (·.val)).Perm (List.range n)) (hP : PermIn 0 d.size d d') (hS : SortedIn ltF 0 d.size d') : d'.size = n ∧ ∀ i, i < n → (d'[i]!).val = i := by
 have hds : d.size = n := by have := hp.length_eq; simpa using this
 have hsz : d'.size = n := by rw [hP.1, hds]
 have hperm : d'.toList.Perm d.toList := by
  have h1 : (d'.extract 0 d.size) = d' := by rw [← hP.1]; simp
  have h2 : (d.extract 0 d.size) = d := by simp
  have := hP.2.2
  rwa [h1, h2] at this
 have hl : (d'.toList.map (·.val)) = List.range n := by
  refine List.Perm.eq_of_pairwise (le := fun a b => a ≤ b) (fun a b _ _ h1 h2 => by omega) ?_ ?_ ((hperm.map _).trans hp)
  ·rw [List.pairwise_iff_getElem]
   intro i j hi hj hij
   simp only [List.length_map, Array.length_toList] at hi hj
   have h3 := hS i j (by omega) hij (by omega)
   simp only [ltF, decide_eq_false_iff_not, getElem!_pos d' i (by omega), getElem!_pos d' j (by omega)] at h3
   simp only [List.getElem_map, Array.getElem_toList]
   omega
  ·exact List.pairwise_le_range
 refine ⟨hsz, fun i hi => ?_⟩
 have h4 : (d'.toList.map (·.val))[i]? = (List.range n)[i]? := by rw [hl]
 rw [getElem!_pos d' i (by omega)]
 simpa [hsz, hi] using h4
end Go.Proofs.YtmbleojlnaofjaaGreatDoor

/-
  DERIVED: THE SHELF's CONTRACTS AT THIS DUMP, IN PLAIN WORDS (tools/lay-plain.mjs out of 'TryzShelfSl.lean', which tools/lay-shelf.mjs wrote): THE SAME DECLARATIONS UNDER THE SAME NAMES: 'import', 'namespace', 'open', 'def', 'theorem' AND NOTHING ELSE: no command of the shelf's: FOR A HAND-IN. Each laying: the table of numbers ('.._ren') and one theorem, a field a fact of the dump's own or the kernel's comparison; each contract: ONE APPLICATION.
-/
namespace Go.Proofs
open Go.Shelf
def Tryz.laysSl_ren : Go.Shelf.Ren := ⟨fun | 6 => 189 | 10 => 201 | 11 => 202 | 12 => 203 | 13 => 165 | 14 => 204 | 24 => 182 | 25 => 183 | 26 => 225 | 27 => 226 | 28 => 227 | 29 => 228 | 30 => 229 | 31 => 230 | 32 => 231 | 33 => 232 | 34 => 242 | 35 => 243 | 36 => 244 | 37 => 245 | 38 => 246 | 39 => 247 | n => n, fun | 20 => 20 | 26 => 120 | 35 => 221 | 0 => 0 | 37 => 223 | 3 => 3 | 41 => 63 | 44 => 228 | 49 => 193 | 51 => 93 | 4 => 4 | 54 => 252 | 53 => 251 | 58 => 73 | 5 => 5 | 9 => 9 | 60 => 261 | 64 => 209 | 66 => 264 | 67 => 230 | 17 => 17 | 32 => 218 | 33 => 219 | 82 => 277 | 12 => 12 | 75 => 271 | 76 => 272 | 77 => 273 | 78 => 183 | 79 => 274 | 80 => 275 | n => n, fun | n => n⟩
theorem Tryz.laysSl : Go.Proofs.LaysGg.n6 Tryz.prog Tryz.laysSl_ren := {
 mixed := by kernel_rfl
 f6 := Tryz.func189.trans (congrArg some (by kernel_rfl))
 f10 := Tryz.func201.trans (congrArg some (by kernel_rfl))
 f11 := Tryz.func202.trans (congrArg some (by kernel_rfl))
 f12 := Tryz.func203.trans (congrArg some (by kernel_rfl))
 f13 := Tryz.func165.trans (congrArg some (by kernel_rfl))
 f14 := Tryz.func204.trans (congrArg some (by kernel_rfl))
 f24 := Tryz.func182.trans (congrArg some (by kernel_rfl))
 f25 := Tryz.func183.trans (congrArg some (by kernel_rfl))
 f26 := Tryz.func225.trans (congrArg some (by kernel_rfl))
 f27 := Tryz.func226.trans (congrArg some (by kernel_rfl))
 f28 := Tryz.func227.trans (congrArg some (by kernel_rfl))
 f29 := Tryz.func228.trans (congrArg some (by kernel_rfl))
 f30 := Tryz.func229.trans (congrArg some (by kernel_rfl))
 f31 := Tryz.func230.trans (congrArg some (by kernel_rfl))
 f32 := Tryz.func231.trans (congrArg some (by kernel_rfl))
 f33 := Tryz.func232.trans (congrArg some (by kernel_rfl))
 f34 := Tryz.func242.trans (congrArg some (by kernel_rfl))
 f35 := Tryz.func243.trans (congrArg some (by kernel_rfl))
 f36 := Tryz.func244.trans (congrArg some (by kernel_rfl))
 f37 := Tryz.func245.trans (congrArg some (by kernel_rfl))
 f38 := Tryz.func246.trans (congrArg some (by kernel_rfl))
 f39 := Tryz.func247.trans (congrArg some (by kernel_rfl))
 t0 := Tryz.underlying0
 a0 := Tryz.isAgg0
 z0 := Tryz.sizeOf0
 v0 := Tryz.zeroValue0
 i0 := by kernel_rfl
 t3 := Tryz.underlying3
 a3 := Tryz.isAgg3
 z3 := Tryz.sizeOf3
 v3 := Tryz.zeroValue3
 i3 := by kernel_rfl
 t4 := Tryz.underlying4
 a4 := Tryz.isAgg4
 z4 := Tryz.sizeOf4
 v4 := Tryz.zeroValue4
 i4 := by kernel_rfl
 t5 := Tryz.underlying5
 a5 := Tryz.isAgg5
 z5 := Tryz.sizeOf5
 v5 := Tryz.zeroValue5
 i5 := by kernel_rfl
 t9 := Tryz.underlying9
 a9 := Tryz.isAgg9
 z9 := Tryz.sizeOf9
 v9 := Tryz.zeroValue9
 i9 := by kernel_rfl
 t12 := Tryz.underlying12
 a12 := Tryz.isAgg12
 z12 := Tryz.sizeOf12
 v12 := Tryz.zeroValue12
 i12 := by kernel_rfl
 t17 := Tryz.underlying17
 a17 := Tryz.isAgg17
 z17 := Tryz.sizeOf17
 v17 := Tryz.zeroValue17
 i17 := by kernel_rfl
 t20 := Tryz.underlying20
 a20 := Tryz.isAgg20
 z20 := Tryz.sizeOf20
 v20 := Tryz.zeroValue20
 i20 := by kernel_rfl
 t26 := Tryz.underlying120
 a26 := Tryz.isAgg120
 z26 := Tryz.sizeOf120
 v26 := Tryz.zeroValue120
 i26 := by kernel_rfl
 t32 := Tryz.underlying218
 a32 := Tryz.isAgg218
 z32 := Tryz.sizeOf218
 v32 := Tryz.zeroValue218
 i32 := by kernel_rfl
 t33 := Tryz.underlying219
 a33 := Tryz.isAgg219
 z33 := Tryz.sizeOf219
 v33 := Tryz.zeroValue219
 i33 := by kernel_rfl
 t35 := Tryz.underlying221
 a35 := Tryz.isAgg221
 z35 := Tryz.sizeOf221
 v35 := Tryz.zeroValue221
 i35 := by kernel_rfl
 t37 := Tryz.underlying223
 a37 := Tryz.isAgg223
 z37 := Tryz.sizeOf223
 v37 := Tryz.zeroValue223
 i37 := by kernel_rfl
 t41 := Tryz.underlying63
 a41 := Tryz.isAgg63
 z41 := Tryz.sizeOf63
 v41 := Tryz.zeroValue63
 i41 := by kernel_rfl
 t44 := Tryz.underlying228
 a44 := Tryz.isAgg228
 z44 := Tryz.sizeOf228
 v44 := Tryz.zeroValue228
 i44 := by kernel_rfl
 t49 := Tryz.underlying193
 a49 := Tryz.isAgg193
 z49 := Tryz.sizeOf193
 v49 := Tryz.zeroValue193
 i49 := by kernel_rfl
 t51 := Tryz.underlying93
 a51 := Tryz.isAgg93
 z51 := Tryz.sizeOf93
 v51 := Tryz.zeroValue93
 i51 := by kernel_rfl
 t53 := Tryz.underlying251
 a53 := Tryz.isAgg251
 z53 := Tryz.sizeOf251
 v53 := Tryz.zeroValue251
 i53 := by kernel_rfl
 t54 := Tryz.underlying252
 a54 := Tryz.isAgg252
 z54 := Tryz.sizeOf252
 v54 := Tryz.zeroValue252
 i54 := by kernel_rfl
 t58 := Tryz.underlying73
 a58 := Tryz.isAgg73
 z58 := Tryz.sizeOf73
 v58 := Tryz.zeroValue73
 i58 := by kernel_rfl
 t60 := Tryz.underlying261
 a60 := Tryz.isAgg261
 z60 := Tryz.sizeOf261
 v60 := Tryz.zeroValue261
 i60 := by kernel_rfl
 t64 := Tryz.underlying209
 a64 := Tryz.isAgg209
 z64 := Tryz.sizeOf209
 v64 := Tryz.zeroValue209
 i64 := by kernel_rfl
 t66 := Tryz.underlying264
 a66 := Tryz.isAgg264
 z66 := Tryz.sizeOf264
 v66 := Tryz.zeroValue264
 i66 := by kernel_rfl
 t67 := Tryz.underlying230
 a67 := Tryz.isAgg230
 z67 := Tryz.sizeOf230
 v67 := Tryz.zeroValue230
 i67 := by kernel_rfl
 t75 := Tryz.underlying271
 a75 := Tryz.isAgg271
 z75 := Tryz.sizeOf271
 v75 := Tryz.zeroValue271
 i75 := by kernel_rfl
 t76 := Tryz.underlying272
 a76 := Tryz.isAgg272
 z76 := Tryz.sizeOf272
 v76 := Tryz.zeroValue272
 i76 := by kernel_rfl
 t77 := Tryz.underlying273
 a77 := Tryz.isAgg273
 z77 := Tryz.sizeOf273
 v77 := Tryz.zeroValue273
 i77 := by kernel_rfl
 t78 := Tryz.underlying183
 a78 := Tryz.isAgg183
 z78 := Tryz.sizeOf183
 v78 := Tryz.zeroValue183
 i78 := by kernel_rfl
 t79 := Tryz.underlying274
 a79 := Tryz.isAgg274
 z79 := Tryz.sizeOf274
 v79 := Tryz.zeroValue274
 i79 := by kernel_rfl
 t80 := Tryz.underlying275
 a80 := Tryz.isAgg275
 z80 := Tryz.sizeOf275
 v80 := Tryz.zeroValue275
 i80 := by kernel_rfl
 t82 := Tryz.underlying277
 a82 := Tryz.isAgg277
 z82 := Tryz.sizeOf277
 v82 := Tryz.zeroValue277
 i82 := by kernel_rfl }
end Go.Proofs

/- The encoder's own call of sort.Slice. -/
namespace Go.Proofs.YtmbleojlnaofjaaGreatDoor
open Go Go.RowKit D Go.Deep Go.Sort Go.Lib Go.Shelf Go.Proofs
set_option linter.unusedVariables false
set_option linter.unusedSimpArgs false


noncomputable def kvT : TypeInfo := (Tryz.prog.info? 201).get (by kernel_rfl)
noncomputable def kvE : TypeInfo := (Tryz.prog.info? 203).get (by kernel_rfl)
theorem kvK (n : Nat) (h2 : 2 ≤ n) : Lib.swapperK n kvE 25 = 9 := by
 have a : kvE.hasPointers = true := by kernel_rfl
 have b : kvE.bytes = 32 := by kernel_rfl
 have c : (n == 0) = false := by simp; omega
 have d : (n == 1) = false := by simp; omega
 simp [Lib.swapperK, a, b, c, d]
theorem kvK0 : Lib.swapperK 0 kvE 25 = 1 := rfl
theorem kvK1 : Lib.swapperK 1 kvE 25 = 2 := rfl
theorem rise_dec {keys : List ByteArray} (hrise : ∀ i (h : i + 1 < keys.length), Op.bytesLess keys[i].toList keys[i + 1].toList = true) (x y : Fin keys.length) : Op.bytesLess keys[x].toList keys[y].toList = ltF x y := by
 have key : ∀ i j (hi : i < keys.length) (hj : j < keys.length), i < j → (keys[i]'hi).data.toList < (keys[j]'hj).data.toList := fun i j hi hj hij => by
  have h1 := rise_lt hrise (j - i - 1) i (by omega)
  simp only [show i + (j - i - 1) + 1 = j by omega] at h1
  rw [Go.Proofs.bytesLess_eq, decide_eq_true_eq, ByteArray.toList_eq, ByteArray.toList_eq] at h1
  exact h1
 unfold ltF
 rw [Go.Proofs.bytesLess_eq, ByteArray.toList_eq, ByteArray.toList_eq]
 refine decide_eq_decide.2 ⟨fun h => ?_, fun h => key _ _ _ _ h⟩
 rcases Nat.lt_trichotomy x.val y.val with h1 | h1 | h1
 ·exact h1
 ·have : x = y := Fin.ext h1
  subst this; exact absurd h (List.lt_irrefl _)
 ·exact absurd (List.lt_trans h (key _ _ _ _ h1)) (List.lt_irrefl _)
set_option maxHeartbeats 2000000 in
theorem kvLess (blk off Bs n : Nat) (W : World) (G : Nat → ByteArray) (hs : W.cell? ⟨Bs, 0, none⟩ = some (.slice (some ⟨blk, off, none⟩) n n))
  (hc : ∀ t, t < n → W.cell? ⟨blk, off + t * 2, none⟩ = some (.string (G t))) (i j : Nat) (hi : i < n) (hj : j < n) (_hsz : n < 4611686018427387904) :
  Calls Tryz.prog 190 #[.int .i64 i, .int .i64 j, .pointer (some ⟨Bs, 0, none⟩)] W fun e w' => e = .returned (.bool (Op.bytesLess (G i).toList (G j).toList)) ∧ ∃ q, w' = W.drewN q := by
 have ci := hc i hi
 have cj := hc j hj
 go_enter Tryz.func190, Tryz.ntmps190
 go_wp2
 go_quiet (fail)
 go_wp2
 go_ret
 exact ⟨rfl, nq, rfl⟩
def encKV (keys : List ByteArray) (xs : Nat → Value) (x : Fin keys.length) : List Value := [.string keys[x], xs x.val]
theorem fr_grow (w : World) (os : Array Obj) : Fr [] w (grow w os) := by
 refine ⟨rfl, rfl, rfl, ?_, fun i hi _ => ?_⟩
 ·show w.heap.size ≤ (w.heap ++ os).size
  simp
 ·show (w.heap ++ os)[i]? = _
  rw [Array.getElem?_append_left (by simpa using hi)]
theorem sort_kv {w : World} {blk Bs n : Nat} {cs : Array Value} {keys : List ByteArray} {xs : Nat → Value} {seen : List Nat} (hk : keys.length = n) (hb : w.heap[blk]? = some (.cells cs 203 (0, 0))) (hbox : w.heap[Bs]? = some (.cells #[.slice (some ⟨blk, 0, none⟩) n n] 201 (0, 0))) (hne : Bs ≠ blk)
  (hsl : ∀ x ∈ seen, x < keys.length) (hp : seen.Perm (List.range keys.length)) (h1 : ∀ i, i < n → (xs i).oneCell' = true) (hcs : ∀ j (h : j < seen.length), cs[j * 2]? = some (.string (keys.getD seen[j] default)) ∧ cs[j * 2 + 1]? = some (xs seen[j]))
  (hrise : ∀ i (h : i + 1 < keys.length), Op.bytesLess keys[i].toList keys[i + 1].toList = true) (hn : n ≤ 1000000) :
  Calls Tryz.prog 189 #[.iface 201 (.slice (some ⟨blk, 0, none⟩) n n), .func (.func 190) #[] #[.pointer (some ⟨Bs, 0, none⟩)]] w (Ret w [blk] fun v w' => v = .tuple #[] ∧ (∃ cur, w'.heap[blk]? = some (.cells cur 203 (0, 0))) ∧ ∀ i (h : i < keys.length), CellsAt w' blk (0 + i * 2) #[.string keys[i], xs i]) := by
 have hlt := lt_of_blk hb
 have hslen : seen.length = n := by have := hp.length_eq; simpa [hk] using this
 by_cases h2 : 2 ≤ n
 ·haveI : Inhabited (Fin keys.length) := ⟨⟨0, by omega⟩⟩
  obtain ⟨d, hd⟩ : ∃ d : Array (Fin keys.length), d.toList.map (·.val) = seen := ⟨(seen.attach.map fun x => (⟨x.1, hsl x.1 x.2⟩ : Fin keys.length)).toArray, by simp⟩
  have hdz : d.size = n := by have := congrArg List.length hd; simpa [hslen] using this
  have hdj : ∀ j (h : j < n), (d[j]!).val = seen[j]'(by omega) := fun j h => by
   have h3 : (d.toList.map (·.val))[j]? = seen[j]? := by rw [hd]
   rw [getElem!_pos d j (by omega)]
   simpa [hdz, h, hslen] using h3
  have hF : ∀ x, (encKV keys xs x).length = 2 := fun _ => rfl
  have hH : HoldsK (encKV keys xs) 2 w blk 0 d := by
   intro t ht
   have ht2 : t < n * 2 := by simpa [hdz] using ht
   refine ⟨?_, by simp [World.frozen?, hb]⟩
   rw [get_flatK _ _ _ t (by simpa [hdz] using ht2), Nat.zero_add]
   refine cell_of_blk hb ?_
   have hq : t / 2 < n := by omega
   have hc := hcs (t / 2) (by omega)
   have hx := hdj (t / 2) hq
   have hg : keys.getD (seen[t / 2]'(by omega)) default = keys[d[t / 2]!] := by
    rw [← hx]; simp [List.getD_eq_getElem?_getD]
   rcases Nat.mod_two_eq_zero_or_one t with hm | hm
   ·have e : t = t / 2 * 2 := by omega
    rw [hm]
    have := hc.1
    rw [← e, hg] at this
    rw [this]; rfl
   ·have e : t = t / 2 * 2 + 1 := by omega
    rw [hm]
    have := hc.2
    rw [← e, ← hx] at this
    rw [this]; rfl
  have hBl : Bs < w.heap.size := lt_of_blk hbox
  have hless : LessReadsK Tryz.prog 190 #[.pointer (some ⟨Bs, 0, none⟩)] (encKV keys xs) 2 ltF blk 0 d.size w := by
   intro m os dk hs i j hi hj
   have e : sortWorldK (encKV keys xs) 2 w blk 0 m dk os = putRowK (encKV keys xs) 2 (grow (Sort.ahead w m) os) blk 0 dk := by
    unfold sortWorldK; rw [putRowK_grow _ _ (Sort.ahead w m) _ blk 0 _ hlt]
   have hHg : HoldsK (encKV keys xs) 2 (grow (Sort.ahead w m) os) blk 0 d := holdsK_grow _ _ _ _ blk 0 d hlt (holdsK_ahead _ _ _ _ _ _ _ hH)
   have hl := kvLess blk 0 Bs n (sortWorldK (encKV keys xs) 2 w blk 0 m dk os) (fun t => keys[dk[t]!]) ?_ (fun t ht => ?_) i j (by omega) (by omega) (by omega)
   ·rw [← rise_dec hrise]; exact hl
   ·rw [e, cell?_putRowK_other _ _ _ blk 0 dk _ (by exact hne), cell?_grow _ _ _ (by exact hBl)]; exact cell_of_blk hbox rfl
   ·rw [e]; exact ((holdsK_putRowK _ _ _ blk 0 d dk hHg hs).cell (i := t) (c := 0) (by omega) (by omega)).1
  have hsort := Any.sort_Slice_cells_sorted Tryz.laysSl 201 203 kvT kvE (by kernel_rfl) (by kernel_rfl) (by kernel_rfl) (by kernel_rfl) 25 (fun _ => by kernel_rfl) (encKV keys xs) 2 (fun _ => rfl) (by kernel_rfl) (fun _ => by kernel_rfl)
   (fun x v hv => by simp only [encKV, List.mem_cons, List.not_mem_nil, or_false] at hv; rcases hv with rfl | rfl; rfl; exact h1 _ (by have := x.2; omega)) ltF swo_ltF 190 #[.pointer (some ⟨Bs, 0, none⟩)]
   (enters_of Tryz.func190 (by kernel_rfl) rfl) blk 0 n d (by omega) (by omega) 224 (by rw [kvK _ (by omega)]; kernel_rfl) false
   (fun args W => run_callFunc_extern Tryz.func224 (by kernel_rfl) (by kernel_rfl) (by kernel_rfl) (e := Extern.ReflectliteSwapper.swap false) (by kernel_rfl) args W) w hless hH hlt
  rw [hdz] at hsort
  refine Calls.mono hsort fun e w' h => ?_
  obtain ⟨rfl, d', m, os, hP, hS, rfl⟩ := h
  rw [← hdz] at hP hS
  obtain ⟨hz', hi'⟩ := sorted_fin (hd ▸ hp) hP hS
  have hgr : (putRowK (encKV keys xs) 2 (Sort.ahead w m) blk 0 d').heap = w.heap.modify blk (onCells (putCells id 0 (flatK (encKV keys xs) 2 d'))) := rfl
  have hpl : blk < (putRowK (encKV keys xs) 2 (Sort.ahead w m) blk 0 d').heap.size := by rw [size_putRowK]; exact hlt
  have hHp : HoldsK (encKV keys xs) 2 (grow (putRowK (encKV keys xs) 2 (Sort.ahead w m) blk 0 d') os) blk 0 d' := holdsK_grow _ _ _ _ blk 0 d' hpl (holdsK_putRowK _ _ _ blk 0 d d' (holdsK_ahead _ _ _ _ _ _ _ hH) hP.1)
  refine Ret.mk ⟨rfl, rfl, rfl, ?_, fun i hi hs => ?_⟩ ⟨rfl, ⟨putCells id 0 (flatK (encKV keys xs) 2 d') cs, ?_⟩, fun i hi q hq => ?_⟩
  ·show w.heap.size ≤ ((putRowK (encKV keys xs) 2 (Sort.ahead w m) blk 0 d').heap ++ os).size
   rw [hgr]; simp
  ·show ((putRowK (encKV keys xs) 2 (Sort.ahead w m) blk 0 d').heap ++ os)[i]? = _
   have hne' : blk ≠ i := fun h => hs (by simp [h])
   rw [hgr, Array.getElem?_append_left (by simpa using hi), Array.getElem?_modify, if_neg hne']
  ·show ((putRowK (encKV keys xs) 2 (Sort.ahead w m) blk 0 d').heap ++ os)[blk]? = _
   rw [hgr, Array.getElem?_append_left (by simpa using hlt), Array.getElem?_modify, if_pos rfl, hb]
   rfl
  ·have hq2 : q < 2 := hq
   have hc := (hHp.cell (i := i) (c := q) (by omega) hq2).1
   have hv := hi' i hi
   have hfe : d'[i]! = (⟨i, hi⟩ : Fin keys.length) := Fin.ext hv
   rw [hfe] at hc
   rw [hc]
   rcases (by omega : q = 0 ∨ q = 1) with rfl | rfl <;> rfl
 ·have h01 : n = 0 ∨ n = 1 := by omega
  have tiny : ∀ (f : Nat), Tryz.prog.funcs.findIdx? (·.name == "internal/reflectlite" ++ ".Swapper$" ++ toString (Lib.swapperK n kvE 25)) = some f → Calls Tryz.prog 189 #[.iface 201 (.slice (some ⟨blk, 0, none⟩) n n), .func (.func 190) #[] #[.pointer (some ⟨Bs, 0, none⟩)]] w (Ret w [blk] fun v w' => v = .tuple #[] ∧ (∃ cur, w'.heap[blk]? = some (.cells cur 203 (0, 0))) ∧ ∀ i (h : i < keys.length), CellsAt w' blk (0 + i * 2) #[.string keys[i], xs i]) := fun f hf => by
   refine Calls.mono (Any.sort_Slice_tiny Tryz.laysSl 201 203 kvT kvE (by kernel_rfl) (by kernel_rfl) (by kernel_rfl) (by kernel_rfl) 25 (fun _ => by kernel_rfl) (some ⟨blk, 0, none⟩) n n (by omega) f hf (.func 190) #[] #[.pointer (some ⟨Bs, 0, none⟩)] w) fun e w' h => ?_
   obtain ⟨rfl, os, rfl⟩ := h
   have f0 := fr_grow w os
   refine Ret.mk (Fr.mono f0 (by simp)) ⟨rfl, ⟨cs, f0.blk0 hb⟩, fun i hi q hq => ?_⟩
   have hq2 : q < 2 := hq
   obtain rfl : i = 0 := by omega
   have h00 : seen[0]'(by omega) = 0 := by have := hsl _ (List.getElem_mem (show 0 < seen.length by omega)); omega
   have hc := hcs 0 (by omega)
   rw [h00] at hc
   have hg : keys.getD 0 default = keys[0] := by simp [List.getD_eq_getElem?_getD, hi]
   rw [hg] at hc
   rcases (by omega : q = 0 ∨ q = 1) with rfl | rfl
   ·exact cell_of_blk (f0.blk0 hb) hc.1
   ·exact cell_of_blk (f0.blk0 hb) hc.2
  rcases h01 with rfl | rfl
  ·exact tiny 216 (by rw [kvK0]; kernel_rfl)
  ·exact tiny 217 (by rw [kvK1]; kernel_rfl)

end Go.Proofs.YtmbleojlnaofjaaGreatDoor

/- make of a slice of structs; a struct stored at a place in a block. -/
namespace Go.Proofs.YtmbleojlnaofjaaGreatDoor.D
open Go Go.RowKit Go.Deep
set_option linter.unusedVariables false
set_option linter.unusedSectionVars false
set_option linter.unusedSimpArgs false
section
variable {P : Program} {n : Nat} {e : Env} {w : World} {ops rest : List Oper} {K : Env → World → Prop} {ty : TypeId} {pos : String} {af : Array Edge} {g : Option (Nat × Bool)}
theorem DL.makeSK {x y : Operand} {t el d m bytes sz : Nat} {z : Value} (hg : wantB ops e g = true) (hn : Nat.blt d n = true) (ht : P.underlying t = some (.slice el)) (hi : (P.info? el).map (fun i => (i.zero, i.size, i.bytes)) = some (some z, sz, bytes)) (hx : ev e x = .int .i64 (m : Int)) (hy : ev e y = .int .i64 (m : Int)) (hb : bytes * m ≤ 281474976710656) (hm : m ≤ 9223372036854775807)
  (k : ∀ b w' cs, Fr [] w w' → w.heap.size ≤ b → b < w'.heap.size → w'.heap[b]? = some (.cells cs el (0, 0)) → cs.size = m * sz → DL P n ops rest (upd e d (.slice (some ⟨b, 0, none⟩) m m)) w' K) :
  DL P n ops (⟨some d, .makeSlice t x y, ty, pos, af, g⟩ :: rest) e w K := by
 cases hq : P.info? el with
 | none => rw [hq] at hi; cases hi
 | some i =>
  rw [hq] at hi
  simp only [Option.map_some, Option.some.injEq, Prod.mk.injEq] at hi
  obtain ⟨h1, h2, h3⟩ := hi
  have hrun := run_make (P := P) (w := w) t el i z ht hq h1 .i64 .i64 (m : Int) (m : Int) (by omega) (by omega) (by rw [h3]; have h5 := Int.ofNat_le.2 hb; rw [Int.natCast_mul] at h5; exact h5) (by omega)
  rw [Int.toNat_natCast, h2] at hrun
  refine DL.run (v := .slice (some ⟨w.heap.size, 0, none⟩) m m) (w' := { w with heap := w.heap.push (.cells (madeCells z.cells (m * sz)) el) }) hg hn ?_ ?_
  ·simp only [execOp, hx, hy, Sem.run_bind, hrun, Result.andThen_ok, Sem.run_pure]
   rfl
  ·refine k w.heap.size _ (madeCells z.cells (m * sz)) (fr_alloc w _) (Nat.le_refl _) (by simp) (blk_alloc w _) ?_
   simp [madeCells]
/-- A struct stored at a place in a block. -/
theorem DL.storeK {x y : Operand} {t u : TypeId} {b o m : Nat} {old cs : Array Value} (hg : wantB ops e g = true) (ht : aggT P t m = true) (hx : ev e x = .pointer (some ⟨b, o, none⟩)) (hy : ev e y = .agg cs) (hs : cs.size = m) (h1 : cs.all (·.oneCell') = true)
  (hb : w.heap[b]? = some (.cells old u (0, 0))) (ho : o + m ≤ old.size)
  (k : ∀ w' cur, Fr [b] w w' → w'.heap.size = w.heap.size → w'.heap[b]? = some (.cells cur u (0, 0)) → cur.size = old.size → (∀ i, i < o ∨ o + m ≤ i → cur[i]? = old[i]?) → (∀ j, j < m → cur[o + j]? = cs[j]?) → DL P n ops rest e w' K) :
  DL P n ops (⟨none, .store t x y, ty, pos, af, g⟩ :: rest) e w K := by
 have hst := run_storeCells_at P b o u cs.toList 0 old w hb (by simpa [hs] using ho) (fun v hv => (Array.all_eq_true_iff_forall_mem.1 h1) v (by simpa using hv))
 simp only [Nat.add_zero, Array.length_toList, hs] at hst
 have hsz : ∃ i, P.info? t = some i ∧ cs.size = i.size := by
  unfold aggT at ht
  rw [Bool.and_eq_true] at ht
  cases hi : P.info? t with
  | none => rw [hi] at ht; cases ht.2
  | some i => rw [hi] at ht; exact ⟨i, rfl, by have := ht.2; simp at this; omega⟩
 obtain ⟨i, hi, hsi⟩ := hsz
 have hrun : (storeVar t ⟨b, o, none⟩ (.agg cs)).run P w = .ok () (w.setRow b (old.toList.take o ++ cs.toList ++ old.toList.drop (o + m)).toArray) := by
  simp [storeVar, sizeOf, typeInfo, hi, Value.cells, hsi, hst]
 have hlen : (old.toList.take o ++ cs.toList ++ old.toList.drop (o + m)).length = old.size := by
  simp only [List.length_append, List.length_take, List.length_drop, Array.length_toList]; omega
 have hlo : (old.toList.take o).length = o := by rw [List.length_take, Array.length_toList]; omega
 have hcl : cs.toList.length = m := by simpa using hs
 refine DL.runU (w' := w.setRow b (old.toList.take o ++ cs.toList ++ old.toList.drop (o + m)).toArray) hg rfl ?_ (k _ _ ⟨rfl, rfl, rfl, by simp [World.setRow], fun i _ hi => setRow_other w b i _ (by simpa using hi)⟩ (by simp [World.setRow]) (setRow_heap w b old _ u (0, 0) hb) (by simpa using hlen) (fun i hi => ?_) (fun j hj => ?_))
 ·clear hst
  generalize w.setRow b (old.toList.take o ++ cs.toList ++ old.toList.drop (o + m)).toArray = wR at hrun ⊢
  simp only [execOp, hx, hy, Instr.storeAt, Instr.sureAddr, Sem.run_bind, Sem.run_pure, Result.andThen_ok, hrun]
 ·rw [List.getElem?_toArray, List.append_assoc]
  rcases hi with hi | hi
  ·rw [List.getElem?_append_left (by omega), List.getElem?_take, if_pos hi]; simp
  ·rw [List.getElem?_append_right (by omega), List.getElem?_append_right (by omega), List.getElem?_drop, hlo, hcl, show o + m + (i - o - m) = i by omega]; simp
 ·rw [List.getElem?_toArray, List.append_assoc, List.getElem?_append_right (by omega), hlo, Nat.add_sub_cancel_left, List.getElem?_append_left (by omega)]; simp
theorem Y.mkFn1 {x : Operand} {fn : Fn} {dst : Option Tmp} {v : Value} (hx : ev e x = v) : Y P e ⟨dst, .makeFunc fn #[] #[x], ty, pos, af, g⟩ w (.func fn #[] #[v]) := by
 unfold Y; simp [execOp, Instr.makeFunc, hx]
end
end Go.Proofs.YtmbleojlnaofjaaGreatDoor.D

/- The walks of encodeArray and encodeObject. -/
namespace Go.Proofs.YtmbleojlnaofjaaGreatDoor
open Go Go.RowKit D Go.Deep Go.Sort Go.Proofs
set_option linter.unusedVariables false
set_option linter.unusedSimpArgs false


theorem nodup_bound : ∀ (n : Nat) (l : List Nat), l.Nodup → (∀ x ∈ l, x < n) → l.length ≤ n
 | 0, l, _, h => by cases l with | nil => simp | cons a l => exact absurd (h a (by simp)) (by omega)
 | n + 1, l, hn, h => by
  have h1 := nodup_bound n (l.erase n) (hn.erase n) (fun x hx => by
   have h2 := h x (List.mem_of_mem_erase hx)
   have h3 : x ≠ n := fun e => by subst e; exact (hn.not_mem_erase) hx
   omega)
  have h4 := List.length_erase (a := n) (l := l)
  split at h4 <;> omega
theorem left_mem {es : Array MapEntry} {seen : Array Nat} {en : MapEntry} (h : en ∈ (leftOf es seen).toList) : en ∈ es.toList ∧ en.born ∉ seen.toList := by
 unfold leftOf at h
 simp only [Array.toList_filter, List.mem_filter, Bool.not_eq_true', Array.mem_toList_iff] at h ⊢
 exact ⟨h.1, fun hm => by have := Array.contains_iff_mem.2 hm; rw [h.2] at this; cases this⟩
theorem left_none {es : Array MapEntry} {seen : Array Nat} (h : (leftOf es seen).size = 0) {en : MapEntry} (he : en ∈ es.toList) : en.born ∈ seen.toList := by
 unfold leftOf at h
 rcases Classical.em (en.born ∈ seen.toList) with h' | h'
 ·exact h'
 ·have : en ∈ es.filter (fun e => !seen.contains e.born) := by
   simp only [Array.mem_filter, Bool.not_eq_true']
   refine ⟨by simpa using he, ?_⟩
   cases hc : seen.contains en.born with
   | false => rfl
   | true => exact absurd (by simpa using Array.contains_iff_mem.1 hc) h'
  have h2 := Array.size_eq_zero_iff.1 h
  rw [h2] at this
  simp at this
/-- The encoder's walk at trees of at most m nodes. -/
def EncC (m : Nat) : Prop := ∀ (v : V) (x : Value) (B be b : Nat) (X : List Nat) (l : List UInt8) (w : World), v.nodes ≤ m → m ≤ 1000000 → v.bytes ≤ 1000000 → Good v → GV w (· < B) v x → ES w B be b X l → Tabs w → l.length + 80000000 * m ≤ 140737488355328 →
 Calls Tryz.prog 155 #[(.pointer (some ⟨be, 0, none⟩)), x] w (Ret w X fun r w' => r = .tuple #[] ∧ ∃ X', ES w' B be b X' (l ++ jL v) ∧ Sub X' X w)
theorem joins_len {es : List (List UInt8)} {n b : Nat} (h : tot es ≤ 60 * n + 6 * b) (hn : n ≤ 1000000) (hb : b ≤ 1000000) (i : Nat) : (joinT (es.take i)).length ≤ 66000000 := by
 have h1 := joinT_tot (es.take i)
 have h2 := tot_take es i
 omega
theorem join_all {es : List (List UInt8)} : joinT es = joinT (es.take es.length) := by rw [List.take_length]
theorem InL.fr' {S : List Nat} {w w' : World} {D : Nat → Prop} {a : Option Addr} {l : List V} {xs : Nat → Value} (h : InL w D a l xs) (f : Fr S w w') (hs : ∀ b, D b → b ∉ S) : InL w' D a l xs := h.fr f hs

theorem encodeArray_step (m : Nat) (ih : EncC m) {B be b c : Nat} {X : List Nat} {l : List UInt8} {list : List V} {a : Option Addr} {xs : Nat → Value} (w : World) (hm : V.nodesL list ≤ m) (hm2 : m ≤ 1000000) (hby : V.bytesL list ≤ 1000000) (hg : ∀ i (h : i < list.length), Good list[i])
  (hL : InL w (· < B) a list xs) (hES : ES w B be b X l) (hT : Tabs w) (hlen : l.length + 80000000 * (m + 1) ≤ 140737488355328) : Calls Tryz.prog 171 #[(.pointer (some ⟨be, 0, none⟩)), .slice a list.length c] w (Ret w X fun r w' => r = .tuple #[] ∧ ∃ X', ES w' B be b X' (l ++ (91 :: (joinT (jLs list) ++ [93]))) ∧ Sub X' X w) := by
 have xFR := Sub.refl X w
 have htot := jLs_tot list (fun i h => jL_len _ _ (Nat.le_refl _) (hg i h))
 have hjl := joins_len htot (by omega) hby
 have hll := length_le_nodesL list
 refine calls_of Tryz.func171 rfl rfl rfl rfl ?_
 have FR := Fr.refl X w
 refine DC.seq ?_
 refine DC.region ?_
 refine DL.y rfl rfl (Y.move) ?_
 refine DL.y rfl rfl (Y.nil rfl) ?_
 refine DL.y rfl rfl (Y.field F.fd164_0 rfl) ?_
 refine DL.y rfl rfl (Y.load F.sc161 rfl hES.cell) ?_
 refine DL.invoke rfl rfl rfl rfl (hmWB _ _) (hES.wbyte (c := 91) (by first | omega | (simp only [List.length_append, List.length_cons, List.length_nil]; omega))) ?_
 rintro _ w4 f5 ⟨X1, hE3, hs2⟩
 have xFR' := xFR.step FR.size hs2
 replace FR := FR.put f5 xFR
 replace xFR := xFR'
 replace hT : Tabs w4 := by first | exact hT.es hES f5 | exact hT.fr f5 (by intro c hc hm; first | (simp at hm; done) | (simp only [List.mem_cons, List.mem_singleton, List.not_mem_nil, or_false] at hm; have := hES.two; omega))
 replace hL := hL.fr f5 (by intro c hc hm; first | (simp at hm; done) | (have hx := (hES.ge c hm).1; omega) | (simp only [List.mem_cons, List.mem_singleton, List.not_mem_nil, or_false] at hm; omega))
 replace hES := hE3
 refine DL.nil ?_
 show DC _ _ _ _ _ _
 refine DC.seq ?_
 refine DC.seq ?_
 refine DC.region ?_
 refine DL.y rfl rfl (Y.move) ?_
 refine DL.y rfl rfl (Y.lenS Tryz.underlying80 rfl) ?_
 refine DL.y rfl rfl (Y.move) ?_
 refine DL.nil ?_
 show DC _ _ _ _ _ _
 refine DC.block ?_
 refine DC.loopE (σ := Nat × List Nat) [(4, 5), (13, 28)] [(0, (.pointer (some ⟨be, 0, none⟩))), (11, .slice a list.length c), (12, .int .i64 (list.length : Int))] (fun (i, _) => [(13, .int .i64 (i : Int))]) (fun sg wl => Fr X1 w4 wl ∧ (fun (i, Xc) wl => i ≤ list.length ∧ ES wl B be b Xc (l ++ (91 :: joinT ((jLs list).take i))) ∧ Sub Xc X1 w4 ∧ Tabs wl ∧ InL wl (· < B) a list xs) sg wl) (fun (i, _) => list.length - i) ((0, X1)) rfl ?_ ?_ ?_ ?_
 ·exact ⟨rfl, rfl, rfl⟩
 ·exact rfl
 ·exact ⟨Fr.refl _ _, Nat.zero_le _, hES.cast (by simp [joinT]), Sub.refl _ _, hT, hL⟩
 ·rintro e0 ⟨i, Xc⟩ j w6 ⟨f7, hi0, hEL, hsl, hTL, hLL⟩
  have xFR' := xFR.step FR.size hsl
  replace FR := FR.put f7 xFR
  replace xFR := xFR'
  have G8 := f7
  have xG8 := hsl
  replace hES := hEL
  have hT := hTL
  have hL := hLL
  have hji := hjl i
  refine DC.seq ?_
  refine DC.region ?_
  refine DL.if rfl rfl (Y.lt rfl rfl) (fun c14 => ?_) (fun c14 => ?_)
  ·have hi : i < list.length := by omega
   obtain ⟨ba, oa, rfl, hba, hca, _⟩ := hL.row i hi
   have hcx : w6.cell? ⟨ba, oa + i * 1, none⟩ = some (xs i) := by simpa using hca.cell 0 (v := xs i) (by simp)
   refine DL.nil ?_
   show DC _ _ _ _ _ _
   refine DC.seq ?_
   refine DC.condT rfl ?_
   refine DC.skip ?_
   show DC _ _ _ _ _ _
   refine DC.seq ?_
   refine DC.block ?_
   refine DC.seq ?_
   refine DC.region ?_
   refine DL.y rfl rfl (Y.move) ?_
   refine DL.y rfl rfl (Y.index F.sl80 rfl rfl (rfl) (hi)) ?_
   refine DL.y rfl rfl (Y.load F.sc20 rfl hcx) ?_
   refine DL.y rfl rfl (Y.assign) ?_
   refine DL.y rfl rfl (Y.assign) ?_
   refine DL.nil ?_
   show DC _ _ _ _ _ _
   refine DC.seq ?_
   refine DC.seq ?_
   refine DC.region ?_
   refine DL.y rfl rfl (Y.move) ?_
   refine DL.if rfl rfl (Y.gt rfl rfl) (fun c19 => ?_) (fun c19 => ?_)
   ·refine DL.nil ?_
    show DC _ _ _ _ _ _
    refine DC.condT rfl ?_
    refine DC.region ?_
    refine DL.y rfl rfl (Y.move) ?_
    refine DL.y rfl rfl (Y.nil rfl) ?_
    refine DL.y rfl rfl (Y.field F.fd164_0 rfl) ?_
    refine DL.y rfl rfl (Y.load F.sc161 rfl hES.cell) ?_
    refine DL.invoke rfl rfl rfl rfl (hmWB _ _) (hES.wbyte (c := 44) (by first | omega | (simp only [List.length_append, List.length_cons, List.length_nil]; omega))) ?_
    rintro _ w12 f13 ⟨X9, hE11, hs10⟩
    have xFR' := xFR.step FR.size hs10
    replace FR := FR.put f13 xFR
    replace xFR := xFR'
    have xG8' := xG8.step G8.size hs10
    replace G8 := G8.put f13 xG8
    replace xG8 := xG8'
    replace hT : Tabs w12 := by first | exact hT.es hES f13 | exact hT.fr f13 (by intro c hc hm; first | (simp at hm; done) | (simp only [List.mem_cons, List.mem_singleton, List.not_mem_nil, or_false] at hm; have := hES.two; omega))
    replace hL := hL.fr f13 (by intro c hc hm; first | (simp at hm; done) | (have hx := (hES.ge c hm).1; omega) | (simp only [List.mem_cons, List.mem_singleton, List.not_mem_nil, or_false] at hm; omega))
    replace hES := hE11
    refine DL.nil ?_
    show DC _ _ _ _ _ _
    refine DC.region ?_
    refine DL.y rfl rfl (Y.move) ?_
    refine DL.y rfl rfl (Y.move) ?_
    refine DL.call rfl rfl F.nm155 rfl (ih _ (xs i) B be b _ _ _ (by have := nodes_le hi; omega) hm2 (by have := bytes_le hi; omega) (hg i hi) (hL.gv i hi) hES hT (by first | omega | (simp only [List.length_append, List.length_cons, List.length_nil]; omega))) ?_
    rintro _ w17 f18 ⟨rfl, X14, hE16, hs15⟩
    have xFR' := xFR.step FR.size hs15
    replace FR := FR.put f18 xFR
    replace xFR := xFR'
    have xG8' := xG8.step G8.size hs15
    replace G8 := G8.put f18 xG8
    replace xG8 := xG8'
    replace hT : Tabs w17 := by first | exact hT.es hES f18 | exact hT.fr f18 (by intro c hc hm; first | (simp at hm; done) | (simp only [List.mem_cons, List.mem_singleton, List.not_mem_nil, or_false] at hm; have := hES.two; omega))
    replace hL := hL.fr f18 (by intro c hc hm; first | (simp at hm; done) | (have hx := (hES.ge c hm).1; omega) | (simp only [List.mem_cons, List.mem_singleton, List.not_mem_nil, or_false] at hm; omega))
    replace hES := hE16
    refine DL.nil ?_
    show DC _ _ _ _ _ _
    refine DC.region ?_
    refine DL.y rfl rfl (Y.addI (c := ((i + 1 : Nat) : Int)) rfl rfl (by omega) (by omega) (by omega)) ?_
    refine DL.y rfl rfl (Y.move) ?_
    refine DL.nil ?_
    exact ⟨(i + 1, X14), ⟨G8, hi, hES.cast (by rw [joinT_succ (by rw [jLs_len]; exact hi), jLs_get hi, if_neg (by omega)]; simp), xG8, hT, hL⟩, by show list.length - (i + 1) < list.length - i; omega, rfl⟩
   ·refine DL.nil ?_
    show DC _ _ _ _ _ _
    refine DC.condF rfl ?_
    refine DC.skip ?_
    show DC _ _ _ _ _ _
    refine DC.region ?_
    refine DL.y rfl rfl (Y.move) ?_
    refine DL.y rfl rfl (Y.move) ?_
    refine DL.call rfl rfl F.nm155 rfl (ih _ (xs i) B be b _ _ _ (by have := nodes_le hi; omega) hm2 (by have := bytes_le hi; omega) (hg i hi) (hL.gv i hi) hES hT (by first | omega | (simp only [List.length_append, List.length_cons, List.length_nil]; omega))) ?_
    rintro _ w22 f23 ⟨rfl, X19, hE21, hs20⟩
    have xFR' := xFR.step FR.size hs20
    replace FR := FR.put f23 xFR
    replace xFR := xFR'
    have xG8' := xG8.step G8.size hs20
    replace G8 := G8.put f23 xG8
    replace xG8 := xG8'
    replace hT : Tabs w22 := by first | exact hT.es hES f23 | exact hT.fr f23 (by intro c hc hm; first | (simp at hm; done) | (simp only [List.mem_cons, List.mem_singleton, List.not_mem_nil, or_false] at hm; have := hES.two; omega))
    replace hL := hL.fr f23 (by intro c hc hm; first | (simp at hm; done) | (have hx := (hES.ge c hm).1; omega) | (simp only [List.mem_cons, List.mem_singleton, List.not_mem_nil, or_false] at hm; omega))
    replace hES := hE21
    refine DL.nil ?_
    show DC _ _ _ _ _ _
    refine DC.region ?_
    refine DL.y rfl rfl (Y.addI (c := ((i + 1 : Nat) : Int)) rfl rfl (by omega) (by omega) (by omega)) ?_
    refine DL.y rfl rfl (Y.move) ?_
    refine DL.nil ?_
    exact ⟨(i + 1, X19), ⟨G8, hi, hES.cast (by rw [joinT_succ (by rw [jLs_len]; exact hi), jLs_get hi, if_pos (by omega)]; simp), xG8, hT, hL⟩, by show list.length - (i + 1) < list.length - i; omega, rfl⟩
  ·obtain rfl : i = list.length := by omega
   refine DL.nil ?_
   show DC _ _ _ _ _ _
   refine DC.seq ?_
   refine DC.condF rfl ?_
   refine DC.exit ?_
   show DC _ _ _ _ _ _
   refine DC.region ?_
   refine DL.y rfl rfl (Y.move) ?_
   refine DL.y rfl rfl (Y.nil rfl) ?_
   refine DL.y rfl rfl (Y.field F.fd164_0 rfl) ?_
   refine DL.y rfl rfl (Y.load F.sc161 rfl hES.cell) ?_
   refine DL.invoke rfl rfl rfl rfl (hmWB _ _) (hES.wbyte (c := 93) (by first | omega | (simp only [List.length_append, List.length_cons, List.length_nil]; omega))) ?_
   rintro _ w27 f28 ⟨X24, hE26, hs25⟩
   have xFR' := xFR.step FR.size hs25
   replace FR := FR.put f28 xFR
   replace xFR := xFR'
   replace hT : Tabs w27 := by first | exact hT.es hES f28 | exact hT.fr f28 (by intro c hc hm; first | (simp at hm; done) | (simp only [List.mem_cons, List.mem_singleton, List.not_mem_nil, or_false] at hm; have := hES.two; omega))
   replace hL := hL.fr f28 (by intro c hc hm; first | (simp at hm; done) | (have hx := (hES.ge c hm).1; omega) | (simp only [List.mem_cons, List.mem_singleton, List.not_mem_nil, or_false] at hm; omega))
   replace hES := hE26
   refine DL.nil ?_
   exact FinQ.end0 (Ret.mk FR ⟨rfl, _, hES.cast (by rw [List.take_of_length_le (by rw [jLs_len]; exact Nat.le_refl _)]; simp), xFR⟩)


theorem jMs_get' {ks : List ByteArray} {vs : List V} (hk : ks.length = vs.length) {i : Nat} (h : i < ks.length) : (jMs ks vs)[i]'(by rw [jMs_len ks vs hk]; exact h) = qL ks[i].data.toList ++ 58 :: jL (vs[i]'(by omega)) := jMs_get h (by omega) (by rw [jMs_len ks vs hk]; exact h)
theorem key_size {keys : List ByteArray} {i : Nat} (h : i < keys.length) : keys[i].size ≤ bytesK keys := key_le (List.getElem_mem h)
def GVs (w : World) (B : Nat) (vals : List V) (xs : Nat → Value) : Prop := ∀ (i : Nat) (h : i < vals.length), GV w (· < B) vals[i] (xs i)
theorem GVs.fr {S : List Nat} {w w' : World} {B : Nat} {vals : List V} {xs : Nat → Value} (h : GVs w B vals xs) (f : Fr S w w') (hs : ∀ b, b < B → b ∉ S) : GVs w' B vals xs := fun i hi => (h i hi).fr f hs
def KVs (w : World) (blk : Nat) (keys : List ByteArray) (xs : Nat → Value) : Prop := ∀ i (h : i < keys.length), CellsAt w blk (0 + i * 2) #[.string keys[i], xs i]
theorem KVs.fr {S : List Nat} {w w' : World} {blk : Nat} {keys : List ByteArray} {xs : Nat → Value} (h : KVs w blk keys xs) (f : Fr S w w') (hs : blk ∉ S) : KVs w' blk keys xs := fun i hi => (h i hi).fr f hs
theorem kvBuild (s : ByteArray) (x : Value) (h : x.oneCell' = true) : buildP Tryz.prog 203 [(0, .string s), (1, x)] = some #[.string s, x] := by
 cases x <;> first | (cases h; done) | kernel_rfl
theorem kv_one (s : ByteArray) (x : Value) (h : x.oneCell' = true) : (#[Value.string s, x]).all (·.oneCell') = true := by
 cases x <;> first | (cases h; done) | simp [Value.oneCell']
theorem els_kv : (Tryz.prog.info? 203).map (fun i => (i.zero, i.size, i.bytes)) = some (some (.agg #[.string ⟨#[]⟩, .nilIface]), 2, 32) := by kernel_rfl

set_option maxHeartbeats 1000000 in
theorem encodeObject_step (m : Nat) (ih : EncC m) {B be b r : Nat} {X : List Nat} {l : List UInt8} {keys : List ByteArray} {vals : List V} {es : Array MapEntry} {xs : Nat → Value} (w : World) (hm : V.nodesL vals ≤ m) (hm2 : m ≤ 1000000) (hby : V.bytesL vals + bytesK keys ≤ 1000000) (hg : ∀ i (h : i < vals.length), Good vals[i])
  (hkl : keys.length = vals.length) (hkval : ∀ i (h : i < keys.length), Lib.validD keys[i].data.toList = true) (hrise : ∀ i (h : i + 1 < keys.length), Op.bytesLess keys[i].toList keys[i + 1].toList = true)
  (hrB : r < B) (hmap : w.heap[r]? = some (.map es keys.length)) (hes : es.size = keys.length) (hent : ∀ (i : Nat) (h : i < keys.length), es[i]? = some ⟨.string keys[i], xs i, i⟩) (hgv : GVs w B vals xs) (hES : ES w B be b X l) (hT : Tabs w) (hlen : l.length + 80000000 * (m + 1) ≤ 140737488355328) :
  Calls Tryz.prog 172 #[(.pointer (some ⟨be, 0, none⟩)), .map (some r)] w (Ret w X fun r w' => r = .tuple #[] ∧ ∃ X', ES w' B be b X' (l ++ (123 :: (joinT (jMs keys vals) ++ [125]))) ∧ Sub X' X w) := by
 have xFR := Sub.refl X w
 have htot := jMs_tot keys vals hkl (fun i h => jL_len _ _ (Nat.le_refl _) (hg i h))
 have hjl := joins_len (es := jMs keys vals) (n := V.nodesL vals) (b := V.bytesL vals + bytesK keys) (by omega) (by omega) hby
 have hll := length_le_nodesL vals
 have hnk : keys.length ≤ 1000000 := by omega
 have h2B := hES.two
 have hBw : B < w.heap.size := by have h1 := hES.lo; have h2 := (hES.ge be hES.mem).2; omega
 have nx_r : r ∉ X := fun h => by have := (hES.ge _ h).1; omega
 have hold : ∀ x ∈ es.toList, x.born < keys.length := fun x hx => by
  obtain ⟨i, hi, he⟩ := List.getElem_of_mem hx
  have hi2 : i < es.size := by simpa using hi
  have h1 := hent i (by omega)
  rw [Array.getElem?_eq_getElem hi2] at h1
  have h2 : es[i] = x := by rw [← he]; simp
  rw [h2] at h1
  cases h1; show i < keys.length; omega
 have hnd : (es.toList.map (·.born)).Nodup := by
  have e : es.toList.map (·.born) = List.range keys.length := by
   apply List.ext_getElem
   ·simp [hes]
   ·intro i h1 h2
    have hi : i < keys.length := by simpa using h2
    have h3 := hent i hi
    rw [Array.getElem?_eq_getElem (by omega)] at h3
    simp only [Option.some.injEq] at h3
    simp [h3]
  rw [e]; exact List.nodup_range
 refine calls_of Tryz.func172 rfl rfl rfl rfl ?_
 have FR := Fr.refl X w
 refine DC.seq ?_
 refine DC.region ?_
 refine DL.y rfl rfl (Y.move) ?_
 refine DL.y rfl rfl (Y.nil rfl) ?_
 refine DL.y rfl rfl (Y.field F.fd164_0 rfl) ?_
 refine DL.y rfl rfl (Y.load F.sc161 rfl hES.cell) ?_
 refine DL.invoke rfl rfl rfl rfl (hmWB _ _) (hES.wbyte (c := 123) (by first | omega | (simp only [List.length_append, List.length_cons, List.length_nil]; omega))) ?_
 rintro _ w4 f5 ⟨X1, hE3, hs2⟩
 have xFR' := xFR.step FR.size hs2
 replace FR := FR.put f5 xFR
 replace xFR := xFR'
 replace hT : Tabs w4 := by first | exact hT.es hES f5 | exact hT.fr f5 (by intro c hc hm; first | (simp at hm; done) | (simp only [List.mem_cons, List.mem_singleton, List.not_mem_nil, or_false] at hm; have := hES.two; omega))
 replace hgv := hgv.fr f5 (by intro c hc hm; first | (simp at hm; done) | (have hx := (hES.ge c hm).1; omega) | (simp only [List.mem_cons, List.mem_singleton, List.not_mem_nil, or_false] at hm; omega))
 have nx_r' := hs2.not nx_r (lt_of_blk hmap)
 replace hmap := f5.blk hmap nx_r
 replace nx_r := nx_r'
 replace hES := hE3
 refine DL.nil ?_
 show DC _ _ _ _ _ _
 refine DC.seq ?_
 refine DC.region ?_
 refine DL.y rfl rfl (Y.move) ?_
 refine DL.y rfl rfl (hes ▸ Y.lenMap Tryz.underlying83 rfl hmap) ?_
 refine DL.makeSK rfl rfl Tryz.underlying201 els_kv rfl rfl (by omega) (by omega) ?_
 intro b17 w6 cs0 f7 lo17 hi17 hb17 hz0
 have nx_b17 : b17 ∉ X1 := fun h => by have := (hES.ge _ h).2; omega
 replace lo17 := Nat.le_trans FR.size lo17
 replace FR := FR.tr0 f7
 replace hT : Tabs w6 := by first | exact hT.es hES f7 | exact hT.fr f7 (by intro c hc hm; first | (simp at hm; done) | (simp only [List.mem_cons, List.mem_singleton, List.not_mem_nil, or_false] at hm; have := hES.two; omega))
 replace hgv := hgv.fr f7 (by intro c hc hm; first | (simp at hm; done) | (have hx := (hES.ge c hm).1; omega) | (simp only [List.mem_cons, List.mem_singleton, List.not_mem_nil, or_false] at hm; omega))
 replace hmap := f7.blk0 hmap
 replace hES := hES.fr0 f7
 refine DL.alloc rfl rfl F.z201 rfl ?_
 intro b4 w8 f9 lo4 hi4 hb4
 have nx_b4 : b4 ∉ X1 := fun h => by have := (hES.ge _ h).2; omega
 have lt_b17_b4 : b17 < b4 := Nat.lt_of_lt_of_le hi17 lo4
 replace lo4 := Nat.le_trans FR.size lo4
 replace FR := FR.tr0 f9
 replace hT : Tabs w8 := by first | exact hT.es hES f9 | exact hT.fr f9 (by intro c hc hm; first | (simp at hm; done) | (simp only [List.mem_cons, List.mem_singleton, List.not_mem_nil, or_false] at hm; have := hES.two; omega))
 replace hgv := hgv.fr f9 (by intro c hc hm; first | (simp at hm; done) | (have hx := (hES.ge c hm).1; omega) | (simp only [List.mem_cons, List.mem_singleton, List.not_mem_nil, or_false] at hm; omega))
 replace hmap := f9.blk0 hmap
 replace hES := hES.fr0 f9
 replace hb17 := f9.blk0 hb17
 replace hi17 := Nat.lt_of_lt_of_le hi17 f9.size
 refine DL.store rfl F.co201 F.in201 rfl rfl rfl hb4 rfl ?_
 intro w10 f11 hs12 hb4'
 replace FR := FR.put f11 (by intro i hi; simp only [List.mem_cons, List.mem_singleton, List.not_mem_nil, or_false] at hi; rcases hi with rfl; all_goals (first | (left; simp; done) | (right; omega)))
 replace hT : Tabs w10 := by first | exact hT.es hES f11 | exact hT.fr f11 (by intro c hc hm; first | (simp at hm; done) | (simp only [List.mem_cons, List.mem_singleton, List.not_mem_nil, or_false] at hm; have := hES.two; omega))
 replace hgv := hgv.fr f11 (by intro c hc hm; first | (simp at hm; done) | (have hx := (hES.ge c hm).1; omega) | (simp only [List.mem_cons, List.mem_singleton, List.not_mem_nil, or_false] at hm; omega))
 replace hmap := f11.blk hmap (by simp only [List.mem_cons, List.not_mem_nil, or_false, not_or]; omega)
 replace hES := hES.fr f11 (by intro i hi; simp only [List.mem_cons, List.mem_singleton, List.not_mem_nil, or_false] at hi; rcases hi with rfl; exact nx_b4)
 replace hb17 := f11.blk hb17 (by simp only [List.mem_cons, List.not_mem_nil, or_false, not_or]; omega)
 replace hi17 := Nat.lt_of_lt_of_le hi17 f11.size
 replace hi4 := Nat.lt_of_lt_of_le hi4 f11.size
 replace hb4 := hb4'
 refine DL.nil ?_
 show DC _ _ _ _ _ _
 refine DC.seq ?_
 refine DC.region ?_
 refine DL.y rfl rfl (Y.assign) ?_
 refine DL.nil ?_
 show DC _ _ _ _ _ _
 refine DC.seq ?_
 refine DC.seq ?_
 refine DC.region ?_
 refine DL.y rfl rfl (Y.move) ?_
 refine DL.rangeMap rfl rfl Tryz.underlying83 rfl hmap ?_
 intro b19 w13 f14 lo19 hi19 hb19
 have nx_b19 : b19 ∉ X1 := fun h => by have := (hES.ge _ h).2; omega
 have lt_b17_b19 : b17 < b19 := Nat.lt_of_lt_of_le hi17 lo19
 have lt_b4_b19 : b4 < b19 := Nat.lt_of_lt_of_le hi4 lo19
 replace lo19 := Nat.le_trans FR.size lo19
 replace FR := FR.tr0 f14
 replace hT : Tabs w13 := by first | exact hT.es hES f14 | exact hT.fr f14 (by intro c hc hm; first | (simp at hm; done) | (simp only [List.mem_cons, List.mem_singleton, List.not_mem_nil, or_false] at hm; have := hES.two; omega))
 replace hgv := hgv.fr f14 (by intro c hc hm; first | (simp at hm; done) | (have hx := (hES.ge c hm).1; omega) | (simp only [List.mem_cons, List.mem_singleton, List.not_mem_nil, or_false] at hm; omega))
 replace hmap := f14.blk0 hmap
 replace hES := hES.fr0 f14
 replace hb17 := f14.blk0 hb17
 replace hi17 := Nat.lt_of_lt_of_le hi17 f14.size
 replace hi4 := Nat.lt_of_lt_of_le hi4 f14.size
 replace hb4 := f14.blk0 hb4
 refine DL.nil ?_
 show DC _ _ _ _ _ _
 refine DC.block ?_
 refine DC.loop (σ := Nat × List Nat × Array Value) [(5, 7), (20, 32)] (fun (k, _, _) => [(5, .int .i64 (k : Int))]) (fun sg wl => Fr [b17, b19] w13 wl ∧ (fun (k, seen, cs) wl => k ≤ keys.length ∧ wl.heap[b19]? = some (.mapIter (some r) keys.length seen.toArray keys.length) ∧ wl.heap[b17]? = some (.cells cs 203 (0, 0)) ∧ cs.size = keys.length * 2 ∧ seen.length = k ∧ seen.Nodup ∧ (∀ x ∈ seen, x < keys.length) ∧ ∀ j (h : j < seen.length), cs[j * 2]? = some (.string (keys.getD seen[j] default)) ∧ cs[j * 2 + 1]? = some (xs seen[j])) sg wl) (fun (k, _, _) => keys.length - k) ((0, [], cs0)) rfl ?_ ?_ ?_
 ·exact rfl
 ·exact ⟨Fr.refl _ _, Nat.zero_le _, hb19, hb17, hz0, rfl, List.nodup_nil, (fun x hx => by cases hx), (fun j h => by cases h)⟩
 ·rintro ⟨k, seen, cs⟩ j w15 ⟨f16, hk0, hb19, hb17, hcz, hsk, hsn, hsl, hcj⟩
  replace FR := FR.put f16 (by intro i hi; simp only [List.mem_cons, List.mem_singleton, List.not_mem_nil, or_false] at hi; rcases hi with rfl | rfl; all_goals (first | (left; simp; done) | (right; omega)))
  replace hT : Tabs w15 := by first | exact hT.es hES f16 | exact hT.fr f16 (by intro c hc hm; first | (simp at hm; done) | (simp only [List.mem_cons, List.mem_singleton, List.not_mem_nil, or_false] at hm; have := hES.two; omega))
  replace hgv := hgv.fr f16 (by intro c hc hm; first | (simp at hm; done) | (have hx := (hES.ge c hm).1; omega) | (simp only [List.mem_cons, List.mem_singleton, List.not_mem_nil, or_false] at hm; omega))
  replace hmap := f16.blk hmap (by simp only [List.mem_cons, List.not_mem_nil, or_false, not_or]; omega)
  replace hES := hES.fr f16 (by intro i hi; simp only [List.mem_cons, List.mem_singleton, List.not_mem_nil, or_false] at hi; rcases hi with rfl | rfl; exact nx_b17; exact nx_b19)
  replace hi17 := Nat.lt_of_lt_of_le hi17 f16.size
  replace hi4 := Nat.lt_of_lt_of_le hi4 f16.size
  replace hb4 := f16.blk hb4 (by simp only [List.mem_cons, List.not_mem_nil, or_false, not_or]; omega)
  replace hi19 := Nat.lt_of_lt_of_le hi19 f16.size
  have G17 := f16
  have HG17 := Fr.refl [b17, b19] w15
  refine DC.seq ?_
  refine DC.region ?_
  refine DL.nextMap rfl rfl rfl hb19 hmap hold (fun hz => ?_) (fun en w18 hen f19 hs20 hb19' => ?_)
  ·refine DL.y rfl rfl (Y.extract rfl rfl) ?_
   refine DL.nil ?_
   show DC _ _ _ _ _ _
   refine DC.seq ?_
   refine DC.condF rfl ?_
   refine DC.exit ?_
   show DC _ _ _ _ _ _
   refine DC.seq ?_
   refine DC.region ?_
   have hkn : k = keys.length ∧ seen.Perm (List.range keys.length) := by
    have hall : ∀ i, i < keys.length → i ∈ seen := fun i hi => by
     have h1 := left_none hz (en := ⟨.string keys[i], xs i, i⟩) (by have := hent i hi; rw [← Array.getElem?_toList] at this; exact List.mem_of_getElem? this)
     simpa using h1
    have hp : seen.Perm (List.range keys.length) := (List.perm_ext_iff_of_nodup hsn List.nodup_range).2 (fun x => ⟨fun h => List.mem_range.2 (hsl x h), fun h => hall x (List.mem_range.1 h)⟩)
    exact ⟨by have := hp.length_eq; simp at this; omega, hp⟩
   obtain ⟨hkn, hperm⟩ := hkn
   refine DL.y rfl rfl (Y.loadB F.sc201 rfl hb4 rfl) ?_
   refine DL.y rfl rfl (Y.mkI F.if201) ?_
   refine DL.y rfl rfl (Y.mkFn1 rfl) ?_
   refine DL.call rfl rfl F.nm189 rfl (sort_kv (n := keys.length) (xs := xs) (seen := seen) rfl hb17 hb4 (by omega) hsl hperm (fun i h => (hgv i (by omega)).one) hcj hrise hnk) ?_
   rintro _ w20 f21 ⟨rfl, ⟨cur, hb17⟩, hkv⟩
   replace FR := FR.put f21 (by intro i hi; simp only [List.mem_cons, List.mem_singleton, List.not_mem_nil, or_false] at hi; rcases hi with rfl; all_goals (first | (left; simp; done) | (right; omega)))
   replace hT : Tabs w20 := by first | exact hT.es hES f21 | exact hT.fr f21 (by intro c hc hm; first | (simp at hm; done) | (simp only [List.mem_cons, List.mem_singleton, List.not_mem_nil, or_false] at hm; have := hES.two; omega))
   replace hgv := hgv.fr f21 (by intro c hc hm; first | (simp at hm; done) | (have hx := (hES.ge c hm).1; omega) | (simp only [List.mem_cons, List.mem_singleton, List.not_mem_nil, or_false] at hm; omega))
   replace hmap := f21.blk hmap (by simp only [List.mem_cons, List.not_mem_nil, or_false, not_or]; omega)
   replace hES := hES.fr f21 (by intro i hi; simp only [List.mem_cons, List.mem_singleton, List.not_mem_nil, or_false] at hi; rcases hi with rfl; exact nx_b17)
   replace hi17 := Nat.lt_of_lt_of_le hi17 f21.size
   replace hi4 := Nat.lt_of_lt_of_le hi4 f21.size
   replace hb4 := f21.blk hb4 (by simp only [List.mem_cons, List.not_mem_nil, or_false, not_or]; omega)
   replace hi19 := Nat.lt_of_lt_of_le hi19 f21.size
   replace hb19 := f21.blk hb19 (by simp only [List.mem_cons, List.not_mem_nil, or_false, not_or]; omega)
   replace hkv : KVs w20 b17 keys xs := hkv
   refine DL.nil ?_
   show DC _ _ _ _ _ _
   refine DC.seq ?_
   refine DC.seq ?_
   refine DC.region ?_
   refine DL.y rfl rfl (Y.loadB F.sc201 rfl hb4 rfl) ?_
   refine DL.y rfl rfl (Y.lenS Tryz.underlying201 rfl) ?_
   refine DL.y rfl rfl (Y.move) ?_
   refine DL.nil ?_
   show DC _ _ _ _ _ _
   refine DC.block ?_
   refine DC.loopE (σ := Nat × List Nat) [(8, 9), (39, 64)] [(0, (.pointer (some ⟨be, 0, none⟩))), (37, .slice (some ⟨b17, 0, none⟩) keys.length keys.length), (38, .int .i64 (keys.length : Int))] (fun (i, _) => [(39, .int .i64 (i : Int))]) (fun sg wl => Fr X1 w20 wl ∧ (fun (i, Xc) wl => i ≤ keys.length ∧ ES wl B be b Xc (l ++ (123 :: joinT ((jMs keys vals).take i))) ∧ Sub Xc X1 w20) sg wl) (fun (i, _) => keys.length - i) ((0, X1)) rfl ?_ ?_ ?_ ?_
   ·exact ⟨rfl, rfl, rfl⟩
   ·exact rfl
   ·exact ⟨Fr.refl _ _, Nat.zero_le _, hES.cast (by simp [joinT]), Sub.refl _ _⟩
   ·rintro e0 ⟨i, Xc⟩ j w22 ⟨f23, hi0, hEL, hsl2⟩
    have xFR' := xFR.step FR.size hsl2
    replace FR := FR.put f23 xFR
    replace xFR := xFR'
    replace hT : Tabs w22 := by first | exact hT.es hES f23 | exact hT.fr f23 (by intro c hc hm; first | (simp at hm; done) | (simp only [List.mem_cons, List.mem_singleton, List.not_mem_nil, or_false] at hm; have := hES.two; omega))
    replace hgv := hgv.fr f23 (by intro c hc hm; first | (simp at hm; done) | (have hx := (hES.ge c hm).1; omega) | (simp only [List.mem_cons, List.mem_singleton, List.not_mem_nil, or_false] at hm; omega))
    have nx_r' := hsl2.not nx_r (lt_of_blk hmap)
    replace hmap := f23.blk hmap nx_r
    replace nx_r := nx_r'
    replace hi17 := Nat.lt_of_lt_of_le hi17 f23.size
    replace hi4 := Nat.lt_of_lt_of_le hi4 f23.size
    have nx_b4' := hsl2.not nx_b4 (lt_of_blk hb4)
    replace hb4 := f23.blk hb4 nx_b4
    replace nx_b4 := nx_b4'
    replace hi19 := Nat.lt_of_lt_of_le hi19 f23.size
    have nx_b19' := hsl2.not nx_b19 (lt_of_blk hb19)
    replace hb19 := f23.blk hb19 nx_b19
    replace nx_b19 := nx_b19'
    replace hkv := hkv.fr f23 (by first | (simp; done) | exact nx_b17 | (simp only [List.mem_cons, List.mem_singleton, List.not_mem_nil, or_false, not_or]; omega))
    have nx_b17' := hsl2.not nx_b17 (lt_of_blk hb17)
    replace hb17 := f23.blk hb17 nx_b17
    replace nx_b17 := nx_b17'
    have G24 := f23
    have xG24 := hsl2
    replace hES := hEL
    have hji := hjl i
    refine DC.seq ?_
    refine DC.region ?_
    refine DL.if rfl rfl (Y.lt rfl rfl) (fun c40 => ?_) (fun c40 => ?_)
    ·have hi : i < keys.length := by omega
     have hiv : i < vals.length := by omega
     have hci := hkv i hi
     have hone := kv_one keys[i] (xs i) (hgv i hiv).one
     refine DL.nil ?_
     show DC _ _ _ _ _ _
     refine DC.seq ?_
     refine DC.condT rfl ?_
     refine DC.skip ?_
     show DC _ _ _ _ _ _
     refine DC.seq ?_
     refine DC.block ?_
     refine DC.seq ?_
     refine DC.region ?_
     refine DL.y rfl rfl (Y.move) ?_
     refine DL.y rfl rfl (Y.index F.sl201 rfl rfl (rfl) (hi)) ?_
     refine DL.y rfl rfl (Y.loadAn (cs := #[.string keys[i], xs i]) (m := 2) rfl F.ag203 rfl hci) ?_
     refine DL.alloc rfl rfl F.z203 rfl ?_
     intro b9 w25 f26 lo9 hi9 hb9
     have nx_b9 : b9 ∉ Xc := fun h => by have := (hES.ge _ h).2; omega
     have lt_b17_b9 : b17 < b9 := Nat.lt_of_lt_of_le hi17 lo9
     have lt_b4_b9 : b4 < b9 := Nat.lt_of_lt_of_le hi4 lo9
     have lt_b19_b9 : b19 < b9 := Nat.lt_of_lt_of_le hi19 lo9
     have lo9G24 := Nat.le_trans G24.size lo9
     replace lo9 := Nat.le_trans FR.size lo9
     replace FR := FR.tr0 f26
     replace G24 := G24.tr0 f26
     replace hT : Tabs w25 := by first | exact hT.es hES f26 | exact hT.fr f26 (by intro c hc hm; first | (simp at hm; done) | (simp only [List.mem_cons, List.mem_singleton, List.not_mem_nil, or_false] at hm; have := hES.two; omega))
     replace hgv := hgv.fr f26 (by intro c hc hm; first | (simp at hm; done) | (have hx := (hES.ge c hm).1; omega) | (simp only [List.mem_cons, List.mem_singleton, List.not_mem_nil, or_false] at hm; omega))
     replace hmap := f26.blk0 hmap
     replace hi17 := Nat.lt_of_lt_of_le hi17 f26.size
     replace hi4 := Nat.lt_of_lt_of_le hi4 f26.size
     replace hb4 := f26.blk0 hb4
     replace hi19 := Nat.lt_of_lt_of_le hi19 f26.size
     replace hb19 := f26.blk0 hb19
     replace hkv := hkv.fr f26 (by first | (simp; done) | exact nx_b17 | (simp only [List.mem_cons, List.mem_singleton, List.not_mem_nil, or_false, not_or]; omega))
     replace hb17 := f26.blk0 hb17
     replace hES := hES.fr0 f26
     refine DL.y rfl rfl (Y.assign) ?_
     refine DL.storeA (cs := #[.string keys[i], xs i]) rfl F.ag203 rfl rfl rfl hone hb9 rfl ?_
     intro w27 f28 hs29 hb9'
     replace FR := FR.put f28 (by intro i hi; simp only [List.mem_cons, List.mem_singleton, List.not_mem_nil, or_false] at hi; rcases hi with rfl; all_goals (first | (left; simp; done) | (right; omega)))
     replace G24 := G24.put f28 (by intro i hi; simp only [List.mem_cons, List.mem_singleton, List.not_mem_nil, or_false] at hi; rcases hi with rfl; all_goals (first | (left; simp; done) | (right; omega)))
     replace hT : Tabs w27 := by first | exact hT.es hES f28 | exact hT.fr f28 (by intro c hc hm; first | (simp at hm; done) | (simp only [List.mem_cons, List.mem_singleton, List.not_mem_nil, or_false] at hm; have := hES.two; omega))
     replace hgv := hgv.fr f28 (by intro c hc hm; first | (simp at hm; done) | (have hx := (hES.ge c hm).1; omega) | (simp only [List.mem_cons, List.mem_singleton, List.not_mem_nil, or_false] at hm; omega))
     replace hmap := f28.blk hmap (by simp only [List.mem_cons, List.not_mem_nil, or_false, not_or]; omega)
     replace hi17 := Nat.lt_of_lt_of_le hi17 f28.size
     replace hi4 := Nat.lt_of_lt_of_le hi4 f28.size
     replace hb4 := f28.blk hb4 (by simp only [List.mem_cons, List.not_mem_nil, or_false, not_or]; omega)
     replace hi19 := Nat.lt_of_lt_of_le hi19 f28.size
     replace hb19 := f28.blk hb19 (by simp only [List.mem_cons, List.not_mem_nil, or_false, not_or]; omega)
     replace hkv := hkv.fr f28 (by first | (simp; done) | exact nx_b17 | (simp only [List.mem_cons, List.mem_singleton, List.not_mem_nil, or_false, not_or]; omega))
     replace hb17 := f28.blk hb17 (by simp only [List.mem_cons, List.not_mem_nil, or_false, not_or]; omega)
     replace hES := hES.fr f28 (by intro i hi; simp only [List.mem_cons, List.mem_singleton, List.not_mem_nil, or_false] at hi; rcases hi with rfl; exact nx_b9)
     replace hi9 := Nat.lt_of_lt_of_le hi9 f28.size
     replace hb9 := hb9'
     refine DL.nil ?_
     show DC _ _ _ _ _ _
     refine DC.seq ?_
     refine DC.seq ?_
     refine DC.region ?_
     refine DL.y rfl rfl (Y.move) ?_
     refine DL.if rfl rfl (Y.gt rfl rfl) (fun c45 => ?_) (fun c45 => ?_)
     ·refine DL.nil ?_
      show DC _ _ _ _ _ _
      refine DC.condT rfl ?_
      refine DC.region ?_
      refine DL.y rfl rfl (Y.move) ?_
      refine DL.y rfl rfl (Y.nil rfl) ?_
      refine DL.y rfl rfl (Y.field F.fd164_0 rfl) ?_
      refine DL.y rfl rfl (Y.load F.sc161 rfl hES.cell) ?_
      refine DL.invoke rfl rfl rfl rfl (hmWB _ _) (hES.wbyte (c := 44) (by first | omega | (simp only [List.length_append, List.length_cons, List.length_nil]; omega))) ?_
      rintro _ w33 f34 ⟨X30, hE32, hs31⟩
      have xFR' := xFR.step FR.size hs31
      replace FR := FR.put f34 xFR
      replace xFR := xFR'
      have xG24' := xG24.step G24.size hs31
      replace G24 := G24.put f34 xG24
      replace xG24 := xG24'
      replace hT : Tabs w33 := by first | exact hT.es hES f34 | exact hT.fr f34 (by intro c hc hm; first | (simp at hm; done) | (simp only [List.mem_cons, List.mem_singleton, List.not_mem_nil, or_false] at hm; have := hES.two; omega))
      replace hgv := hgv.fr f34 (by intro c hc hm; first | (simp at hm; done) | (have hx := (hES.ge c hm).1; omega) | (simp only [List.mem_cons, List.mem_singleton, List.not_mem_nil, or_false] at hm; omega))
      have nx_r' := hs31.not nx_r (lt_of_blk hmap)
      replace hmap := f34.blk hmap nx_r
      replace nx_r := nx_r'
      replace hi17 := Nat.lt_of_lt_of_le hi17 f34.size
      replace hi4 := Nat.lt_of_lt_of_le hi4 f34.size
      have nx_b4' := hs31.not nx_b4 (lt_of_blk hb4)
      replace hb4 := f34.blk hb4 nx_b4
      replace nx_b4 := nx_b4'
      replace hi19 := Nat.lt_of_lt_of_le hi19 f34.size
      have nx_b19' := hs31.not nx_b19 (lt_of_blk hb19)
      replace hb19 := f34.blk hb19 nx_b19
      replace nx_b19 := nx_b19'
      replace hkv := hkv.fr f34 (by first | (simp; done) | exact nx_b17 | (simp only [List.mem_cons, List.mem_singleton, List.not_mem_nil, or_false, not_or]; omega))
      have nx_b17' := hs31.not nx_b17 (lt_of_blk hb17)
      replace hb17 := f34.blk hb17 nx_b17
      replace nx_b17 := nx_b17'
      replace hi9 := Nat.lt_of_lt_of_le hi9 f34.size
      have nx_b9' := hs31.not nx_b9 (lt_of_blk hb9)
      replace hb9 := f34.blk hb9 nx_b9
      replace nx_b9 := nx_b9'
      replace hES := hE32
      refine DL.nil ?_
      show DC _ _ _ _ _ _
      refine DC.seq ?_
      refine DC.region ?_
      refine DL.y rfl rfl (Y.move) ?_
      refine DL.y rfl rfl (Y.field F.fd203_0 rfl) ?_
      refine DL.y rfl rfl (Y.loadB F.sc9 rfl hb9 rfl) ?_
      refine DL.call rfl rfl F.nm170 rfl (encodeString_any hES hT (hkval i hi) (by have := key_size hi; first | omega | (simp only [List.length_append, List.length_cons, List.length_nil]; omega))) ?_
      rintro _ w38 f39 ⟨rfl, X35, hE37, hs36⟩
      have xFR' := xFR.step FR.size hs36
      replace FR := FR.put f39 xFR
      replace xFR := xFR'
      have xG24' := xG24.step G24.size hs36
      replace G24 := G24.put f39 xG24
      replace xG24 := xG24'
      replace hT : Tabs w38 := by first | exact hT.es hES f39 | exact hT.fr f39 (by intro c hc hm; first | (simp at hm; done) | (simp only [List.mem_cons, List.mem_singleton, List.not_mem_nil, or_false] at hm; have := hES.two; omega))
      replace hgv := hgv.fr f39 (by intro c hc hm; first | (simp at hm; done) | (have hx := (hES.ge c hm).1; omega) | (simp only [List.mem_cons, List.mem_singleton, List.not_mem_nil, or_false] at hm; omega))
      have nx_r' := hs36.not nx_r (lt_of_blk hmap)
      replace hmap := f39.blk hmap nx_r
      replace nx_r := nx_r'
      replace hi17 := Nat.lt_of_lt_of_le hi17 f39.size
      replace hi4 := Nat.lt_of_lt_of_le hi4 f39.size
      have nx_b4' := hs36.not nx_b4 (lt_of_blk hb4)
      replace hb4 := f39.blk hb4 nx_b4
      replace nx_b4 := nx_b4'
      replace hi19 := Nat.lt_of_lt_of_le hi19 f39.size
      have nx_b19' := hs36.not nx_b19 (lt_of_blk hb19)
      replace hb19 := f39.blk hb19 nx_b19
      replace nx_b19 := nx_b19'
      replace hkv := hkv.fr f39 (by first | (simp; done) | exact nx_b17 | (simp only [List.mem_cons, List.mem_singleton, List.not_mem_nil, or_false, not_or]; omega))
      have nx_b17' := hs36.not nx_b17 (lt_of_blk hb17)
      replace hb17 := f39.blk hb17 nx_b17
      replace nx_b17 := nx_b17'
      replace hi9 := Nat.lt_of_lt_of_le hi9 f39.size
      have nx_b9' := hs36.not nx_b9 (lt_of_blk hb9)
      replace hb9 := f39.blk hb9 nx_b9
      replace nx_b9 := nx_b9'
      replace hES := hE37
      refine DL.nil ?_
      show DC _ _ _ _ _ _
      refine DC.seq ?_
      refine DC.region ?_
      refine DL.y rfl rfl (Y.move) ?_
      refine DL.y rfl rfl (Y.nil rfl) ?_
      refine DL.y rfl rfl (Y.field F.fd164_0 rfl) ?_
      refine DL.y rfl rfl (Y.load F.sc161 rfl hES.cell) ?_
      refine DL.invoke rfl rfl rfl rfl (hmWB _ _) (hES.wbyte (c := 58) (by have := key_size hi; have := escT_len keys[i].data.toList; have := size_list keys[i]; simp only [qL]; first | omega | (simp only [List.length_append, List.length_cons, List.length_nil]; omega))) ?_
      rintro _ w43 f44 ⟨X40, hE42, hs41⟩
      have xFR' := xFR.step FR.size hs41
      replace FR := FR.put f44 xFR
      replace xFR := xFR'
      have xG24' := xG24.step G24.size hs41
      replace G24 := G24.put f44 xG24
      replace xG24 := xG24'
      replace hT : Tabs w43 := by first | exact hT.es hES f44 | exact hT.fr f44 (by intro c hc hm; first | (simp at hm; done) | (simp only [List.mem_cons, List.mem_singleton, List.not_mem_nil, or_false] at hm; have := hES.two; omega))
      replace hgv := hgv.fr f44 (by intro c hc hm; first | (simp at hm; done) | (have hx := (hES.ge c hm).1; omega) | (simp only [List.mem_cons, List.mem_singleton, List.not_mem_nil, or_false] at hm; omega))
      have nx_r' := hs41.not nx_r (lt_of_blk hmap)
      replace hmap := f44.blk hmap nx_r
      replace nx_r := nx_r'
      replace hi17 := Nat.lt_of_lt_of_le hi17 f44.size
      replace hi4 := Nat.lt_of_lt_of_le hi4 f44.size
      have nx_b4' := hs41.not nx_b4 (lt_of_blk hb4)
      replace hb4 := f44.blk hb4 nx_b4
      replace nx_b4 := nx_b4'
      replace hi19 := Nat.lt_of_lt_of_le hi19 f44.size
      have nx_b19' := hs41.not nx_b19 (lt_of_blk hb19)
      replace hb19 := f44.blk hb19 nx_b19
      replace nx_b19 := nx_b19'
      replace hkv := hkv.fr f44 (by first | (simp; done) | exact nx_b17 | (simp only [List.mem_cons, List.mem_singleton, List.not_mem_nil, or_false, not_or]; omega))
      have nx_b17' := hs41.not nx_b17 (lt_of_blk hb17)
      replace hb17 := f44.blk hb17 nx_b17
      replace nx_b17 := nx_b17'
      replace hi9 := Nat.lt_of_lt_of_le hi9 f44.size
      have nx_b9' := hs41.not nx_b9 (lt_of_blk hb9)
      replace hb9 := f44.blk hb9 nx_b9
      replace nx_b9 := nx_b9'
      replace hES := hE42
      refine DL.nil ?_
      show DC _ _ _ _ _ _
      refine DC.region ?_
      refine DL.y rfl rfl (Y.move) ?_
      refine DL.y rfl rfl (Y.field F.fd203_1 rfl) ?_
      refine DL.y rfl rfl (Y.loadB F.sc20 rfl hb9 rfl) ?_
      refine DL.call rfl rfl F.nm155 rfl (ih _ (xs i) B be b _ _ _ (by have := nodes_le hiv; omega) hm2 (by have := bytes_le hiv; omega) (hg i hiv) (hgv i hiv) hES hT (by have := key_size hi; have := escT_len keys[i].data.toList; have := size_list keys[i]; simp only [qL]; first | omega | (simp only [List.length_append, List.length_cons, List.length_nil]; omega))) ?_
      rintro _ w48 f49 ⟨rfl, X45, hE47, hs46⟩
      have xFR' := xFR.step FR.size hs46
      replace FR := FR.put f49 xFR
      replace xFR := xFR'
      have xG24' := xG24.step G24.size hs46
      replace G24 := G24.put f49 xG24
      replace xG24 := xG24'
      replace hT : Tabs w48 := by first | exact hT.es hES f49 | exact hT.fr f49 (by intro c hc hm; first | (simp at hm; done) | (simp only [List.mem_cons, List.mem_singleton, List.not_mem_nil, or_false] at hm; have := hES.two; omega))
      replace hgv := hgv.fr f49 (by intro c hc hm; first | (simp at hm; done) | (have hx := (hES.ge c hm).1; omega) | (simp only [List.mem_cons, List.mem_singleton, List.not_mem_nil, or_false] at hm; omega))
      have nx_r' := hs46.not nx_r (lt_of_blk hmap)
      replace hmap := f49.blk hmap nx_r
      replace nx_r := nx_r'
      replace hi17 := Nat.lt_of_lt_of_le hi17 f49.size
      replace hi4 := Nat.lt_of_lt_of_le hi4 f49.size
      have nx_b4' := hs46.not nx_b4 (lt_of_blk hb4)
      replace hb4 := f49.blk hb4 nx_b4
      replace nx_b4 := nx_b4'
      replace hi19 := Nat.lt_of_lt_of_le hi19 f49.size
      have nx_b19' := hs46.not nx_b19 (lt_of_blk hb19)
      replace hb19 := f49.blk hb19 nx_b19
      replace nx_b19 := nx_b19'
      replace hkv := hkv.fr f49 (by first | (simp; done) | exact nx_b17 | (simp only [List.mem_cons, List.mem_singleton, List.not_mem_nil, or_false, not_or]; omega))
      have nx_b17' := hs46.not nx_b17 (lt_of_blk hb17)
      replace hb17 := f49.blk hb17 nx_b17
      replace nx_b17 := nx_b17'
      replace hi9 := Nat.lt_of_lt_of_le hi9 f49.size
      have nx_b9' := hs46.not nx_b9 (lt_of_blk hb9)
      replace hb9 := f49.blk hb9 nx_b9
      replace nx_b9 := nx_b9'
      replace hES := hE47
      refine DL.nil ?_
      show DC _ _ _ _ _ _
      refine DC.region ?_
      refine DL.y rfl rfl (Y.addI (c := ((i + 1 : Nat) : Int)) rfl rfl (by omega) (by omega) (by omega)) ?_
      refine DL.y rfl rfl (Y.move) ?_
      refine DL.nil ?_
      exact ⟨(i + 1, X45), ⟨G24, hi, hES.cast (by rw [joinT_succ (by rw [jMs_len keys vals hkl]; exact hi), jMs_get' hkl hi, if_neg (by omega)]; simp), xG24⟩, by show keys.length - (i + 1) < keys.length - i; omega, rfl⟩
     ·refine DL.nil ?_
      show DC _ _ _ _ _ _
      refine DC.condF rfl ?_
      refine DC.skip ?_
      show DC _ _ _ _ _ _
      refine DC.seq ?_
      refine DC.region ?_
      refine DL.y rfl rfl (Y.move) ?_
      refine DL.y rfl rfl (Y.field F.fd203_0 rfl) ?_
      refine DL.y rfl rfl (Y.loadB F.sc9 rfl hb9 rfl) ?_
      refine DL.call rfl rfl F.nm170 rfl (encodeString_any hES hT (hkval i hi) (by have := key_size hi; first | omega | (simp only [List.length_append, List.length_cons, List.length_nil]; omega))) ?_
      rintro _ w53 f54 ⟨rfl, X50, hE52, hs51⟩
      have xFR' := xFR.step FR.size hs51
      replace FR := FR.put f54 xFR
      replace xFR := xFR'
      have xG24' := xG24.step G24.size hs51
      replace G24 := G24.put f54 xG24
      replace xG24 := xG24'
      replace hT : Tabs w53 := by first | exact hT.es hES f54 | exact hT.fr f54 (by intro c hc hm; first | (simp at hm; done) | (simp only [List.mem_cons, List.mem_singleton, List.not_mem_nil, or_false] at hm; have := hES.two; omega))
      replace hgv := hgv.fr f54 (by intro c hc hm; first | (simp at hm; done) | (have hx := (hES.ge c hm).1; omega) | (simp only [List.mem_cons, List.mem_singleton, List.not_mem_nil, or_false] at hm; omega))
      have nx_r' := hs51.not nx_r (lt_of_blk hmap)
      replace hmap := f54.blk hmap nx_r
      replace nx_r := nx_r'
      replace hi17 := Nat.lt_of_lt_of_le hi17 f54.size
      replace hi4 := Nat.lt_of_lt_of_le hi4 f54.size
      have nx_b4' := hs51.not nx_b4 (lt_of_blk hb4)
      replace hb4 := f54.blk hb4 nx_b4
      replace nx_b4 := nx_b4'
      replace hi19 := Nat.lt_of_lt_of_le hi19 f54.size
      have nx_b19' := hs51.not nx_b19 (lt_of_blk hb19)
      replace hb19 := f54.blk hb19 nx_b19
      replace nx_b19 := nx_b19'
      replace hkv := hkv.fr f54 (by first | (simp; done) | exact nx_b17 | (simp only [List.mem_cons, List.mem_singleton, List.not_mem_nil, or_false, not_or]; omega))
      have nx_b17' := hs51.not nx_b17 (lt_of_blk hb17)
      replace hb17 := f54.blk hb17 nx_b17
      replace nx_b17 := nx_b17'
      replace hi9 := Nat.lt_of_lt_of_le hi9 f54.size
      have nx_b9' := hs51.not nx_b9 (lt_of_blk hb9)
      replace hb9 := f54.blk hb9 nx_b9
      replace nx_b9 := nx_b9'
      replace hES := hE52
      refine DL.nil ?_
      show DC _ _ _ _ _ _
      refine DC.seq ?_
      refine DC.region ?_
      refine DL.y rfl rfl (Y.move) ?_
      refine DL.y rfl rfl (Y.nil rfl) ?_
      refine DL.y rfl rfl (Y.field F.fd164_0 rfl) ?_
      refine DL.y rfl rfl (Y.load F.sc161 rfl hES.cell) ?_
      refine DL.invoke rfl rfl rfl rfl (hmWB _ _) (hES.wbyte (c := 58) (by have := key_size hi; have := escT_len keys[i].data.toList; have := size_list keys[i]; simp only [qL]; first | omega | (simp only [List.length_append, List.length_cons, List.length_nil]; omega))) ?_
      rintro _ w58 f59 ⟨X55, hE57, hs56⟩
      have xFR' := xFR.step FR.size hs56
      replace FR := FR.put f59 xFR
      replace xFR := xFR'
      have xG24' := xG24.step G24.size hs56
      replace G24 := G24.put f59 xG24
      replace xG24 := xG24'
      replace hT : Tabs w58 := by first | exact hT.es hES f59 | exact hT.fr f59 (by intro c hc hm; first | (simp at hm; done) | (simp only [List.mem_cons, List.mem_singleton, List.not_mem_nil, or_false] at hm; have := hES.two; omega))
      replace hgv := hgv.fr f59 (by intro c hc hm; first | (simp at hm; done) | (have hx := (hES.ge c hm).1; omega) | (simp only [List.mem_cons, List.mem_singleton, List.not_mem_nil, or_false] at hm; omega))
      have nx_r' := hs56.not nx_r (lt_of_blk hmap)
      replace hmap := f59.blk hmap nx_r
      replace nx_r := nx_r'
      replace hi17 := Nat.lt_of_lt_of_le hi17 f59.size
      replace hi4 := Nat.lt_of_lt_of_le hi4 f59.size
      have nx_b4' := hs56.not nx_b4 (lt_of_blk hb4)
      replace hb4 := f59.blk hb4 nx_b4
      replace nx_b4 := nx_b4'
      replace hi19 := Nat.lt_of_lt_of_le hi19 f59.size
      have nx_b19' := hs56.not nx_b19 (lt_of_blk hb19)
      replace hb19 := f59.blk hb19 nx_b19
      replace nx_b19 := nx_b19'
      replace hkv := hkv.fr f59 (by first | (simp; done) | exact nx_b17 | (simp only [List.mem_cons, List.mem_singleton, List.not_mem_nil, or_false, not_or]; omega))
      have nx_b17' := hs56.not nx_b17 (lt_of_blk hb17)
      replace hb17 := f59.blk hb17 nx_b17
      replace nx_b17 := nx_b17'
      replace hi9 := Nat.lt_of_lt_of_le hi9 f59.size
      have nx_b9' := hs56.not nx_b9 (lt_of_blk hb9)
      replace hb9 := f59.blk hb9 nx_b9
      replace nx_b9 := nx_b9'
      replace hES := hE57
      refine DL.nil ?_
      show DC _ _ _ _ _ _
      refine DC.region ?_
      refine DL.y rfl rfl (Y.move) ?_
      refine DL.y rfl rfl (Y.field F.fd203_1 rfl) ?_
      refine DL.y rfl rfl (Y.loadB F.sc20 rfl hb9 rfl) ?_
      refine DL.call rfl rfl F.nm155 rfl (ih _ (xs i) B be b _ _ _ (by have := nodes_le hiv; omega) hm2 (by have := bytes_le hiv; omega) (hg i hiv) (hgv i hiv) hES hT (by have := key_size hi; have := escT_len keys[i].data.toList; have := size_list keys[i]; simp only [qL]; first | omega | (simp only [List.length_append, List.length_cons, List.length_nil]; omega))) ?_
      rintro _ w63 f64 ⟨rfl, X60, hE62, hs61⟩
      have xFR' := xFR.step FR.size hs61
      replace FR := FR.put f64 xFR
      replace xFR := xFR'
      have xG24' := xG24.step G24.size hs61
      replace G24 := G24.put f64 xG24
      replace xG24 := xG24'
      replace hT : Tabs w63 := by first | exact hT.es hES f64 | exact hT.fr f64 (by intro c hc hm; first | (simp at hm; done) | (simp only [List.mem_cons, List.mem_singleton, List.not_mem_nil, or_false] at hm; have := hES.two; omega))
      replace hgv := hgv.fr f64 (by intro c hc hm; first | (simp at hm; done) | (have hx := (hES.ge c hm).1; omega) | (simp only [List.mem_cons, List.mem_singleton, List.not_mem_nil, or_false] at hm; omega))
      have nx_r' := hs61.not nx_r (lt_of_blk hmap)
      replace hmap := f64.blk hmap nx_r
      replace nx_r := nx_r'
      replace hi17 := Nat.lt_of_lt_of_le hi17 f64.size
      replace hi4 := Nat.lt_of_lt_of_le hi4 f64.size
      have nx_b4' := hs61.not nx_b4 (lt_of_blk hb4)
      replace hb4 := f64.blk hb4 nx_b4
      replace nx_b4 := nx_b4'
      replace hi19 := Nat.lt_of_lt_of_le hi19 f64.size
      have nx_b19' := hs61.not nx_b19 (lt_of_blk hb19)
      replace hb19 := f64.blk hb19 nx_b19
      replace nx_b19 := nx_b19'
      replace hkv := hkv.fr f64 (by first | (simp; done) | exact nx_b17 | (simp only [List.mem_cons, List.mem_singleton, List.not_mem_nil, or_false, not_or]; omega))
      have nx_b17' := hs61.not nx_b17 (lt_of_blk hb17)
      replace hb17 := f64.blk hb17 nx_b17
      replace nx_b17 := nx_b17'
      replace hi9 := Nat.lt_of_lt_of_le hi9 f64.size
      have nx_b9' := hs61.not nx_b9 (lt_of_blk hb9)
      replace hb9 := f64.blk hb9 nx_b9
      replace nx_b9 := nx_b9'
      replace hES := hE62
      refine DL.nil ?_
      show DC _ _ _ _ _ _
      refine DC.region ?_
      refine DL.y rfl rfl (Y.addI (c := ((i + 1 : Nat) : Int)) rfl rfl (by omega) (by omega) (by omega)) ?_
      refine DL.y rfl rfl (Y.move) ?_
      refine DL.nil ?_
      exact ⟨(i + 1, X60), ⟨G24, hi, hES.cast (by rw [joinT_succ (by rw [jMs_len keys vals hkl]; exact hi), jMs_get' hkl hi, if_pos (by omega)]; simp), xG24⟩, by show keys.length - (i + 1) < keys.length - i; omega, rfl⟩
    ·obtain rfl : i = keys.length := by omega
     refine DL.nil ?_
     show DC _ _ _ _ _ _
     refine DC.seq ?_
     refine DC.condF rfl ?_
     refine DC.exit ?_
     show DC _ _ _ _ _ _
     refine DC.region ?_
     refine DL.y rfl rfl (Y.move) ?_
     refine DL.y rfl rfl (Y.nil rfl) ?_
     refine DL.y rfl rfl (Y.field F.fd164_0 rfl) ?_
     refine DL.y rfl rfl (Y.load F.sc161 rfl hES.cell) ?_
     refine DL.invoke rfl rfl rfl rfl (hmWB _ _) (hES.wbyte (c := 125) (by first | omega | (simp only [List.length_append, List.length_cons, List.length_nil]; omega))) ?_
     rintro _ w68 f69 ⟨X65, hE67, hs66⟩
     have xFR' := xFR.step FR.size hs66
     replace FR := FR.put f69 xFR
     replace xFR := xFR'
     replace hT : Tabs w68 := by first | exact hT.es hES f69 | exact hT.fr f69 (by intro c hc hm; first | (simp at hm; done) | (simp only [List.mem_cons, List.mem_singleton, List.not_mem_nil, or_false] at hm; have := hES.two; omega))
     replace hgv := hgv.fr f69 (by intro c hc hm; first | (simp at hm; done) | (have hx := (hES.ge c hm).1; omega) | (simp only [List.mem_cons, List.mem_singleton, List.not_mem_nil, or_false] at hm; omega))
     have nx_r' := hs66.not nx_r (lt_of_blk hmap)
     replace hmap := f69.blk hmap nx_r
     replace nx_r := nx_r'
     replace hi17 := Nat.lt_of_lt_of_le hi17 f69.size
     replace hi4 := Nat.lt_of_lt_of_le hi4 f69.size
     have nx_b4' := hs66.not nx_b4 (lt_of_blk hb4)
     replace hb4 := f69.blk hb4 nx_b4
     replace nx_b4 := nx_b4'
     replace hi19 := Nat.lt_of_lt_of_le hi19 f69.size
     have nx_b19' := hs66.not nx_b19 (lt_of_blk hb19)
     replace hb19 := f69.blk hb19 nx_b19
     replace nx_b19 := nx_b19'
     replace hkv := hkv.fr f69 (by first | (simp; done) | exact nx_b17 | (simp only [List.mem_cons, List.mem_singleton, List.not_mem_nil, or_false, not_or]; omega))
     have nx_b17' := hs66.not nx_b17 (lt_of_blk hb17)
     replace hb17 := f69.blk hb17 nx_b17
     replace nx_b17 := nx_b17'
     replace hES := hE67
     refine DL.nil ?_
     exact FinQ.end0 (Ret.mk FR ⟨rfl, _, hES.cast (by rw [List.take_of_length_le (by rw [jMs_len keys vals hkl]; exact Nat.le_refl _)]; simp), xFR⟩)
  ·replace FR := FR.put f19 (by intro i hi; simp only [List.mem_cons, List.mem_singleton, List.not_mem_nil, or_false] at hi; rcases hi with rfl; all_goals (first | (left; simp; done) | (right; omega)))
   replace G17 := G17.put f19 (by intro i hi; simp only [List.mem_cons, List.mem_singleton, List.not_mem_nil, or_false] at hi; rcases hi with rfl; all_goals (first | (left; simp; done) | (right; omega)))
   replace HG17 := HG17.put f19 (by intro i hi; simp only [List.mem_cons, List.mem_singleton, List.not_mem_nil, or_false] at hi; rcases hi with rfl; all_goals (first | (left; simp; done) | (right; omega)))
   replace hT : Tabs w18 := by first | exact hT.es hES f19 | exact hT.fr f19 (by intro c hc hm; first | (simp at hm; done) | (simp only [List.mem_cons, List.mem_singleton, List.not_mem_nil, or_false] at hm; have := hES.two; omega))
   replace hgv := hgv.fr f19 (by intro c hc hm; first | (simp at hm; done) | (have hx := (hES.ge c hm).1; omega) | (simp only [List.mem_cons, List.mem_singleton, List.not_mem_nil, or_false] at hm; omega))
   replace hmap := f19.blk hmap (by simp only [List.mem_cons, List.not_mem_nil, or_false, not_or]; omega)
   replace hES := hES.fr f19 (by intro i hi; simp only [List.mem_cons, List.mem_singleton, List.not_mem_nil, or_false] at hi; rcases hi with rfl; exact nx_b19)
   replace hi17 := Nat.lt_of_lt_of_le hi17 f19.size
   replace hi4 := Nat.lt_of_lt_of_le hi4 f19.size
   replace hb4 := f19.blk hb4 (by simp only [List.mem_cons, List.not_mem_nil, or_false, not_or]; omega)
   replace hi19 := Nat.lt_of_lt_of_le hi19 f19.size
   replace hb17 := f19.blk hb17 (by simp only [List.mem_cons, List.not_mem_nil, or_false, not_or]; omega)
   replace hb19 := hb19'
   obtain ⟨hmem, hns⟩ := left_mem hen
   obtain ⟨i, hi, hen'⟩ : ∃ i, ∃ hi : i < keys.length, es[i]? = some en := by
    obtain ⟨i, hi, he⟩ := List.getElem_of_mem hmem
    have hi2 : i < es.size := by simpa using hi
    exact ⟨i, by omega, by rw [Array.getElem?_eq_getElem hi2, ← he]; simp⟩
   obtain ⟨key, val, born⟩ := en
   have hx := (hent i hi).symm.trans hen'
   simp only [Option.some.injEq, MapEntry.mk.injEq] at hx
   obtain ⟨rfl, rfl, rfl⟩ := hx
   have hns : i ∉ seen := by simpa using hns
   have hkn : k < keys.length := by
    have h1 := nodup_bound keys.length (seen ++ [i]) (List.nodup_append.2 ⟨hsn, by simp, by intro a ha b hb e; simp at hb; subst hb; subst e; exact hns ha⟩) (fun x hx => by rcases List.mem_append.1 hx with h | h; exact hsl x h; simp at h; omega)
    simp only [List.length_append, List.length_singleton] at h1
    omega
   have hone1 : (xs i).oneCell' = true := (hgv i (by omega)).one
   have hone := kv_one keys[i] (xs i) hone1
   refine DL.y rfl rfl (Y.extract rfl rfl) ?_
   refine DL.nil ?_
   show DC _ _ _ _ _ _
   refine DC.seq ?_
   refine DC.condT rfl ?_
   refine DC.skip ?_
   show DC _ _ _ _ _ _
   refine DC.block ?_
   refine DC.seq ?_
   refine DC.region ?_
   refine DL.y rfl rfl (Y.entry rfl hb19 hmap hmem hnd) ?_
   refine DL.y rfl rfl (Y.extract rfl rfl) ?_
   refine DL.y rfl rfl (Y.extract rfl rfl) ?_
   refine DL.y rfl rfl (Y.assign) ?_
   refine DL.y rfl rfl (Y.assign) ?_
   refine DL.nil ?_
   show DC _ _ _ _ _ _
   refine DC.seq ?_
   refine DC.region ?_
   refine DL.y rfl rfl (Y.loadB F.sc201 rfl hb4 rfl) ?_
   refine DL.y rfl rfl (Y.move) ?_
   refine DL.y rfl rfl (Y.move) ?_
   refine DL.y rfl rfl (Y.move) ?_
   refine DL.y rfl rfl (Y.build (cs := #[.string keys[i], xs i]) (kvBuild keys[i] (xs i) hone1)) ?_
   refine DL.y rfl rfl (Y.index F.sl201 rfl rfl (rfl) (hkn)) ?_
   refine DL.storeK (cs := #[.string keys[i], xs i]) rfl F.ag203 rfl rfl rfl hone hb17 (by omega) ?_
   intro w70 cs' f71 hs72 hb17' hcz' hold' hnew'
   replace FR := FR.put f71 (by intro i hi; simp only [List.mem_cons, List.mem_singleton, List.not_mem_nil, or_false] at hi; rcases hi with rfl; all_goals (first | (left; simp; done) | (right; omega)))
   replace G17 := G17.put f71 (by intro i hi; simp only [List.mem_cons, List.mem_singleton, List.not_mem_nil, or_false] at hi; rcases hi with rfl; all_goals (first | (left; simp; done) | (right; omega)))
   replace HG17 := HG17.put f71 (by intro i hi; simp only [List.mem_cons, List.mem_singleton, List.not_mem_nil, or_false] at hi; rcases hi with rfl; all_goals (first | (left; simp; done) | (right; omega)))
   replace hT : Tabs w70 := by first | exact hT.es hES f71 | exact hT.fr f71 (by intro c hc hm; first | (simp at hm; done) | (simp only [List.mem_cons, List.mem_singleton, List.not_mem_nil, or_false] at hm; have := hES.two; omega))
   replace hgv := hgv.fr f71 (by intro c hc hm; first | (simp at hm; done) | (have hx := (hES.ge c hm).1; omega) | (simp only [List.mem_cons, List.mem_singleton, List.not_mem_nil, or_false] at hm; omega))
   replace hmap := f71.blk hmap (by simp only [List.mem_cons, List.not_mem_nil, or_false, not_or]; omega)
   replace hES := hES.fr f71 (by intro i hi; simp only [List.mem_cons, List.mem_singleton, List.not_mem_nil, or_false] at hi; rcases hi with rfl; exact nx_b17)
   replace hi17 := Nat.lt_of_lt_of_le hi17 f71.size
   replace hi4 := Nat.lt_of_lt_of_le hi4 f71.size
   replace hb4 := f71.blk hb4 (by simp only [List.mem_cons, List.not_mem_nil, or_false, not_or]; omega)
   replace hi19 := Nat.lt_of_lt_of_le hi19 f71.size
   replace hb19 := f71.blk hb19 (by simp only [List.mem_cons, List.not_mem_nil, or_false, not_or]; omega)
   replace hb17 := hb17'
   refine DL.nil ?_
   show DC _ _ _ _ _ _
   refine DC.region ?_
   refine DL.y rfl rfl (Y.move) ?_
   refine DL.y rfl rfl (Y.addI (c := ((k + 1 : Nat) : Int)) rfl rfl (by omega) (by omega) (by omega)) ?_
   refine DL.y rfl rfl (Y.assign) ?_
   refine DL.nil ?_
   refine ⟨(k + 1, seen ++ [i], cs'), ⟨G17, hkn, by simpa using hb19, hb17, by rw [hcz', hcz], by simp [hsk], List.nodup_append.2 ⟨hsn, by simp, by intro a ha b hb e; simp at hb; subst hb; subst e; exact hns ha⟩, fun x hx => by rcases List.mem_append.1 hx with h | h; exact hsl x h; simp at h; omega, fun j hj => ?_⟩, by show keys.length - (k + 1) < keys.length - k; omega, rfl⟩
   simp only [List.length_append, List.length_singleton] at hj
   by_cases hjk : j < seen.length
   ·rw [hold' _ (by omega), hold' _ (by omega), List.getElem_append_left hjk]; exact hcj j hjk
   ·have hje : j = k := by omega
    subst hje
    rw [List.getElem_append_right (by omega)]
    have h0 := hnew' 0 (by omega)
    have h1 := hnew' 1 (by omega)
    simp only [Nat.zero_add, Nat.add_zero] at h0 h1
    rw [h0, h1]
    simp [List.getD_eq_getElem?_getD, hi]

end Go.Proofs.YtmbleojlnaofjaaGreatDoor

/- The walks of a decimal's trim and digit. -/
namespace Go.Proofs.YtmbleojlnaofjaaGreatDoor
open Go Go.RowKit D Go.Deep
set_option linter.unusedVariables false
set_option linter.unusedSimpArgs false


/-- A decimal in block c. -/
structure Dm (w : World) (B c : Nat) (X : List Nat) (d : List Nat) (dp : Int) : Prop where
 out : ∃ v, w.heap[c]? = some (.cells #[v, .int .i64 dp] 242 (0, 0)) ∧ w.ownsRow B 5 1 v d.length (dv d) ∧ X = c :: ownL v
 lo : B ≤ c
theorem Dm.ge {w : World} {B c : Nat} {X : List Nat} {d : List Nat} {dp : Int} (h : Dm w B c X d dp) : ∀ i ∈ X, B ≤ i ∧ i < w.heap.size := by
 obtain ⟨v, hb, ho, rfl⟩ := h.out
 intro i hi
 rcases List.mem_cons.1 hi with rfl | hi
 ·exact ⟨h.lo, lt_of_blk hb⟩
 ·exact own_ge ho i hi
theorem Dm.fr {w w' : World} {B c : Nat} {X S : List Nat} {d : List Nat} {dp : Int} (h : Dm w B c X d dp) (f : Fr S w w') (hs : ∀ i ∈ S, i ∉ X) : Dm w' B c X d dp := by
 obtain ⟨v, hb, ho, rfl⟩ := h.out
 exact ⟨⟨v, f.blk hb (fun hi => hs c hi (by simp)), ownsRow_fr ho f (fun i hi hv => hs i hi (by simp [mem_ownL.2 hv])), rfl⟩, h.lo⟩
theorem Dm.fr0 {w w' : World} {B c : Nat} {X : List Nat} {d : List Nat} {dp : Int} (h : Dm w B c X d dp) (f : Fr [] w w') : Dm w' B c X d dp := h.fr f (by simp)
theorem own_ne_c {w : World} {B c n : Nat} {v : Value} {xs : List Value} {cs : Array Value} (ho : w.ownsRow B 5 1 v n xs) (hb : w.heap[c]? = some (.cells cs 242 (0, 0))) : c ∉ ownL v := fun h => Lib.ownBlock_ne ho hb (by decide) (mem_ownL.1 h)
theorem dvT (d : List Nat) : dv (d.take d.length) = dv d := by rw [List.take_length]
theorem take_zero_of {d : List Nat} {m : Nat} (hm : m ≤ d.length) (h0 : 0 < m) (h : d = d.take m ++ List.replicate (d.length - m) 0) (hz : dg d (m - 1) = 0) : d = d.take (m - 1) ++ List.replicate (d.length - (m - 1)) 0 := by
 have h1 : m - 1 < d.length := by omega
 have h2 : d.take m = d.take (m - 1) ++ [0] := by
  have e := List.take_succ_eq_append_getElem h1
  rw [show m - 1 + 1 = m by omega] at e
  rw [e, ← dg_lt h1, hz]
 conv => lhs; rw [h, h2]
 rw [List.append_assoc, show d.length - (m - 1) = (d.length - m) + 1 by omega, List.replicate_succ]
 rfl


theorem own_shrink' {w : World} {B e m cap k : Nat} {a : Option Addr} {d : List Nat} (h : w.ownsRow B e 1 (.slice a m cap) m (dv (d.take m))) (hk : k ≤ m) (hs : a ≠ none) : w.ownsRow B e 1 (.slice a k cap) k (dv (d.take k)) := by
 have := own_shrink h hk hs
 rwa [List.take_take, Nat.min_eq_left hk] at this
theorem ownL_slice {a : Option Addr} {m k cap : Nat} : ownL (.slice a m cap) = ownL (.slice a k cap) := by cases a <;> rfl

theorem trim_any {B c : Nat} {X d : List Nat} {dp : Int} {w : World} (h : Dm w B c X d dp) (hdl : d.length ≤ 1000000) : Calls Tryz.prog 233 #[(.pointer (some ⟨c, 0, none⟩))] w (Ret w [c] fun r w' => r = (.pointer (some ⟨c, 0, none⟩)) ∧ ∃ t z, Cut d t z ∧ Dm w' B c X t (if t = [] then 0 else dp)) := by
 obtain ⟨v, hb, ho, rfl⟩ := h.out
 have hB := h.lo
 obtain ⟨a, cap, rfl, _, _⟩ := own_cells ho
 refine calls_of Tryz.func233 rfl rfl rfl rfl ?_
 have FR := Fr.refl [c] w
 refine DC.seq ?_
 refine DC.region ?_
 refine DL.y rfl rfl (Y.assign) ?_
 refine DL.nil ?_
 show DC _ _ _ _ _ _
 refine DC.seq ?_
 refine DC.block ?_
 refine DC.loopE (σ := Nat) [(3, 37)] [(0, (.pointer (some ⟨c, 0, none⟩)))] (fun _ => []) (fun sg wl => Fr [c] w wl ∧ (fun m wl => m ≤ d.length ∧ wl.heap[c]? = some (.cells #[.slice a m cap, .int .i64 dp] 242 (0, 0)) ∧ wl.ownsRow B 5 1 (.slice a m cap) m (dv (d.take m)) ∧ d = d.take m ++ List.replicate (d.length - m) 0) sg wl) (fun m => m) (d.length) rfl ?_ ?_ ?_ ?_
 ·exact rfl
 ·exact trivial
 ·exact ⟨Fr.refl _ _, Nat.le_refl _, hb, by rw [List.take_length]; exact ho, by simp⟩
 ·rintro e0 m j w1 ⟨f2, hm, hb, ho, hdz⟩
  replace FR := FR.put f2 (by intro i hi; simp only [List.mem_cons, List.mem_singleton, List.not_mem_nil, or_false] at hi; rcases hi with rfl; all_goals (first | (left; simp; done) | (right; omega)))
  have G3 := f2
  have HG3 := Fr.refl [c] w1
  refine DC.seq ?_
  refine DC.seq ?_
  refine DC.still F.mixed (by kernel_rfl) ?_
  intro w4 f5 hsw4
  replace FR := FR.tr0 f5
  replace G3 := G3.tr0 f5
  replace HG3 := HG3.tr0 f5
  replace ho := ownsRow_fr ho f5 (by intro i hi hv; first | (simp at hi; done) | (simp only [List.mem_singleton] at hi; subst hi; exact own_ne_c ho hb (mem_ownL.2 hv)))
  replace hb := f5.blk0 hb
  refine DS.y rfl rfl (Y.move) ?_
  refine DS.y rfl rfl (Y.nil rfl) ?_
  refine DS.y rfl rfl (Y.field F.fd242_0 rfl) ?_
  refine DS.y rfl rfl (Y.loadB F.sc107 rfl hb rfl) ?_
  refine DS.y rfl rfl (Y.lenS Tryz.underlying107 rfl) ?_
  refine DS.if rfl rfl (Y.gt rfl rfl) (fun c8 => ?_) (fun c8 => ?_)
  ·obtain ⟨g, rfl⟩ := own_some ho (by omega)
   refine DS.y rfl rfl (Y.move) ?_
   refine DS.y rfl rfl (Y.move) ?_
   refine DS.y rfl rfl (Y.nil rfl) ?_
   refine DS.y rfl rfl (Y.field F.fd242_0 rfl) ?_
   refine DS.y rfl rfl (Y.loadB F.sc107 rfl hb rfl) ?_
   refine DS.y rfl rfl (Y.move) ?_
   refine DS.y rfl rfl (Y.nil rfl) ?_
   refine DS.y rfl rfl (Y.field F.fd242_0 rfl) ?_
   refine DS.y rfl rfl (Y.loadB F.sc107 rfl hb rfl) ?_
   refine DS.y rfl rfl (Y.lenS Tryz.underlying107 rfl) ?_
   refine DS.y rfl rfl (Y.subI (c := ((m - 1 : Nat) : Int)) rfl rfl (by omega) (by omega) (by omega)) ?_
   refine DS.y rfl rfl (Y.index F.sl107 rfl rfl (rfl) (by omega)) ?_
   refine DS.y rfl rfl (Y.load F.sc5 rfl (own_dig ho (i := m - 1) (by omega))) ?_
   refine DS.if rfl rfl (Y.eq rfl rfl) (fun c22 => ?_) (fun c22 => ?_)
   ·refine DS.y rfl rfl (Y.pickT rfl) ?_
    refine DS.nil ?_
    show DC _ _ _ _ _ _
    refine DC.condT rfl ?_
    refine DC.skip ?_
    show DC _ _ _ _ _ _
    refine DC.block ?_
    refine DC.tail 14 F.mixed (by kernel_rfl) ?_
    intro w6 f7 hsw6
    replace FR := FR.tr0 f7
    replace G3 := G3.tr0 f7
    replace HG3 := HG3.tr0 f7
    replace ho := ownsRow_fr ho f7 (by intro i hi hv; first | (simp at hi; done) | (simp only [List.mem_singleton] at hi; subst hi; exact own_ne_c ho hb (mem_ownL.2 hv)))
    replace hb := f7.blk0 hb
    refine DS.y rfl rfl (Y.move) ?_
    refine DS.y rfl rfl (Y.move) ?_
    refine DS.y rfl rfl (Y.nil rfl) ?_
    refine DS.y rfl rfl (Y.field F.fd242_0 rfl) ?_
    refine DS.y rfl rfl (Y.loadB F.sc107 rfl hb rfl) ?_
    refine DS.y rfl rfl (Y.move) ?_
    refine DS.y rfl rfl (Y.nil rfl) ?_
    refine DS.y rfl rfl (Y.field F.fd242_0 rfl) ?_
    refine DS.y rfl rfl (Y.loadB F.sc107 rfl hb rfl) ?_
    refine DS.y rfl rfl (Y.lenS Tryz.underlying107 rfl) ?_
    refine DS.y rfl rfl (Y.subI (c := ((m - 1 : Nat) : Int)) rfl rfl (by omega) (by omega) (by omega)) ?_
    refine DS.y rfl rfl (Y.sliceH (h := m - 1) F.sl107 rfl rfl rfl (by have := own_cap ho; omega)) ?_
    refine DS.y rfl rfl (Y.nil rfl) ?_
    refine DS.y rfl rfl (Y.field F.fd242_0 rfl) ?_
    refine DS.nil ?_
    show DL _ _ _ _ _ _ _
    refine DL.store rfl F.co107 F.in107 rfl rfl rfl hb rfl ?_
    intro w8 f9 hs10 hb'
    replace FR := FR.put f9 (by intro i hi; simp only [List.mem_cons, List.mem_singleton, List.not_mem_nil, or_false] at hi; rcases hi with rfl; all_goals (first | (left; simp; done) | (right; omega)))
    replace G3 := G3.put f9 (by intro i hi; simp only [List.mem_cons, List.mem_singleton, List.not_mem_nil, or_false] at hi; rcases hi with rfl; all_goals (first | (left; simp; done) | (right; omega)))
    replace HG3 := HG3.put f9 (by intro i hi; simp only [List.mem_cons, List.mem_singleton, List.not_mem_nil, or_false] at hi; rcases hi with rfl; all_goals (first | (left; simp; done) | (right; omega)))
    replace ho := ownsRow_fr ho f9 (by intro i hi hv; first | (simp at hi; done) | (simp only [List.mem_singleton] at hi; subst hi; exact own_ne_c ho hb (mem_ownL.2 hv)))
    replace hb := hb'
    refine DL.nil ?_
    have hz : dg d (m - 1) = 0 := by rw [dg_take (by omega)] at c22; omega
    exact ⟨m - 1, ⟨G3, by omega, hb, own_shrink' ho (by omega) (by simp), take_zero_of hm (by omega) hdz hz⟩, by show m - 1 < m; omega, trivial⟩
   ·refine DS.y rfl rfl (Y.pickT rfl) ?_
    refine DS.nil ?_
    show DC _ _ _ _ _ _
    refine DC.condF rfl ?_
    refine DC.exit ?_
    show DC _ _ _ _ _ _
    refine DC.seq ?_
    refine DC.seq ?_
    refine DC.region ?_
    refine DL.y rfl rfl (Y.move) ?_
    refine DL.y rfl rfl (Y.nil rfl) ?_
    refine DL.y rfl rfl (Y.field F.fd242_0 rfl) ?_
    refine DL.y rfl rfl (Y.loadB F.sc107 rfl hb rfl) ?_
    refine DL.y rfl rfl (Y.lenS Tryz.underlying107 rfl) ?_
    refine DL.if rfl rfl (Y.eq rfl rfl) (fun c43 => ?_) (fun c43 => ?_)
    ·refine DL.nil ?_
     show DC _ _ _ _ _ _
     refine DC.condT rfl ?_
     refine DC.region ?_
     refine DL.y rfl rfl (Y.move) ?_
     refine DL.y rfl rfl (Y.nil rfl) ?_
     refine DL.y rfl rfl (Y.field F.fd242_1 rfl) ?_
     refine DL.store rfl F.co3 F.in3 rfl rfl rfl hb rfl ?_
     intro w11 f12 hs13 hb'
     replace FR := FR.put f12 (by intro i hi; simp only [List.mem_cons, List.mem_singleton, List.not_mem_nil, or_false] at hi; rcases hi with rfl; all_goals (first | (left; simp; done) | (right; omega)))
     replace ho := ownsRow_fr ho f12 (by intro i hi hv; first | (simp at hi; done) | (simp only [List.mem_singleton] at hi; subst hi; exact own_ne_c ho hb (mem_ownL.2 hv)))
     replace hb := hb'
     refine DL.nil ?_
     show DC _ _ _ _ _ _
     refine DC.seq ?_
     refine DC.region ?_
     refine DL.y rfl rfl (Y.move) ?_
     refine DL.y rfl rfl (Y.assign) ?_
     refine DL.nil ?_
     show DC _ _ _ _ _ _
     refine DC.ret ?_
     have hlm : (d.take m).length = m := by rw [List.length_take]; omega
     refine FinQ.ret1 rfl (Ret.mk FR ⟨rfl, d.take m, d.length - m, ⟨hdz, fun hne => by rw [show (d.take m).length - 1 = m - 1 by rw [List.length_take]; omega]; intro h; rw [h] at c22; omega⟩, ?_⟩)
     rw [if_pos (List.eq_nil_of_length_eq_zero (by omega))]
     exact ⟨⟨_, hb, by rw [hlm]; exact ho, by rw [ownL_slice]⟩, hB⟩
    ·refine DL.nil ?_
     show DC _ _ _ _ _ _
     refine DC.condF rfl ?_
     refine DC.skip ?_
     show DC _ _ _ _ _ _
     refine DC.seq ?_
     refine DC.region ?_
     refine DL.y rfl rfl (Y.move) ?_
     refine DL.y rfl rfl (Y.assign) ?_
     refine DL.nil ?_
     show DC _ _ _ _ _ _
     refine DC.ret ?_
     have hlm : (d.take m).length = m := by rw [List.length_take]; omega
     refine FinQ.ret1 rfl (Ret.mk FR ⟨rfl, d.take m, d.length - m, ⟨hdz, fun hne => by rw [show (d.take m).length - 1 = m - 1 by rw [List.length_take]; omega]; intro h; rw [h] at c22; omega⟩, ?_⟩)
     rw [if_neg (fun e => by rw [e] at hlm; simp at hlm; omega)]
     exact ⟨⟨_, hb, by rw [hlm]; exact ho, by rw [ownL_slice]⟩, hB⟩
  ·have hm0 : m = 0 := by omega
   refine DS.y rfl rfl (Y.move) ?_
   refine DS.skip rfl rfl ?_
   refine DS.skip rfl rfl ?_
   refine DS.skip rfl rfl ?_
   refine DS.skip rfl rfl ?_
   refine DS.skip rfl rfl ?_
   refine DS.skip rfl rfl ?_
   refine DS.skip rfl rfl ?_
   refine DS.skip rfl rfl ?_
   refine DS.skip rfl rfl ?_
   refine DS.skip rfl rfl ?_
   refine DS.skip rfl rfl ?_
   refine DS.skip rfl rfl ?_
   refine DS.skip rfl rfl ?_
   refine DS.y rfl rfl (Y.pickF rfl) ?_
   refine DS.nil ?_
   show DC _ _ _ _ _ _
   refine DC.condF rfl ?_
   refine DC.exit ?_
   show DC _ _ _ _ _ _
   refine DC.seq ?_
   refine DC.seq ?_
   refine DC.region ?_
   refine DL.y rfl rfl (Y.move) ?_
   refine DL.y rfl rfl (Y.nil rfl) ?_
   refine DL.y rfl rfl (Y.field F.fd242_0 rfl) ?_
   refine DL.y rfl rfl (Y.loadB F.sc107 rfl hb rfl) ?_
   refine DL.y rfl rfl (Y.lenS Tryz.underlying107 rfl) ?_
   refine DL.if rfl rfl (Y.eq rfl rfl) (fun c43 => ?_) (fun c43 => ?_)
   ·refine DL.nil ?_
    show DC _ _ _ _ _ _
    refine DC.condT rfl ?_
    refine DC.region ?_
    refine DL.y rfl rfl (Y.move) ?_
    refine DL.y rfl rfl (Y.nil rfl) ?_
    refine DL.y rfl rfl (Y.field F.fd242_1 rfl) ?_
    refine DL.store rfl F.co3 F.in3 rfl rfl rfl hb rfl ?_
    intro w14 f15 hs16 hb'
    replace FR := FR.put f15 (by intro i hi; simp only [List.mem_cons, List.mem_singleton, List.not_mem_nil, or_false] at hi; rcases hi with rfl; all_goals (first | (left; simp; done) | (right; omega)))
    replace ho := ownsRow_fr ho f15 (by intro i hi hv; first | (simp at hi; done) | (simp only [List.mem_singleton] at hi; subst hi; exact own_ne_c ho hb (mem_ownL.2 hv)))
    replace hb := hb'
    refine DL.nil ?_
    show DC _ _ _ _ _ _
    refine DC.seq ?_
    refine DC.region ?_
    refine DL.y rfl rfl (Y.move) ?_
    refine DL.y rfl rfl (Y.assign) ?_
    refine DL.nil ?_
    show DC _ _ _ _ _ _
    refine DC.ret ?_
    have hlm : (d.take m).length = m := by rw [List.length_take]; omega
    have hm0 : m = 0 := by omega
    refine FinQ.ret1 rfl (Ret.mk FR ⟨rfl, d.take m, d.length - m, ⟨hdz, fun hne => absurd (by simp [List.take_zero, hm0]) hne⟩, ?_⟩)
    rw [if_pos (List.eq_nil_of_length_eq_zero (by omega))]
    exact ⟨⟨_, hb, by rw [hlm]; exact ho, by rw [ownL_slice]⟩, hB⟩
   ·refine DL.nil ?_
    show DC _ _ _ _ _ _
    refine DC.condF rfl ?_
    refine DC.skip ?_
    show DC _ _ _ _ _ _
    refine DC.seq ?_
    refine DC.region ?_
    refine DL.y rfl rfl (Y.move) ?_
    refine DL.y rfl rfl (Y.assign) ?_
    refine DL.nil ?_
    show DC _ _ _ _ _ _
    refine DC.ret ?_
    have hlm : (d.take m).length = m := by rw [List.length_take]; omega
    have hm0 : m = 0 := by omega
    refine FinQ.ret1 rfl (Ret.mk FR ⟨rfl, d.take m, d.length - m, ⟨hdz, fun hne => absurd (by simp [List.take_zero, hm0]) hne⟩, ?_⟩)
    rw [if_neg (fun e => by rw [e] at hlm; simp at hlm; omega)]
    exact ⟨⟨_, hb, by rw [hlm]; exact ho, by rw [ownL_slice]⟩, hB⟩

theorem digit_any {B c i : Nat} {X d : List Nat} {dp : Int} {w : World} (h : Dm w B c X d dp) : Calls Tryz.prog 240 #[(.pointer (some ⟨c, 0, none⟩)), .int .i64 (i : Int)] w (Ret w [] fun r w' => r = .int .u8 (dg d i : Int)) := by
 obtain ⟨v, hb, ho, rfl⟩ := h.out
 obtain ⟨a, cap, rfl, _, _⟩ := own_cells ho
 refine calls_of Tryz.func240 rfl rfl rfl rfl ?_
 have FR := Fr.refl [] w
 refine DC.seq ?_
 refine DC.region ?_
 refine DL.y rfl rfl (Y.assign) ?_
 refine DL.nil ?_
 show DC _ _ _ _ _ _
 refine DC.seq ?_
 refine DC.seq ?_
 refine DC.region ?_
 refine DL.y rfl rfl (Y.move) ?_
 refine DL.if rfl rfl (Y.ge rfl rfl) (fun c6 => ?_) (fun c6 => ?_)
 ·refine DL.y rfl rfl (Y.move) ?_
  refine DL.y rfl rfl (Y.move) ?_
  refine DL.y rfl rfl (Y.move) ?_
  refine DL.y rfl rfl (Y.nil rfl) ?_
  refine DL.y rfl rfl (Y.field F.fd242_0 rfl) ?_
  refine DL.y rfl rfl (Y.loadB F.sc107 rfl hb rfl) ?_
  refine DL.y rfl rfl (Y.lenS Tryz.underlying107 rfl) ?_
  refine DL.if rfl rfl (Y.lt rfl rfl) (fun c14 => ?_) (fun c14 => ?_)
  ·obtain ⟨g, rfl⟩ := own_some ho (by omega)
   refine DL.y rfl rfl (Y.pickT rfl) ?_
   refine DL.nil ?_
   show DC _ _ _ _ _ _
   refine DC.condT rfl ?_
   refine DC.seq ?_
   refine DC.region ?_
   refine DL.y rfl rfl (Y.move) ?_
   refine DL.y rfl rfl (Y.nil rfl) ?_
   refine DL.y rfl rfl (Y.field F.fd242_0 rfl) ?_
   refine DL.y rfl rfl (Y.loadB F.sc107 rfl hb rfl) ?_
   refine DL.y rfl rfl (Y.move) ?_
   refine DL.y rfl rfl (Y.index F.sl107 rfl rfl (rfl) (by omega)) ?_
   refine DL.y rfl rfl (Y.load F.sc5 rfl (own_dig ho (by omega))) ?_
   refine DL.y rfl rfl (Y.assign) ?_
   refine DL.nil ?_
   show DC _ _ _ _ _ _
   refine DC.ret ?_
   exact FinQ.ret1 rfl (Ret.mk FR rfl)
  ·refine DL.y rfl rfl (Y.pickT rfl) ?_
   refine DL.nil ?_
   show DC _ _ _ _ _ _
   refine DC.condF rfl ?_
   refine DC.skip ?_
   show DC _ _ _ _ _ _
   refine DC.seq ?_
   refine DC.region ?_
   refine DL.y rfl rfl (Y.assign) ?_
   refine DL.nil ?_
   show DC _ _ _ _ _ _
   refine DC.ret ?_
   exact FinQ.ret1 rfl (Ret.mk FR (by rw [dg_ge (by omega)]; rfl))
 ·exfalso; omega

end Go.Proofs.YtmbleojlnaofjaaGreatDoor

