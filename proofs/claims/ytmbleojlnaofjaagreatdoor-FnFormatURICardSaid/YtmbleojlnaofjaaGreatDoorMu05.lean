/- Own texts, merged: Js3, Js4, W. -/
import Derived.Test.YtmbleojlnaofjaaGreatDoorMu03
import Derived.Test.YtmbleojlnaofjaaGreatDoorMu04
import Derived.Test.YtmbleojlnaofjaaGreatDoorMu01
import Derived.Lib.Builder
import Derived.Lib.AppendStr
import Derived.Laws.Pointers
/- The walk of spec.JSON. -/
namespace Go.Proofs.YtmbleojlnaofjaaGreatDoor
open Go Go.RowKit D Go.Deep
set_option linter.unusedVariables false
set_option linter.unusedSimpArgs false


def JsonC (m : Nat) : Prop := ∀ (v : V) (cs : Array Value) (B : Nat) (w : World), v.nodes ≤ m → v.nodes ≤ 1000000 → v.bytes ≤ 1000000 → Good v → RV w B v cs → B ≤ w.heap.size → Calls Tryz.prog 39 #[.agg cs] w (Ret w [] fun r _ => ∃ b how, r = .tuple #[.string b, .int .i64 how] ∧ Said b how (jL v))
/-- The texts of a value's parts. -/
def partsJ (kind : Int) (list : List V) (keys : List ByteArray) (vals : List V) : List (List UInt8) := if kind = 6 then jMs keys vals else jLs list
theorem jL_parts {kind half : Int} {text : ByteArray} {list : List V} {keys : List ByteArray} {vals : List V} (h0 : ¬ kind = 0) (h1 : ¬ kind = 1) (h2 : ¬ kind = 2) (h3 : ¬ kind = 3) (h4 : ¬ kind = 4) (hk : 0 ≤ kind ∧ kind ≤ 6) :
  jL (.mk kind half text list keys vals) = (if kind = 6 then 123 else 91) :: (joinT (partsJ kind list keys vals) ++ [if kind = 6 then 125 else 93]) := by
 simp only [jL, partsJ]
 rw [if_neg h0, if_neg h1, if_neg h2, if_neg h3, if_neg h4]
 by_cases h5 : kind = 5
 ·rw [if_pos h5, if_neg (by omega), if_neg (by omega), if_neg (by omega)]
 ·rw [if_neg h5, if_pos (by omega), if_pos (by omega), if_pos (by omega)]
theorem parts_len {kind : Int} {list : List V} {keys : List ByteArray} {vals : List V} (hs : keys.length = vals.length) (hl : kind = 5 ∨ list.length = 0) (hk : kind = 6 ∨ keys.length = 0) : (partsJ kind list keys vals).length = (list ++ vals).length := by
 unfold partsJ
 by_cases h6 : kind = 6
 ·rw [if_pos h6, jMs_len _ _ hs, List.length_append]; omega
 ·rw [if_neg h6, jLs_len, List.length_append]; omega


theorem parts_tot {kind : Int} {list : List V} {keys : List ByteArray} {vals : List V} (hgl : ∀ i (h : i < list.length), Good list[i]) (hgv : ∀ i (h : i < vals.length), Good vals[i]) (hs : keys.length = vals.length) (hn : V.nodesL list + V.nodesL vals ≤ 1000000) (hb : V.bytesL list + bytesK keys + V.bytesL vals ≤ 1000000) : tot (partsJ kind list keys vals) ≤ 200000000 := by
 have h1 := jLs_tot list (fun i h => jL_len _ _ (Nat.le_refl _) (hgl i h))
 have h2 := jMs_tot keys vals hs (fun i h => jL_len _ _ (Nat.le_refl _) (hgv i h))
 unfold partsJ
 split <;> omega

set_option maxHeartbeats 2000000 in
theorem json_step (m : Nat) (ih : JsonC m) : JsonC (m + 1) := by
 intro v cs B w hm hm2 hby hG hR hB
 have hjl := jL_len _ v (Nat.le_refl _) hG
 obtain ⟨kind, half, text, list, keys, vals⟩ := v
 obtain ⟨⟨⟨hk1, hk2⟩, hz1, hz2, hz3, hz4, hkv, ⟨hb1', hb2'⟩, hodd, hv1, hv2, hrise⟩, hgl, hgv⟩ := hG
 have hnl := length_le_nodesL list
 have hnv := length_le_nodesL vals
 have hpl := parts_len (kind := kind) hkv hz3 hz4
 cases hR with | mk cl cv hk0 hh ht l1 k1 v1 ks hl rl hks hv rv =>
 rename_i la ka va lc kc vc
 simp only [V.nodes] at hm hm2
 simp only [V.bytes] at hby
 have hgel : ∀ i (h : i < (list ++ vals).length), Good (list ++ vals)[i] ∧ (list ++ vals)[i].nodes ≤ m ∧ (list ++ vals)[i].nodes ≤ 1000000 ∧ (list ++ vals)[i].bytes ≤ 1000000 := fun i h => by
  by_cases hi : i < list.length
  ·have e1 : (list ++ vals)[i] = list[i] := List.getElem_append_left hi
   rw [e1]; have := nodes_le hi; have := bytes_le hi; exact ⟨hgl i hi, by omega, by omega, by omega⟩
  ·have hi2 : i - list.length < vals.length := by simp only [List.length_append] at h; omega
   have e1 : (list ++ vals)[i] = vals[i - list.length] := List.getElem_append_right (by omega)
   rw [e1]; have := nodes_le hi2; have := bytes_le hi2; exact ⟨hgv _ hi2, by omega, by omega, by omega⟩
 refine calls_of Tryz.func39 rfl rfl rfl rfl ?_
 have FR := Fr.refl [] w
 refine DC.seq ?_
 refine DC.region ?_
 refine DL.boxA rfl rfl rfl ?_
 intro b1 w1 f2 lo1 hi1 hb1
 replace lo1 := Nat.le_trans FR.size lo1
 replace FR := FR.tr0 f2
 replace hl := hl.fr f2 (by intro x hx; simp <;> omega)
 replace hks := hks.fr f2 (by intro x hx; simp <;> omega)
 replace hv := hv.fr f2 (by intro x hx; simp <;> omega)
 replace rl := fun i h => (rl i h).fr f2 (by intro x hx; simp <;> omega)
 replace rv := fun i h => (rv i h).fr f2 (by intro x hx; simp <;> omega)
 refine DL.y rfl rfl (Y.assign) ?_
 refine DL.y rfl rfl (Y.assign) ?_
 refine DL.nil ?_
 show DC _ _ _ _ _ _
 refine DC.seq ?_
 refine DC.seq ?_
 refine DC.region ?_
 refine DL.y rfl rfl (Y.field F.fd26_0 rfl) ?_
 refine DL.y rfl rfl (Y.loadB F.sc22 rfl hb1 rfl) ?_
 refine DL.nil ?_
 show DC _ _ _ _ _ _
 refine DC.block ?_
 refine DC.seq ?_
 refine DC.region ?_
 refine DL.if rfl rfl (Y.eq rfl rfl) (fun c14 => ?_) (fun c14 => ?_)
 ·refine DL.y rfl rfl (Y.assign) ?_
  refine DL.nil ?_
  show DC _ _ _ _ _ _
  refine DC.condT rfl ?_
  refine DC.seq ?_
  refine DC.region ?_
  refine DL.y rfl rfl (Y.assign) ?_
  refine DL.y rfl rfl (Y.assign) ?_
  refine DL.nil ?_
  show DC _ _ _ _ _ _
  refine DC.ret ?_
  exact FinQ.ret2 rfl rfl (Ret.mk FR ⟨_, _, rfl, Or.inl ⟨rfl, by simp [jL, c14]⟩⟩)
 ·refine DL.y rfl rfl (Y.assign) ?_
  refine DL.nil ?_
  show DC _ _ _ _ _ _
  refine DC.condF rfl ?_
  refine DC.seq ?_
  refine DC.region ?_
  refine DL.if rfl rfl (Y.eq rfl rfl) (fun c16 => ?_) (fun c16 => ?_)
  ·refine DL.y rfl rfl (Y.assign) ?_
   refine DL.nil ?_
   show DC _ _ _ _ _ _
   refine DC.condT rfl ?_
   refine DC.seq ?_
   refine DC.region ?_
   refine DL.y rfl rfl (Y.assign) ?_
   refine DL.y rfl rfl (Y.assign) ?_
   refine DL.nil ?_
   show DC _ _ _ _ _ _
   refine DC.ret ?_
   exact FinQ.ret2 rfl rfl (Ret.mk FR ⟨_, _, rfl, Or.inl ⟨rfl, by simp [jL, c16]⟩⟩)
  ·refine DL.y rfl rfl (Y.assign) ?_
   refine DL.nil ?_
   show DC _ _ _ _ _ _
   refine DC.condF rfl ?_
   refine DC.seq ?_
   refine DC.region ?_
   refine DL.if rfl rfl (Y.eq rfl rfl) (fun c18 => ?_) (fun c18 => ?_)
   ·refine DL.y rfl rfl (Y.assign) ?_
    refine DL.nil ?_
    show DC _ _ _ _ _ _
    refine DC.condT rfl ?_
    refine DC.seq ?_
    refine DC.region ?_
    refine DL.y rfl rfl (Y.assign) ?_
    refine DL.y rfl rfl (Y.assign) ?_
    refine DL.nil ?_
    show DC _ _ _ _ _ _
    refine DC.ret ?_
    exact FinQ.ret2 rfl rfl (Ret.mk FR ⟨_, _, rfl, Or.inl ⟨rfl, by simp [jL, c18]⟩⟩)
   ·refine DL.y rfl rfl (Y.assign) ?_
    refine DL.nil ?_
    show DC _ _ _ _ _ _
    refine DC.condF rfl ?_
    refine DC.seq ?_
    refine DC.region ?_
    refine DL.if rfl rfl (Y.eq rfl rfl) (fun c20 => ?_) (fun c20 => ?_)
    ·refine DL.y rfl rfl (Y.assign) ?_
     refine DL.nil ?_
     show DC _ _ _ _ _ _
     refine DC.condT rfl ?_
     refine DC.seq ?_
     refine DC.region ?_
     refine DL.y rfl rfl (Y.field F.fd26_1 rfl) ?_
     refine DL.y rfl rfl (Y.loadB F.sc3 rfl hb1 rfl) ?_
     refine DL.call rfl rfl F.nm74 rfl (figures_any half ⟨by omega, by omega⟩ _) ?_
     rintro _ w3 f4 ⟨bf, howf, rfl, hsd⟩
     replace FR := FR.tr0 f4
     replace hl := hl.fr f4 (by intro x hx; simp <;> omega)
     replace hks := hks.fr f4 (by intro x hx; simp <;> omega)
     replace hv := hv.fr f4 (by intro x hx; simp <;> omega)
     replace rl := fun i h => (rl i h).fr f4 (by intro x hx; simp <;> omega)
     replace rv := fun i h => (rv i h).fr f4 (by intro x hx; simp <;> omega)
     replace hb1 := f4.blk0 hb1
     replace hi1 := Nat.lt_of_lt_of_le hi1 f4.size
     refine DL.y rfl rfl (Y.extract rfl rfl) ?_
     refine DL.y rfl rfl (Y.extract rfl rfl) ?_
     refine DL.y rfl rfl (Y.assign) ?_
     refine DL.y rfl rfl (Y.assign) ?_
     refine DL.nil ?_
     show DC _ _ _ _ _ _
     refine DC.ret ?_
     refine FinQ.ret2 rfl rfl (Ret.mk FR ⟨_, _, rfl, ?_⟩)
     have e : jL (.mk kind half text list keys vals) = numL half := by simp [jL, c20]
     rw [e]; exact hsd
    ·refine DL.y rfl rfl (Y.assign) ?_
     refine DL.nil ?_
     show DC _ _ _ _ _ _
     refine DC.condF rfl ?_
     refine DC.seq ?_
     refine DC.region ?_
     refine DL.if rfl rfl (Y.eq rfl rfl) (fun c27 => ?_) (fun c27 => ?_)
     ·refine DL.y rfl rfl (Y.assign) ?_
      refine DL.nil ?_
      show DC _ _ _ _ _ _
      refine DC.condT rfl ?_
      refine DC.seq ?_
      refine DC.region ?_
      refine DL.y rfl rfl (Y.field F.fd26_2 rfl) ?_
      refine DL.y rfl rfl (Y.loadB F.sc9 rfl hb1 rfl) ?_
      refine DL.call rfl rfl F.nm75 rfl (quoted_any text (by omega) _) ?_
      rintro _ w5 f6 ⟨bf, howf, rfl, hsd⟩
      replace FR := FR.tr0 f6
      replace hl := hl.fr f6 (by intro x hx; simp <;> omega)
      replace hks := hks.fr f6 (by intro x hx; simp <;> omega)
      replace hv := hv.fr f6 (by intro x hx; simp <;> omega)
      replace rl := fun i h => (rl i h).fr f6 (by intro x hx; simp <;> omega)
      replace rv := fun i h => (rv i h).fr f6 (by intro x hx; simp <;> omega)
      replace hb1 := f6.blk0 hb1
      replace hi1 := Nat.lt_of_lt_of_le hi1 f6.size
      refine DL.y rfl rfl (Y.extract rfl rfl) ?_
      refine DL.y rfl rfl (Y.extract rfl rfl) ?_
      refine DL.y rfl rfl (Y.assign) ?_
      refine DL.y rfl rfl (Y.assign) ?_
      refine DL.nil ?_
      show DC _ _ _ _ _ _
      refine DC.ret ?_
      refine FinQ.ret2 rfl rfl (Ret.mk FR ⟨_, _, rfl, ?_⟩)
      have e : jL (.mk kind half text list keys vals) = qL text.data.toList := by simp [jL, c27]
      rw [e]; exact hsd
     ·refine DL.y rfl rfl (Y.assign) ?_
      refine DL.nil ?_
      show DC _ _ _ _ _ _
      refine DC.condF rfl ?_
      refine DC.seq ?_
      refine DC.region ?_
      refine DL.if rfl rfl (Y.eq rfl rfl) (fun c34 => ?_) (fun c34 => ?_)
      ·exfalso; omega
      ·refine DL.y rfl rfl (Y.assign) ?_
       refine DL.nil ?_
       show DC _ _ _ _ _ _
       refine DC.condF rfl ?_
       refine DC.skip ?_
       show DC _ _ _ _ _ _
       refine DC.seq ?_
       refine DC.seq ?_
       refine DC.region ?_
       refine DL.y rfl rfl (Y.field F.fd26_0 rfl) ?_
       refine DL.y rfl rfl (Y.loadB F.sc22 rfl hb1 rfl) ?_
       refine DL.if rfl rfl (Y.eq rfl rfl) (fun c37 => ?_) (fun c37 => ?_)
       ·refine DL.y rfl rfl (Y.move) ?_
        refine DL.y rfl rfl (Y.field F.fd26_4 rfl) ?_
        refine DL.y rfl rfl (Y.loadB F.sc24 rfl hb1 rfl) ?_
        refine DL.y rfl rfl (Y.lenS Tryz.underlying24 rfl) ?_
        refine DL.y rfl rfl (Y.field F.fd26_5 rfl) ?_
        refine DL.y rfl rfl (Y.loadB F.sc23 rfl hb1 rfl) ?_
        refine DL.y rfl rfl (Y.lenS Tryz.underlying23 rfl) ?_
        refine DL.if rfl rfl (Y.ne rfl rfl) (fun c45 => ?_) (fun c45 => ?_)
        ·exfalso; omega
        ·refine DL.y rfl rfl (Y.move) ?_
         refine DL.y rfl rfl (Y.field F.fd26_3 rfl) ?_
         refine DL.y rfl rfl (Y.loadB F.sc23 rfl hb1 rfl) ?_
         refine DL.y rfl rfl (Y.lenS Tryz.underlying23 rfl) ?_
         refine DL.if rfl rfl (Y.gt rfl rfl) (fun c50 => ?_) (fun c50 => ?_)
         ·exfalso; omega
         ·refine DL.y rfl rfl (Y.pickF rfl) ?_
          refine DL.y rfl rfl (Y.pickT rfl) ?_
          refine DL.y rfl rfl (Y.move) ?_
          refine DL.y rfl rfl (Y.field F.fd26_0 rfl) ?_
          refine DL.y rfl rfl (Y.loadB F.sc22 rfl hb1 rfl) ?_
          refine DL.if rfl rfl (Y.ne rfl rfl) (fun c56 => ?_) (fun c56 => ?_)
          ·exfalso; omega
          ·refine DL.y rfl rfl (Y.move) ?_
           refine DL.skip rfl rfl ?_
           refine DL.skip rfl rfl ?_
           refine DL.skip rfl rfl ?_
           refine DL.skip rfl rfl ?_
           refine DL.y rfl rfl (Y.pickF rfl) ?_
           refine DL.y rfl rfl (Y.pickF rfl) ?_
           refine DL.nil ?_
           show DC _ _ _ _ _ _
           refine DC.condF rfl ?_
           refine DC.skip ?_
           show DC _ _ _ _ _ _
           refine DC.seq ?_
           refine DC.region ?_
           refine DL.y rfl rfl (Y.assign) ?_
           refine DL.nil ?_
           show DC _ _ _ _ _ _
           refine DC.seq ?_
           refine DC.seq ?_
           refine DC.forget [(1, .pointer (some ⟨b1, 0, none⟩)), (4, .string ⟨#[]⟩)] ⟨rfl, rfl⟩ (fun e0 => ?_)
           refine DC.drawn (fun w0 => Fr [] w0) 9 F.mixed ?_
           intro wd fd hsd
           replace FR := FR.tr0 fd
           replace hl := hl.fr fd (by intro x hx; simp <;> omega)
           replace hks := hks.fr fd (by intro x hx; simp <;> omega)
           replace hv := hv.fr fd (by intro x hx; simp <;> omega)
           replace rl := fun i h => (rl i h).fr fd (by intro x hx; simp <;> omega)
           replace rv := fun i h => (rv i h).fr fd (by intro x hx; simp <;> omega)
           replace hb1 := fd.blk0 hb1
           replace hi1 := Nat.lt_of_lt_of_le hi1 fd.size
           refine ⟨Fr.refl _ _, ?_⟩
           refine DG.take 1 rfl (by kernel_rfl) (by kernel_rfl) (by kernel_rfl) (by kernel_rfl) (by kernel_rfl) rfl rfl (fun wq fq => Y.field F.fd26_3 rfl) ?_
           refine DG.take 2 rfl (by kernel_rfl) (by kernel_rfl) (by kernel_rfl) (by kernel_rfl) (by kernel_rfl) rfl rfl (fun wq fq => Y.loadB F.sc23 rfl (fq.blk0 hb1) rfl) ?_
           refine DG.take 4 rfl (by kernel_rfl) (by kernel_rfl) (by kernel_rfl) (by kernel_rfl) (by kernel_rfl) rfl rfl (fun wq fq => Y.field F.fd26_5 rfl) ?_
           refine DG.take 5 rfl (by kernel_rfl) (by kernel_rfl) (by kernel_rfl) (by kernel_rfl) (by kernel_rfl) rfl rfl (fun wq fq => Y.loadB F.sc23 rfl (fq.blk0 hb1) rfl) ?_
           refine DG.take 8 rfl (by kernel_rfl) (by kernel_rfl) (by kernel_rfl) (by kernel_rfl) (by kernel_rfl) rfl rfl (fun wq fq => Y.move) ?_
           obtain ⟨E0, hE0⟩ : ∃ E0, E0 = wd.heap.size := ⟨_, rfl⟩
           have hE0w : w.heap.size ≤ E0 := by have := FR.size; omega
           have hb1E : b1 < E0 := by omega
           refine DG.pick [0] (by kernel_rfl) (by simp) (fun i hi => ?_)
           obtain rfl := List.mem_singleton.1 hi
           refine ⟨_, rfl, ?_⟩
           refine DL.buildSl0 rfl rfl Tryz.underlying23 F.in26 ?_
           intro b64 we0 fe0 lo64 hi64 hb64
           replace FR := FR.tr0 fe0
           replace hl := hl.fr fe0 (by intro x hx; simp <;> omega)
           replace hks := hks.fr fe0 (by intro x hx; simp <;> omega)
           replace hv := hv.fr fe0 (by intro x hx; simp <;> omega)
           replace rl := fun i h => (rl i h).fr fe0 (by intro x hx; simp <;> omega)
           replace rv := fun i h => (rv i h).fr fe0 (by intro x hx; simp <;> omega)
           replace hb1 := fe0.blk0 hb1
           replace hi1 := Nat.lt_of_lt_of_le hi1 fe0.size
           have FS : Fr [] wd we0 := fe0
           refine DL.nil ⟨Or.inr FS, ?_⟩
           refine DG.pick [3] (by kernel_rfl) (by simp) (fun i hi => ?_)
           obtain rfl := List.mem_singleton.1 hi
           refine ⟨_, rfl, ?_⟩
           refine DL.appendRow (css := []) (cl := cl) rfl rfl F.el23 rfl rfl (own_empty hb64 (by omega : E0 ≤ b64)) (fun i hi => by obtain ⟨b, o, h1, _, h2, h3⟩ := hl i hi; exact ⟨b, o, h1, h2, h3, (rl i hi).one⟩) (by omega) (by omega) (by have := FS.size; omega) ?_
           intro v67 we1 fe1 hown67 hat67
           have hlo1 : ∀ i ∈ ownL (.slice (some ⟨b64, 0, none⟩) 0 0), E0 ≤ i := fun i hi => by simp [ownL, Value.ownBlock] at hi; omega
           replace FR := FR.put fe1 (fun i hi => Or.inr (by have := hlo1 i hi; omega))
           replace hl := hl.fr fe1 (fun b hb hm => by have := hlo1 b hm; omega)
           replace hks := hks.fr fe1 (fun b hb hm => by have := hlo1 b hm; omega)
           replace hv := hv.fr fe1 (fun b hb hm => by have := hlo1 b hm; omega)
           replace rl := fun i h => (rl i h).fr fe1 (fun b hb hm => by have := hlo1 b hm; omega)
           replace rv := fun i h => (rv i h).fr fe1 (fun b hb hm => by have := hlo1 b hm; omega)
           replace hb1 := fe1.blk hb1 (fun hm => by have := hlo1 _ hm; omega)
           replace hi1 := Nat.lt_of_lt_of_le hi1 fe1.size
           replace FS := FS.put fe1 (fun i hi => Or.inr (by have := hlo1 i hi; omega))
           refine DL.nil ⟨Or.inr FS, ?_⟩
           refine DG.pick [6] (by kernel_rfl) (by simp) (fun i hi => ?_)
           obtain rfl := List.mem_singleton.1 hi
           refine ⟨_, rfl, ?_⟩
           refine DL.appendRow (cl := cv) rfl rfl F.el23 rfl rfl hown67 (fun i hi => by obtain ⟨b, o, h1, _, h2, h3⟩ := hv i hi; exact ⟨b, o, h1, h2, h3, (rv i hi).one⟩) (by omega) (by omega) (by have := FS.size; omega) ?_
           intro v70 we2 fe2 hown70 hat70
           have hlo2 : ∀ i ∈ ownL v67, E0 ≤ i := fun i hi => (own_ge hown67 i hi).1
           replace FR := FR.put fe2 (fun i hi => Or.inr (by have := hlo2 i hi; omega))
           replace hl := hl.fr fe2 (fun b hb hm => by have := hlo2 b hm; omega)
           replace hks := hks.fr fe2 (fun b hb hm => by have := hlo2 b hm; omega)
           replace hv := hv.fr fe2 (fun b hb hm => by have := hlo2 b hm; omega)
           replace rl := fun i h => (rl i h).fr fe2 (fun b hb hm => by have := hlo2 b hm; omega)
           replace rv := fun i h => (rv i h).fr fe2 (fun b hb hm => by have := hlo2 b hm; omega)
           replace hb1 := fe2.blk hb1 (fun hm => by have := hlo2 _ hm; omega)
           replace hi1 := Nat.lt_of_lt_of_le hi1 fe2.size
           replace FS := FS.put fe2 (fun i hi => Or.inr (by have := hlo2 i hi; omega))
           have hsix : ∀ c ∈ [] ++ (List.range list.length).map cl ++ (List.range vals.length).map cv, c.size = 6 := fun c hc => by
            simp only [List.nil_append, List.mem_append, List.mem_map, List.mem_range] at hc
            rcases hc with ⟨i, hi, rfl⟩ | ⟨i, hi, rfl⟩
            ·obtain ⟨_, _, _, _, _, h⟩ := hl i hi; exact h
            ·obtain ⟨_, _, _, _, _, h⟩ := hv i hi; exact h
           obtain ⟨a70, c70, rfl, hrow⟩ := row_of_own hown70 hsix (by simp) (by decide)
           have hlo3 := fun i hi => own_ge hown70 i hi
           obtain ⟨E1, hE1⟩ : ∃ E1, E1 = we2.heap.size := ⟨_, rfl⟩
           have hE1le := Nat.le_of_eq hE1
           replace hrow := hrow.mono (D' := fun b => E0 ≤ b ∧ b < E1) (fun b hb => by have := hlo3 b (mem_ownL.2 hb); omega)
           have hN : 0 + list.length + vals.length = (list ++ vals).length := by simp
           rw [hN] at hrow
           have hce : ∀ i (h : i < (list ++ vals).length), RV we2 B (list ++ vals)[i] (([] ++ (List.range list.length).map cl ++ (List.range vals.length).map cv).getD i #[]) := fun i h => by
            by_cases hi : i < list.length
            ·have e1 : (list ++ vals)[i] = list[i] := List.getElem_append_left hi
             rw [e1]; simpa [List.getD_eq_getElem?_getD, List.getElem?_append_left, hi] using rl i hi
            ·have hi2 : i - list.length < vals.length := by simp only [List.length_append] at h; omega
             have e1 : (list ++ vals)[i] = vals[i - list.length] := List.getElem_append_right (by omega)
             rw [e1]
             have e2 : ([] ++ (List.range list.length).map cl ++ (List.range vals.length).map cv).getD i #[] = cv (i - list.length) := by
              rw [List.nil_append, List.getD_eq_getElem?_getD, List.getElem?_append_right (by simp; omega)]; simp [hi2]
             rw [e2]; exact rv _ hi2
           obtain ⟨ce, hcee⟩ : ∃ ce : Nat → Array Value, ce = fun i => ([] ++ (List.range list.length).map cl ++ (List.range vals.length).map cv).getD i #[] := ⟨_, rfl⟩
           rw [← hcee] at hrow
           replace hce : ∀ i (h : i < (list ++ vals).length), RV we2 B (list ++ vals)[i] (ce i) := fun i h => by rw [hcee]; exact hce i h
           refine DL.nil ⟨Or.inr FS, ?_⟩
           refine DG.pick [7] (by kernel_rfl) (by simp) (fun i hi => ?_)
           obtain rfl := List.mem_singleton.1 hi
           refine ⟨_, rfl, ?_⟩
           refine DL.y rfl rfl (Y.lenS Tryz.underlying23 rfl) ?_
           refine DL.nil ⟨Or.inr FS, ?_⟩
           rw [hN]
           refine DG.done (by kernel_rfl) ?_
           show DC _ _ _ _ _ _
           refine DC.block ?_
           refine DC.loopE (σ := Nat × ByteArray) [(2, 10), (72, 111)] [(1, .pointer (some ⟨b1, 0, none⟩)), (70, .slice a70 (list ++ vals).length c70), (71, .int .i64 ((list ++ vals).length : Int))] (fun (i, out) => [(4, .string out), (72, .int .i64 (i : Int))]) (fun sg wl => Fr [] we2 wl ∧ (fun (i, out) wl => i ≤ (list ++ vals).length ∧ out.data.toList = joinT ((partsJ kind list keys vals).take i)) sg wl) (fun (i, _) => (list ++ vals).length - i) ((0, ⟨#[]⟩)) rfl ?_ ?_ ?_ ?_
           ·exact ⟨rfl, rfl, rfl⟩
           ·exact ⟨rfl, rfl⟩
           ·exact ⟨Fr.refl _ _, Nat.zero_le _, by simp [joinT]⟩
           ·rintro e0 ⟨i, out⟩ j w7 ⟨f8, hi0, hout⟩
            replace FR := FR.tr0 f8
            replace hl := hl.fr f8 (by intro x hx; simp <;> omega)
            replace hks := hks.fr f8 (by intro x hx; simp <;> omega)
            replace hv := hv.fr f8 (by intro x hx; simp <;> omega)
            replace rl := fun i h => (rl i h).fr f8 (by intro x hx; simp <;> omega)
            replace rv := fun i h => (rv i h).fr f8 (by intro x hx; simp <;> omega)
            replace hb1 := f8.blk0 hb1
            replace hi1 := Nat.lt_of_lt_of_le hi1 f8.size
            replace hrow := hrow.fr f8 (by intro b hb hm; first | (simp at hm; done) | (simp only [List.mem_singleton] at hm; omega))
            replace hce := fun i h => (hce i h).fr f8 (by intro b hb hm; first | (simp at hm; done) | (simp only [List.mem_singleton] at hm; omega))
            replace hE1le := Nat.le_trans hE1le f8.size
            have G9 := f8
            have HG9 := Fr.refl [] w7
            refine DC.seq ?_
            refine DC.region ?_
            refine DL.if rfl rfl (Y.lt rfl rfl) (fun c73 => ?_) (fun c73 => ?_)
            ·have hi : i < (list ++ vals).length := by omega
             obtain ⟨hge, hge2, hge3, hge4⟩ := hgel i hi
             have hjpp := jL_parts (half := half) (text := text) (list := list) (keys := keys) (vals := vals) c14 c16 c18 c20 c27 ⟨hk1, hk2⟩
             have htt := tot_get (es := partsJ kind list keys vals) (i := i) (by omega)
             have hjt := joinT_tot ((partsJ kind list keys vals).take i)
             have hso := size_list out
             rw [hout] at hso
             have htot : tot (partsJ kind list keys vals) ≤ 200000000 := parts_tot hgl hgv hkv (by omega) (by omega)
             obtain ⟨ba, oa, rfl, hba, hcl, hcs6⟩ := hrow i hi
             refine DL.nil ?_
             show DC _ _ _ _ _ _
             refine DC.seq ?_
             refine DC.condT rfl ?_
             refine DC.skip ?_
             show DC _ _ _ _ _ _
             refine DC.seq ?_
             refine DC.block ?_
             refine DC.seq ?_
             refine DC.region ?_
             refine DL.y rfl rfl (Y.move) ?_
             refine DL.y rfl rfl (Y.index F.sl23 rfl rfl rfl hi) ?_
             refine DL.y rfl rfl (Y.loadAn hcs6 F.ag26 rfl hcl) ?_
             refine DL.alloc rfl rfl F.z26 rfl ?_
             intro b6 w10 f11 lo6 hi6 hb6
             have lt_b1_b6 : b1 < b6 := Nat.lt_of_lt_of_le hi1 lo6
             have le_E1_b6 : E1 ≤ b6 := Nat.le_trans hE1le lo6
             have lo6G9 := Nat.le_trans G9.size lo6
             have lo6HG9 := Nat.le_trans HG9.size lo6
             replace lo6 := Nat.le_trans FR.size lo6
             replace FR := FR.tr0 f11
             replace G9 := G9.tr0 f11
             replace HG9 := HG9.tr0 f11
             replace hl := hl.fr f11 (by intro x hx; simp <;> omega)
             replace hks := hks.fr f11 (by intro x hx; simp <;> omega)
             replace hv := hv.fr f11 (by intro x hx; simp <;> omega)
             replace rl := fun i h => (rl i h).fr f11 (by intro x hx; simp <;> omega)
             replace rv := fun i h => (rv i h).fr f11 (by intro x hx; simp <;> omega)
             replace hb1 := f11.blk0 hb1
             replace hi1 := Nat.lt_of_lt_of_le hi1 f11.size
             replace hrow := hrow.fr f11 (by intro b hb hm; first | (simp at hm; done) | (simp only [List.mem_singleton] at hm; omega))
             replace hce := fun i h => (hce i h).fr f11 (by intro b hb hm; first | (simp at hm; done) | (simp only [List.mem_singleton] at hm; omega))
             replace hE1le := Nat.le_trans hE1le f11.size
             refine DL.y rfl rfl (Y.assign) ?_
             refine DL.storeA (cs := ce i) rfl F.ag26 rfl rfl (hce i hi).size (hce i hi).one hb6 rfl ?_
             intro w12 f13 hs14 hb6'
             replace FR := FR.put f13 (by intro i hi; simp only [List.mem_cons, List.mem_singleton, List.not_mem_nil, or_false] at hi; rcases hi with rfl; all_goals (first | (left; simp; done) | (right; omega)))
             replace G9 := G9.put f13 (by intro i hi; simp only [List.mem_cons, List.mem_singleton, List.not_mem_nil, or_false] at hi; rcases hi with rfl; all_goals (first | (left; simp; done) | (right; omega)))
             replace HG9 := HG9.put f13 (by intro i hi; simp only [List.mem_cons, List.mem_singleton, List.not_mem_nil, or_false] at hi; rcases hi with rfl; all_goals (first | (left; simp; done) | (right; omega)))
             replace hl := hl.fr f13 (by intro x hx; simp <;> omega)
             replace hks := hks.fr f13 (by intro x hx; simp <;> omega)
             replace hv := hv.fr f13 (by intro x hx; simp <;> omega)
             replace rl := fun i h => (rl i h).fr f13 (by intro x hx; simp <;> omega)
             replace rv := fun i h => (rv i h).fr f13 (by intro x hx; simp <;> omega)
             replace hb1 := f13.blk hb1 (by simp only [List.mem_cons, List.not_mem_nil, or_false, not_or]; omega)
             replace hi1 := Nat.lt_of_lt_of_le hi1 f13.size
             replace hrow := hrow.fr f13 (by intro b hb hm; first | (simp at hm; done) | (simp only [List.mem_singleton] at hm; omega))
             replace hce := fun i h => (hce i h).fr f13 (by intro b hb hm; first | (simp at hm; done) | (simp only [List.mem_singleton] at hm; omega))
             replace hE1le := Nat.le_trans hE1le f13.size
             replace hi6 := Nat.lt_of_lt_of_le hi6 f13.size
             replace hb6 := hb6'
             refine DL.nil ?_
             show DC _ _ _ _ _ _
             refine DC.seq ?_
             refine DC.seq ?_
             refine DC.region ?_
             refine DL.y rfl rfl (Y.move) ?_
             refine DL.if rfl rfl (Y.gt rfl rfl) (fun c78 => ?_) (fun c78 => ?_)
             ·refine DL.nil ?_
              show DC _ _ _ _ _ _
              refine DC.condT rfl ?_
              refine DC.region ?_
              refine DL.y rfl rfl (Y.move) ?_
              refine DL.catE rfl rfl rfl rfl (by rw [show (⟨#[44]⟩ : ByteArray).size = 1 from rfl]; omega) (fun c80 h80 => ?_)
              refine DL.y rfl rfl (Y.assign) ?_
              refine DL.nil ?_
              show DC _ _ _ _ _ _
              refine DC.seq ?_
              refine DC.seq ?_
              refine DC.region ?_
              refine DL.y rfl rfl (Y.field F.fd26_0 rfl) ?_
              refine DL.y rfl rfl (Y.loadB F.sc22 rfl hb1 rfl) ?_
              refine DL.if rfl rfl (Y.eq rfl rfl) (fun c83 => ?_) (fun c83 => ?_)
              ·have hik : i < keys.length := by simp only [List.length_append] at hi; omega
               obtain ⟨bk, ok, rfl, hbk, hkc⟩ := hks.str hik
               have hkb := key_le (List.getElem_mem hik)
               refine DL.nil ?_
               show DC _ _ _ _ _ _
               refine DC.condT rfl ?_
               refine DC.seq ?_
               refine DC.region ?_
               refine DL.y rfl rfl (Y.field F.fd26_4 rfl) ?_
               refine DL.y rfl rfl (Y.loadB F.sc24 rfl hb1 rfl) ?_
               refine DL.y rfl rfl (Y.move) ?_
               refine DL.y rfl rfl (Y.index F.sl24 rfl rfl rfl hik) ?_
               refine DL.y rfl rfl (Y.load F.sc9 rfl hkc) ?_
               refine DL.call rfl rfl F.nm75 rfl (quoted_any keys[i] (by omega) _) ?_
               rintro _ w15 f16 ⟨b7, how7, rfl, hsd7⟩
               replace FR := FR.tr0 f16
               replace G9 := G9.tr0 f16
               replace HG9 := HG9.tr0 f16
               replace hl := hl.fr f16 (by intro x hx; simp <;> omega)
               replace hks := hks.fr f16 (by intro x hx; simp <;> omega)
               replace hv := hv.fr f16 (by intro x hx; simp <;> omega)
               replace rl := fun i h => (rl i h).fr f16 (by intro x hx; simp <;> omega)
               replace rv := fun i h => (rv i h).fr f16 (by intro x hx; simp <;> omega)
               replace hb1 := f16.blk0 hb1
               replace hi1 := Nat.lt_of_lt_of_le hi1 f16.size
               replace hrow := hrow.fr f16 (by intro b hb hm; first | (simp at hm; done) | (simp only [List.mem_singleton] at hm; omega))
               replace hce := fun i h => (hce i h).fr f16 (by intro b hb hm; first | (simp at hm; done) | (simp only [List.mem_singleton] at hm; omega))
               replace hE1le := Nat.le_trans hE1le f16.size
               replace hi6 := Nat.lt_of_lt_of_le hi6 f16.size
               replace hb6 := f16.blk0 hb6
               refine DL.y rfl rfl (Y.move) ?_
               refine DL.y rfl rfl (Y.extract rfl rfl) ?_
               refine DL.y rfl rfl (Y.extract rfl rfl) ?_
               refine DL.y rfl rfl (Y.assign) ?_
               refine DL.y rfl rfl (Y.assign) ?_
               refine DL.nil ?_
               show DC _ _ _ _ _ _
               refine DC.seq ?_
               refine DC.seq ?_
               refine DC.region ?_
               refine DL.y rfl rfl (Y.move) ?_
               refine DL.if rfl rfl (Y.ne rfl rfl) (fun c94 => ?_) (fun c94 => ?_)
               ·have hhow : how7 = 2 := hsd7.resolve_left (fun h => c94 h.1)
                refine DL.nil ?_
                show DC _ _ _ _ _ _
                refine DC.condT rfl ?_
                refine DC.seq ?_
                refine DC.region ?_
                refine DL.y rfl rfl (Y.move) ?_
                refine DL.y rfl rfl (Y.assign) ?_
                refine DL.y rfl rfl (Y.assign) ?_
                refine DL.nil ?_
                show DC _ _ _ _ _ _
                refine DC.ret ?_
                exact FinQ.ret2 rfl rfl (Ret.mk FR ⟨_, _, rfl, Or.inr hhow⟩)
               ·have hb7 := (hsd7.resolve_right (by omega)).2
                have hs7 := size_list b7
                rw [hb7] at hs7
                have hq7 := escT_len keys[i].data.toList
                have hq8 := size_list keys[i]
                simp only [qL, List.length_cons, List.length_append, List.length_nil] at hs7
                refine DL.nil ?_
                show DC _ _ _ _ _ _
                refine DC.condF rfl ?_
                refine DC.skip ?_
                show DC _ _ _ _ _ _
                refine DC.region ?_
                refine DL.y rfl rfl (Y.move) ?_
                refine DL.y rfl rfl (Y.move) ?_
                refine DL.catE rfl rfl rfl rfl (by rw [show (⟨#[58]⟩ : ByteArray).size = 1 from rfl]; omega) (fun c98 h98 => ?_)
                refine DL.catE rfl rfl rfl rfl (by have h1 := size_list c98; rw [h98, List.length_append] at h1; rw [hb7] at h1; simp only [qL, List.length_cons, List.length_append, List.length_nil, show (⟨#[58]⟩ : ByteArray).data.toList.length = 1 from rfl] at h1; have h2 := size_list c80; rw [h80, List.length_append, hout, show (⟨#[44]⟩ : ByteArray).data.toList.length = 1 from rfl] at h2; omega) (fun c99 h99 => ?_)
                refine DL.y rfl rfl (Y.assign) ?_
                refine DL.nil ?_
                show DC _ _ _ _ _ _
                refine DC.seq ?_
                refine DC.region ?_
                refine DL.y rfl rfl (Y.loadAn (hce i hi).size F.ag26 rfl (.ofBlk hb6)) ?_
                refine DL.call rfl rfl F.nm39 rfl (ih _ _ B _ hge2 hge3 hge4 hge (hce i hi) (by have := FR.size; omega)) ?_
                rintro _ w17 f18 ⟨b9, how9, rfl, hsd9⟩
                replace FR := FR.tr0 f18
                replace G9 := G9.tr0 f18
                replace HG9 := HG9.tr0 f18
                replace hl := hl.fr f18 (by intro x hx; simp <;> omega)
                replace hks := hks.fr f18 (by intro x hx; simp <;> omega)
                replace hv := hv.fr f18 (by intro x hx; simp <;> omega)
                replace rl := fun i h => (rl i h).fr f18 (by intro x hx; simp <;> omega)
                replace rv := fun i h => (rv i h).fr f18 (by intro x hx; simp <;> omega)
                replace hb1 := f18.blk0 hb1
                replace hi1 := Nat.lt_of_lt_of_le hi1 f18.size
                replace hrow := hrow.fr f18 (by intro b hb hm; first | (simp at hm; done) | (simp only [List.mem_singleton] at hm; omega))
                replace hce := fun i h => (hce i h).fr f18 (by intro b hb hm; first | (simp at hm; done) | (simp only [List.mem_singleton] at hm; omega))
                replace hE1le := Nat.le_trans hE1le f18.size
                replace hi6 := Nat.lt_of_lt_of_le hi6 f18.size
                replace hb6 := f18.blk0 hb6
                refine DL.y rfl rfl (Y.move) ?_
                refine DL.y rfl rfl (Y.extract rfl rfl) ?_
                refine DL.y rfl rfl (Y.extract rfl rfl) ?_
                refine DL.y rfl rfl (Y.assign) ?_
                refine DL.y rfl rfl (Y.assign) ?_
                refine DL.nil ?_
                show DC _ _ _ _ _ _
                refine DC.seq ?_
                refine DC.seq ?_
                refine DC.region ?_
                refine DL.y rfl rfl (Y.move) ?_
                refine DL.if rfl rfl (Y.ne rfl rfl) (fun c106 => ?_) (fun c106 => ?_)
                ·have hhow : how9 = 2 := hsd9.resolve_left (fun h => c106 h.1)
                 refine DL.nil ?_
                 show DC _ _ _ _ _ _
                 refine DC.condT rfl ?_
                 refine DC.seq ?_
                 refine DC.region ?_
                 refine DL.y rfl rfl (Y.move) ?_
                 refine DL.y rfl rfl (Y.assign) ?_
                 refine DL.y rfl rfl (Y.assign) ?_
                 refine DL.nil ?_
                 show DC _ _ _ _ _ _
                 refine DC.ret ?_
                 exact FinQ.ret2 rfl rfl (Ret.mk FR ⟨_, _, rfl, Or.inr hhow⟩)
                ·have hb9 := (hsd9.resolve_right (by omega)).2
                 have hs9 := size_list b9
                 rw [hb9] at hs9
                 have hl9 := jL_len _ _ (Nat.le_refl _) hge
                 refine DL.nil ?_
                 show DC _ _ _ _ _ _
                 refine DC.condF rfl ?_
                 refine DC.skip ?_
                 show DC _ _ _ _ _ _
                 refine DC.region ?_
                 refine DL.y rfl rfl (Y.move) ?_
                 refine DL.y rfl rfl (Y.move) ?_
                 refine DL.catE rfl rfl rfl rfl (by have h3 := size_list c99; rw [h99, List.length_append] at h3; have h1 := congrArg List.length h98; rw [List.length_append, hb7] at h1; simp only [qL, List.length_cons, List.length_append, List.length_nil, show (⟨#[58]⟩ : ByteArray).data.toList.length = 1 from rfl] at h1; have h2 := congrArg List.length h80; rw [List.length_append, hout, show (⟨#[44]⟩ : ByteArray).data.toList.length = 1 from rfl] at h2; omega) (fun c110 h110 => ?_)
                 refine DL.y rfl rfl (Y.assign) ?_
                 refine DL.nil ?_
                 show DC _ _ _ _ _ _
                 refine DC.region ?_
                 refine DL.y rfl rfl (Y.addI (c := ((i + 1 : Nat) : Int)) rfl rfl (by omega) (by omega) (by omega)) ?_
                 refine DL.y rfl rfl (Y.move) ?_
                 refine DL.nil ?_
                 have hjs := joinT_succ (es := partsJ kind list keys vals) (k := i) (by omega)
                 have hik : i < keys.length := by simp only [List.length_append] at hi; omega
                 have hi2 : i < vals.length := by omega
                 have hpe : (partsJ kind list keys vals)[i]'(by omega) = qL keys[i].data.toList ++ 58 :: jL vals[i] := by
                  have e : partsJ kind list keys vals = jMs keys vals := by rw [partsJ, if_pos (by omega)]
                  simp only [e]
                  exact jMs_get hik hi2 _
                 have hel : (list ++ vals)[i] = vals[i] := by
                  have e : list = [] := List.eq_nil_of_length_eq_zero (by omega)
                  subst e; rfl
                 rw [hel] at hb9
                 exact ⟨(i + 1, c110), ⟨G9, by omega, by rw [h110, h99, h98, h80, hout, hjs, hpe, hb9, hb7]; rw [if_neg (by omega)] <;> simp⟩, by show (list ++ vals).length - (i + 1) < (list ++ vals).length - i; omega, rfl, rfl⟩
              ·refine DL.nil ?_
               show DC _ _ _ _ _ _
               refine DC.condF rfl ?_
               refine DC.skip ?_
               show DC _ _ _ _ _ _
               refine DC.seq ?_
               refine DC.region ?_
               refine DL.y rfl rfl (Y.loadAn (hce i hi).size F.ag26 rfl (.ofBlk hb6)) ?_
               refine DL.call rfl rfl F.nm39 rfl (ih _ _ B _ hge2 hge3 hge4 hge (hce i hi) (by have := FR.size; omega)) ?_
               rintro _ w19 f20 ⟨b9, how9, rfl, hsd9⟩
               replace FR := FR.tr0 f20
               replace G9 := G9.tr0 f20
               replace HG9 := HG9.tr0 f20
               replace hl := hl.fr f20 (by intro x hx; simp <;> omega)
               replace hks := hks.fr f20 (by intro x hx; simp <;> omega)
               replace hv := hv.fr f20 (by intro x hx; simp <;> omega)
               replace rl := fun i h => (rl i h).fr f20 (by intro x hx; simp <;> omega)
               replace rv := fun i h => (rv i h).fr f20 (by intro x hx; simp <;> omega)
               replace hb1 := f20.blk0 hb1
               replace hi1 := Nat.lt_of_lt_of_le hi1 f20.size
               replace hrow := hrow.fr f20 (by intro b hb hm; first | (simp at hm; done) | (simp only [List.mem_singleton] at hm; omega))
               replace hce := fun i h => (hce i h).fr f20 (by intro b hb hm; first | (simp at hm; done) | (simp only [List.mem_singleton] at hm; omega))
               replace hE1le := Nat.le_trans hE1le f20.size
               replace hi6 := Nat.lt_of_lt_of_le hi6 f20.size
               replace hb6 := f20.blk0 hb6
               refine DL.y rfl rfl (Y.move) ?_
               refine DL.y rfl rfl (Y.extract rfl rfl) ?_
               refine DL.y rfl rfl (Y.extract rfl rfl) ?_
               refine DL.y rfl rfl (Y.assign) ?_
               refine DL.y rfl rfl (Y.assign) ?_
               refine DL.nil ?_
               show DC _ _ _ _ _ _
               refine DC.seq ?_
               refine DC.seq ?_
               refine DC.region ?_
               refine DL.y rfl rfl (Y.move) ?_
               refine DL.if rfl rfl (Y.ne rfl rfl) (fun c106 => ?_) (fun c106 => ?_)
               ·have hhow : how9 = 2 := hsd9.resolve_left (fun h => c106 h.1)
                refine DL.nil ?_
                show DC _ _ _ _ _ _
                refine DC.condT rfl ?_
                refine DC.seq ?_
                refine DC.region ?_
                refine DL.y rfl rfl (Y.move) ?_
                refine DL.y rfl rfl (Y.assign) ?_
                refine DL.y rfl rfl (Y.assign) ?_
                refine DL.nil ?_
                show DC _ _ _ _ _ _
                refine DC.ret ?_
                exact FinQ.ret2 rfl rfl (Ret.mk FR ⟨_, _, rfl, Or.inr hhow⟩)
               ·have hb9 := (hsd9.resolve_right (by omega)).2
                have hs9 := size_list b9
                rw [hb9] at hs9
                have hl9 := jL_len _ _ (Nat.le_refl _) hge
                refine DL.nil ?_
                show DC _ _ _ _ _ _
                refine DC.condF rfl ?_
                refine DC.skip ?_
                show DC _ _ _ _ _ _
                refine DC.region ?_
                refine DL.y rfl rfl (Y.move) ?_
                refine DL.y rfl rfl (Y.move) ?_
                refine DL.catE rfl rfl rfl rfl (by have h2 := size_list c80; rw [h80, List.length_append, hout, show (⟨#[44]⟩ : ByteArray).data.toList.length = 1 from rfl] at h2; omega) (fun c110 h110 => ?_)
                refine DL.y rfl rfl (Y.assign) ?_
                refine DL.nil ?_
                show DC _ _ _ _ _ _
                refine DC.region ?_
                refine DL.y rfl rfl (Y.addI (c := ((i + 1 : Nat) : Int)) rfl rfl (by omega) (by omega) (by omega)) ?_
                refine DL.y rfl rfl (Y.move) ?_
                refine DL.nil ?_
                have hjs := joinT_succ (es := partsJ kind list keys vals) (k := i) (by omega)
                have hik : i < list.length := by simp only [List.length_append] at hi; omega
                have hpe : (partsJ kind list keys vals)[i]'(by omega) = jL list[i] := by
                 have e : partsJ kind list keys vals = jLs list := by rw [partsJ, if_neg (by omega)]
                 simp only [e]
                 exact jLs_get hik
                have hel : (list ++ vals)[i] = list[i] := List.getElem_append_left hik
                rw [hel] at hb9
                exact ⟨(i + 1, c110), ⟨G9, by omega, by rw [h110, h80, hout, hjs, hpe, hb9]; rw [if_neg (by omega)] <;> simp⟩, by show (list ++ vals).length - (i + 1) < (list ++ vals).length - i; omega, rfl, rfl⟩
             ·refine DL.nil ?_
              show DC _ _ _ _ _ _
              refine DC.condF rfl ?_
              refine DC.skip ?_
              show DC _ _ _ _ _ _
              refine DC.seq ?_
              refine DC.seq ?_
              refine DC.region ?_
              refine DL.y rfl rfl (Y.field F.fd26_0 rfl) ?_
              refine DL.y rfl rfl (Y.loadB F.sc22 rfl hb1 rfl) ?_
              refine DL.if rfl rfl (Y.eq rfl rfl) (fun c83 => ?_) (fun c83 => ?_)
              ·have hik : i < keys.length := by simp only [List.length_append] at hi; omega
               obtain ⟨bk, ok, rfl, hbk, hkc⟩ := hks.str hik
               have hkb := key_le (List.getElem_mem hik)
               refine DL.nil ?_
               show DC _ _ _ _ _ _
               refine DC.condT rfl ?_
               refine DC.seq ?_
               refine DC.region ?_
               refine DL.y rfl rfl (Y.field F.fd26_4 rfl) ?_
               refine DL.y rfl rfl (Y.loadB F.sc24 rfl hb1 rfl) ?_
               refine DL.y rfl rfl (Y.move) ?_
               refine DL.y rfl rfl (Y.index F.sl24 rfl rfl rfl hik) ?_
               refine DL.y rfl rfl (Y.load F.sc9 rfl hkc) ?_
               refine DL.call rfl rfl F.nm75 rfl (quoted_any keys[i] (by omega) _) ?_
               rintro _ w21 f22 ⟨b7, how7, rfl, hsd7⟩
               replace FR := FR.tr0 f22
               replace G9 := G9.tr0 f22
               replace HG9 := HG9.tr0 f22
               replace hl := hl.fr f22 (by intro x hx; simp <;> omega)
               replace hks := hks.fr f22 (by intro x hx; simp <;> omega)
               replace hv := hv.fr f22 (by intro x hx; simp <;> omega)
               replace rl := fun i h => (rl i h).fr f22 (by intro x hx; simp <;> omega)
               replace rv := fun i h => (rv i h).fr f22 (by intro x hx; simp <;> omega)
               replace hb1 := f22.blk0 hb1
               replace hi1 := Nat.lt_of_lt_of_le hi1 f22.size
               replace hrow := hrow.fr f22 (by intro b hb hm; first | (simp at hm; done) | (simp only [List.mem_singleton] at hm; omega))
               replace hce := fun i h => (hce i h).fr f22 (by intro b hb hm; first | (simp at hm; done) | (simp only [List.mem_singleton] at hm; omega))
               replace hE1le := Nat.le_trans hE1le f22.size
               replace hi6 := Nat.lt_of_lt_of_le hi6 f22.size
               replace hb6 := f22.blk0 hb6
               refine DL.y rfl rfl (Y.move) ?_
               refine DL.y rfl rfl (Y.extract rfl rfl) ?_
               refine DL.y rfl rfl (Y.extract rfl rfl) ?_
               refine DL.y rfl rfl (Y.assign) ?_
               refine DL.y rfl rfl (Y.assign) ?_
               refine DL.nil ?_
               show DC _ _ _ _ _ _
               refine DC.seq ?_
               refine DC.seq ?_
               refine DC.region ?_
               refine DL.y rfl rfl (Y.move) ?_
               refine DL.if rfl rfl (Y.ne rfl rfl) (fun c94 => ?_) (fun c94 => ?_)
               ·have hhow : how7 = 2 := hsd7.resolve_left (fun h => c94 h.1)
                refine DL.nil ?_
                show DC _ _ _ _ _ _
                refine DC.condT rfl ?_
                refine DC.seq ?_
                refine DC.region ?_
                refine DL.y rfl rfl (Y.move) ?_
                refine DL.y rfl rfl (Y.assign) ?_
                refine DL.y rfl rfl (Y.assign) ?_
                refine DL.nil ?_
                show DC _ _ _ _ _ _
                refine DC.ret ?_
                exact FinQ.ret2 rfl rfl (Ret.mk FR ⟨_, _, rfl, Or.inr hhow⟩)
               ·have hb7 := (hsd7.resolve_right (by omega)).2
                have hs7 := size_list b7
                rw [hb7] at hs7
                have hq7 := escT_len keys[i].data.toList
                have hq8 := size_list keys[i]
                simp only [qL, List.length_cons, List.length_append, List.length_nil] at hs7
                refine DL.nil ?_
                show DC _ _ _ _ _ _
                refine DC.condF rfl ?_
                refine DC.skip ?_
                show DC _ _ _ _ _ _
                refine DC.region ?_
                refine DL.y rfl rfl (Y.move) ?_
                refine DL.y rfl rfl (Y.move) ?_
                refine DL.catE rfl rfl rfl rfl (by rw [show (⟨#[58]⟩ : ByteArray).size = 1 from rfl]; omega) (fun c98 h98 => ?_)
                refine DL.catE rfl rfl rfl rfl (by have h1 := size_list c98; rw [h98, List.length_append] at h1; rw [hb7] at h1; simp only [qL, List.length_cons, List.length_append, List.length_nil, show (⟨#[58]⟩ : ByteArray).data.toList.length = 1 from rfl] at h1; omega) (fun c99 h99 => ?_)
                refine DL.y rfl rfl (Y.assign) ?_
                refine DL.nil ?_
                show DC _ _ _ _ _ _
                refine DC.seq ?_
                refine DC.region ?_
                refine DL.y rfl rfl (Y.loadAn (hce i hi).size F.ag26 rfl (.ofBlk hb6)) ?_
                refine DL.call rfl rfl F.nm39 rfl (ih _ _ B _ hge2 hge3 hge4 hge (hce i hi) (by have := FR.size; omega)) ?_
                rintro _ w23 f24 ⟨b9, how9, rfl, hsd9⟩
                replace FR := FR.tr0 f24
                replace G9 := G9.tr0 f24
                replace HG9 := HG9.tr0 f24
                replace hl := hl.fr f24 (by intro x hx; simp <;> omega)
                replace hks := hks.fr f24 (by intro x hx; simp <;> omega)
                replace hv := hv.fr f24 (by intro x hx; simp <;> omega)
                replace rl := fun i h => (rl i h).fr f24 (by intro x hx; simp <;> omega)
                replace rv := fun i h => (rv i h).fr f24 (by intro x hx; simp <;> omega)
                replace hb1 := f24.blk0 hb1
                replace hi1 := Nat.lt_of_lt_of_le hi1 f24.size
                replace hrow := hrow.fr f24 (by intro b hb hm; first | (simp at hm; done) | (simp only [List.mem_singleton] at hm; omega))
                replace hce := fun i h => (hce i h).fr f24 (by intro b hb hm; first | (simp at hm; done) | (simp only [List.mem_singleton] at hm; omega))
                replace hE1le := Nat.le_trans hE1le f24.size
                replace hi6 := Nat.lt_of_lt_of_le hi6 f24.size
                replace hb6 := f24.blk0 hb6
                refine DL.y rfl rfl (Y.move) ?_
                refine DL.y rfl rfl (Y.extract rfl rfl) ?_
                refine DL.y rfl rfl (Y.extract rfl rfl) ?_
                refine DL.y rfl rfl (Y.assign) ?_
                refine DL.y rfl rfl (Y.assign) ?_
                refine DL.nil ?_
                show DC _ _ _ _ _ _
                refine DC.seq ?_
                refine DC.seq ?_
                refine DC.region ?_
                refine DL.y rfl rfl (Y.move) ?_
                refine DL.if rfl rfl (Y.ne rfl rfl) (fun c106 => ?_) (fun c106 => ?_)
                ·have hhow : how9 = 2 := hsd9.resolve_left (fun h => c106 h.1)
                 refine DL.nil ?_
                 show DC _ _ _ _ _ _
                 refine DC.condT rfl ?_
                 refine DC.seq ?_
                 refine DC.region ?_
                 refine DL.y rfl rfl (Y.move) ?_
                 refine DL.y rfl rfl (Y.assign) ?_
                 refine DL.y rfl rfl (Y.assign) ?_
                 refine DL.nil ?_
                 show DC _ _ _ _ _ _
                 refine DC.ret ?_
                 exact FinQ.ret2 rfl rfl (Ret.mk FR ⟨_, _, rfl, Or.inr hhow⟩)
                ·have hb9 := (hsd9.resolve_right (by omega)).2
                 have hs9 := size_list b9
                 rw [hb9] at hs9
                 have hl9 := jL_len _ _ (Nat.le_refl _) hge
                 refine DL.nil ?_
                 show DC _ _ _ _ _ _
                 refine DC.condF rfl ?_
                 refine DC.skip ?_
                 show DC _ _ _ _ _ _
                 refine DC.region ?_
                 refine DL.y rfl rfl (Y.move) ?_
                 refine DL.y rfl rfl (Y.move) ?_
                 refine DL.catE rfl rfl rfl rfl (by have h3 := size_list c99; rw [h99, List.length_append] at h3; have h1 := congrArg List.length h98; rw [List.length_append, hb7] at h1; simp only [qL, List.length_cons, List.length_append, List.length_nil, show (⟨#[58]⟩ : ByteArray).data.toList.length = 1 from rfl] at h1; rw [hout] at h3; omega) (fun c110 h110 => ?_)
                 refine DL.y rfl rfl (Y.assign) ?_
                 refine DL.nil ?_
                 show DC _ _ _ _ _ _
                 refine DC.region ?_
                 refine DL.y rfl rfl (Y.addI (c := ((i + 1 : Nat) : Int)) rfl rfl (by omega) (by omega) (by omega)) ?_
                 refine DL.y rfl rfl (Y.move) ?_
                 refine DL.nil ?_
                 have hjs := joinT_succ (es := partsJ kind list keys vals) (k := i) (by omega)
                 have hik : i < keys.length := by simp only [List.length_append] at hi; omega
                 have hi2 : i < vals.length := by omega
                 have hpe : (partsJ kind list keys vals)[i]'(by omega) = qL keys[i].data.toList ++ 58 :: jL vals[i] := by
                  have e : partsJ kind list keys vals = jMs keys vals := by rw [partsJ, if_pos (by omega)]
                  simp only [e]
                  exact jMs_get hik hi2 _
                 have hel : (list ++ vals)[i] = vals[i] := by
                  have e : list = [] := List.eq_nil_of_length_eq_zero (by omega)
                  subst e; rfl
                 rw [hel] at hb9
                 exact ⟨(i + 1, c110), ⟨G9, by omega, by rw [h110, h99, h98, hout, hjs, hpe, hb9, hb7]; rw [if_pos (by omega)] <;> simp⟩, by show (list ++ vals).length - (i + 1) < (list ++ vals).length - i; omega, rfl, rfl⟩
              ·refine DL.nil ?_
               show DC _ _ _ _ _ _
               refine DC.condF rfl ?_
               refine DC.skip ?_
               show DC _ _ _ _ _ _
               refine DC.seq ?_
               refine DC.region ?_
               refine DL.y rfl rfl (Y.loadAn (hce i hi).size F.ag26 rfl (.ofBlk hb6)) ?_
               refine DL.call rfl rfl F.nm39 rfl (ih _ _ B _ hge2 hge3 hge4 hge (hce i hi) (by have := FR.size; omega)) ?_
               rintro _ w25 f26 ⟨b9, how9, rfl, hsd9⟩
               replace FR := FR.tr0 f26
               replace G9 := G9.tr0 f26
               replace HG9 := HG9.tr0 f26
               replace hl := hl.fr f26 (by intro x hx; simp <;> omega)
               replace hks := hks.fr f26 (by intro x hx; simp <;> omega)
               replace hv := hv.fr f26 (by intro x hx; simp <;> omega)
               replace rl := fun i h => (rl i h).fr f26 (by intro x hx; simp <;> omega)
               replace rv := fun i h => (rv i h).fr f26 (by intro x hx; simp <;> omega)
               replace hb1 := f26.blk0 hb1
               replace hi1 := Nat.lt_of_lt_of_le hi1 f26.size
               replace hrow := hrow.fr f26 (by intro b hb hm; first | (simp at hm; done) | (simp only [List.mem_singleton] at hm; omega))
               replace hce := fun i h => (hce i h).fr f26 (by intro b hb hm; first | (simp at hm; done) | (simp only [List.mem_singleton] at hm; omega))
               replace hE1le := Nat.le_trans hE1le f26.size
               replace hi6 := Nat.lt_of_lt_of_le hi6 f26.size
               replace hb6 := f26.blk0 hb6
               refine DL.y rfl rfl (Y.move) ?_
               refine DL.y rfl rfl (Y.extract rfl rfl) ?_
               refine DL.y rfl rfl (Y.extract rfl rfl) ?_
               refine DL.y rfl rfl (Y.assign) ?_
               refine DL.y rfl rfl (Y.assign) ?_
               refine DL.nil ?_
               show DC _ _ _ _ _ _
               refine DC.seq ?_
               refine DC.seq ?_
               refine DC.region ?_
               refine DL.y rfl rfl (Y.move) ?_
               refine DL.if rfl rfl (Y.ne rfl rfl) (fun c106 => ?_) (fun c106 => ?_)
               ·have hhow : how9 = 2 := hsd9.resolve_left (fun h => c106 h.1)
                refine DL.nil ?_
                show DC _ _ _ _ _ _
                refine DC.condT rfl ?_
                refine DC.seq ?_
                refine DC.region ?_
                refine DL.y rfl rfl (Y.move) ?_
                refine DL.y rfl rfl (Y.assign) ?_
                refine DL.y rfl rfl (Y.assign) ?_
                refine DL.nil ?_
                show DC _ _ _ _ _ _
                refine DC.ret ?_
                exact FinQ.ret2 rfl rfl (Ret.mk FR ⟨_, _, rfl, Or.inr hhow⟩)
               ·have hb9 := (hsd9.resolve_right (by omega)).2
                have hs9 := size_list b9
                rw [hb9] at hs9
                have hl9 := jL_len _ _ (Nat.le_refl _) hge
                refine DL.nil ?_
                show DC _ _ _ _ _ _
                refine DC.condF rfl ?_
                refine DC.skip ?_
                show DC _ _ _ _ _ _
                refine DC.region ?_
                refine DL.y rfl rfl (Y.move) ?_
                refine DL.y rfl rfl (Y.move) ?_
                refine DL.catE rfl rfl rfl rfl (by omega) (fun c110 h110 => ?_)
                refine DL.y rfl rfl (Y.assign) ?_
                refine DL.nil ?_
                show DC _ _ _ _ _ _
                refine DC.region ?_
                refine DL.y rfl rfl (Y.addI (c := ((i + 1 : Nat) : Int)) rfl rfl (by omega) (by omega) (by omega)) ?_
                refine DL.y rfl rfl (Y.move) ?_
                refine DL.nil ?_
                have hjs := joinT_succ (es := partsJ kind list keys vals) (k := i) (by omega)
                have hik : i < list.length := by simp only [List.length_append] at hi; omega
                have hpe : (partsJ kind list keys vals)[i]'(by omega) = jL list[i] := by
                 have e : partsJ kind list keys vals = jLs list := by rw [partsJ, if_neg (by omega)]
                 simp only [e]
                 exact jLs_get hik
                have hel : (list ++ vals)[i] = list[i] := List.getElem_append_left hik
                rw [hel] at hb9
                exact ⟨(i + 1, c110), ⟨G9, by omega, by rw [h110, hout, hjs, hpe, hb9]; rw [if_pos (by omega)] <;> simp⟩, by show (list ++ vals).length - (i + 1) < (list ++ vals).length - i; omega, rfl, rfl⟩
            ·have hso := size_list out
             rw [hout] at hso
             have hjt := joinT_tot ((partsJ kind list keys vals).take i)
             have htk := tot_take (partsJ kind list keys vals) i
             have htot : tot (partsJ kind list keys vals) ≤ 200000000 := parts_tot hgl hgv hkv (by omega) (by omega)
             refine DL.nil ?_
             show DC _ _ _ _ _ _
             refine DC.seq ?_
             refine DC.condF rfl ?_
             refine DC.exit ?_
             show DC _ _ _ _ _ _
             refine DC.seq ?_
             refine DC.seq ?_
             refine DC.region ?_
             refine DL.y rfl rfl (Y.field F.fd26_0 rfl) ?_
             refine DL.y rfl rfl (Y.loadB F.sc22 rfl hb1 rfl) ?_
             refine DL.if rfl rfl (Y.eq rfl rfl) (fun c114 => ?_) (fun c114 => ?_)
             ·refine DL.nil ?_
              show DC _ _ _ _ _ _
              refine DC.condT rfl ?_
              refine DC.seq ?_
              refine DC.region ?_
              refine DL.y rfl rfl (Y.move) ?_
              refine DL.catE rfl rfl rfl rfl (by rw [show (⟨#[123]⟩ : ByteArray).size = 1 from rfl]; omega) (fun c116 h116 => ?_)
              refine DL.catE rfl rfl rfl rfl (by have h1 := size_list c116; rw [h116, List.length_append, hout, show (⟨#[123]⟩ : ByteArray).data.toList.length = 1 from rfl] at h1; rw [show (⟨#[125]⟩ : ByteArray).size = 1 from rfl]; omega) (fun c117 h117 => ?_)
              refine DL.y rfl rfl (Y.assign) ?_
              refine DL.y rfl rfl (Y.assign) ?_
              refine DL.nil ?_
              show DC _ _ _ _ _ _
              refine DC.ret ?_
              refine FinQ.ret2 rfl rfl (Ret.mk FR ⟨_, _, rfl, Or.inl ⟨rfl, ?_⟩⟩)
              rw [h117, h116, hout, List.take_of_length_le (by omega), jL_parts c14 c16 c18 c20 c27 ⟨hk1, hk2⟩, if_pos (by omega : kind = 6), if_pos (by omega : kind = 6)]; simp
             ·refine DL.nil ?_
              show DC _ _ _ _ _ _
              refine DC.condF rfl ?_
              refine DC.skip ?_
              show DC _ _ _ _ _ _
              refine DC.seq ?_
              refine DC.region ?_
              refine DL.y rfl rfl (Y.move) ?_
              refine DL.catE rfl rfl rfl rfl (by rw [show (⟨#[91]⟩ : ByteArray).size = 1 from rfl]; omega) (fun c119 h119 => ?_)
              refine DL.catE rfl rfl rfl rfl (by have h1 := size_list c119; rw [h119, List.length_append, hout, show (⟨#[91]⟩ : ByteArray).data.toList.length = 1 from rfl] at h1; rw [show (⟨#[93]⟩ : ByteArray).size = 1 from rfl]; omega) (fun c120 h120 => ?_)
              refine DL.y rfl rfl (Y.assign) ?_
              refine DL.y rfl rfl (Y.assign) ?_
              refine DL.nil ?_
              show DC _ _ _ _ _ _
              refine DC.ret ?_
              refine FinQ.ret2 rfl rfl (Ret.mk FR ⟨_, _, rfl, Or.inl ⟨rfl, ?_⟩⟩)
              rw [h120, h119, hout, List.take_of_length_le (by omega), jL_parts c14 c16 c18 c20 c27 ⟨hk1, hk2⟩, if_neg (by omega : ¬ kind = 6), if_neg (by omega : ¬ kind = 6)]; simp
       ·refine DL.y rfl rfl (Y.move) ?_
        refine DL.skip rfl rfl ?_
        refine DL.skip rfl rfl ?_
        refine DL.skip rfl rfl ?_
        refine DL.skip rfl rfl ?_
        refine DL.skip rfl rfl ?_
        refine DL.skip rfl rfl ?_
        refine DL.skip rfl rfl ?_
        refine DL.skip rfl rfl ?_
        refine DL.skip rfl rfl ?_
        refine DL.skip rfl rfl ?_
        refine DL.skip rfl rfl ?_
        refine DL.skip rfl rfl ?_
        refine DL.skip rfl rfl ?_
        refine DL.y rfl rfl (Y.pickF rfl) ?_
        refine DL.y rfl rfl (Y.move) ?_
        refine DL.y rfl rfl (Y.field F.fd26_0 rfl) ?_
        refine DL.y rfl rfl (Y.loadB F.sc22 rfl hb1 rfl) ?_
        refine DL.if rfl rfl (Y.ne rfl rfl) (fun c56 => ?_) (fun c56 => ?_)
        ·refine DL.y rfl rfl (Y.move) ?_
         refine DL.y rfl rfl (Y.field F.fd26_5 rfl) ?_
         refine DL.y rfl rfl (Y.loadB F.sc23 rfl hb1 rfl) ?_
         refine DL.y rfl rfl (Y.lenS Tryz.underlying23 rfl) ?_
         refine DL.if rfl rfl (Y.gt rfl rfl) (fun c61 => ?_) (fun c61 => ?_)
         ·exfalso; omega
         ·refine DL.y rfl rfl (Y.pickT rfl) ?_
          refine DL.y rfl rfl (Y.pickF rfl) ?_
          refine DL.nil ?_
          show DC _ _ _ _ _ _
          refine DC.condF rfl ?_
          refine DC.skip ?_
          show DC _ _ _ _ _ _
          refine DC.seq ?_
          refine DC.region ?_
          refine DL.y rfl rfl (Y.assign) ?_
          refine DL.nil ?_
          show DC _ _ _ _ _ _
          refine DC.seq ?_
          refine DC.seq ?_
          refine DC.forget [(1, .pointer (some ⟨b1, 0, none⟩)), (4, .string ⟨#[]⟩)] ⟨rfl, rfl⟩ (fun e0 => ?_)
          refine DC.drawn (fun w0 => Fr [] w0) 9 F.mixed ?_
          intro wd fd hsd
          replace FR := FR.tr0 fd
          replace hl := hl.fr fd (by intro x hx; simp <;> omega)
          replace hks := hks.fr fd (by intro x hx; simp <;> omega)
          replace hv := hv.fr fd (by intro x hx; simp <;> omega)
          replace rl := fun i h => (rl i h).fr fd (by intro x hx; simp <;> omega)
          replace rv := fun i h => (rv i h).fr fd (by intro x hx; simp <;> omega)
          replace hb1 := fd.blk0 hb1
          replace hi1 := Nat.lt_of_lt_of_le hi1 fd.size
          refine ⟨Fr.refl _ _, ?_⟩
          refine DG.take 1 rfl (by kernel_rfl) (by kernel_rfl) (by kernel_rfl) (by kernel_rfl) (by kernel_rfl) rfl rfl (fun wq fq => Y.field F.fd26_3 rfl) ?_
          refine DG.take 2 rfl (by kernel_rfl) (by kernel_rfl) (by kernel_rfl) (by kernel_rfl) (by kernel_rfl) rfl rfl (fun wq fq => Y.loadB F.sc23 rfl (fq.blk0 hb1) rfl) ?_
          refine DG.take 4 rfl (by kernel_rfl) (by kernel_rfl) (by kernel_rfl) (by kernel_rfl) (by kernel_rfl) rfl rfl (fun wq fq => Y.field F.fd26_5 rfl) ?_
          refine DG.take 5 rfl (by kernel_rfl) (by kernel_rfl) (by kernel_rfl) (by kernel_rfl) (by kernel_rfl) rfl rfl (fun wq fq => Y.loadB F.sc23 rfl (fq.blk0 hb1) rfl) ?_
          refine DG.take 8 rfl (by kernel_rfl) (by kernel_rfl) (by kernel_rfl) (by kernel_rfl) (by kernel_rfl) rfl rfl (fun wq fq => Y.move) ?_
          obtain ⟨E0, hE0⟩ : ∃ E0, E0 = wd.heap.size := ⟨_, rfl⟩
          have hE0w : w.heap.size ≤ E0 := by have := FR.size; omega
          have hb1E : b1 < E0 := by omega
          refine DG.pick [0] (by kernel_rfl) (by simp) (fun i hi => ?_)
          obtain rfl := List.mem_singleton.1 hi
          refine ⟨_, rfl, ?_⟩
          refine DL.buildSl0 rfl rfl Tryz.underlying23 F.in26 ?_
          intro b64 we0 fe0 lo64 hi64 hb64
          replace FR := FR.tr0 fe0
          replace hl := hl.fr fe0 (by intro x hx; simp <;> omega)
          replace hks := hks.fr fe0 (by intro x hx; simp <;> omega)
          replace hv := hv.fr fe0 (by intro x hx; simp <;> omega)
          replace rl := fun i h => (rl i h).fr fe0 (by intro x hx; simp <;> omega)
          replace rv := fun i h => (rv i h).fr fe0 (by intro x hx; simp <;> omega)
          replace hb1 := fe0.blk0 hb1
          replace hi1 := Nat.lt_of_lt_of_le hi1 fe0.size
          have FS : Fr [] wd we0 := fe0
          refine DL.nil ⟨Or.inr FS, ?_⟩
          refine DG.pick [3] (by kernel_rfl) (by simp) (fun i hi => ?_)
          obtain rfl := List.mem_singleton.1 hi
          refine ⟨_, rfl, ?_⟩
          refine DL.appendRow (css := []) (cl := cl) rfl rfl F.el23 rfl rfl (own_empty hb64 (by omega : E0 ≤ b64)) (fun i hi => by obtain ⟨b, o, h1, _, h2, h3⟩ := hl i hi; exact ⟨b, o, h1, h2, h3, (rl i hi).one⟩) (by omega) (by omega) (by have := FS.size; omega) ?_
          intro v67 we1 fe1 hown67 hat67
          have hlo1 : ∀ i ∈ ownL (.slice (some ⟨b64, 0, none⟩) 0 0), E0 ≤ i := fun i hi => by simp [ownL, Value.ownBlock] at hi; omega
          replace FR := FR.put fe1 (fun i hi => Or.inr (by have := hlo1 i hi; omega))
          replace hl := hl.fr fe1 (fun b hb hm => by have := hlo1 b hm; omega)
          replace hks := hks.fr fe1 (fun b hb hm => by have := hlo1 b hm; omega)
          replace hv := hv.fr fe1 (fun b hb hm => by have := hlo1 b hm; omega)
          replace rl := fun i h => (rl i h).fr fe1 (fun b hb hm => by have := hlo1 b hm; omega)
          replace rv := fun i h => (rv i h).fr fe1 (fun b hb hm => by have := hlo1 b hm; omega)
          replace hb1 := fe1.blk hb1 (fun hm => by have := hlo1 _ hm; omega)
          replace hi1 := Nat.lt_of_lt_of_le hi1 fe1.size
          replace FS := FS.put fe1 (fun i hi => Or.inr (by have := hlo1 i hi; omega))
          refine DL.nil ⟨Or.inr FS, ?_⟩
          refine DG.pick [6] (by kernel_rfl) (by simp) (fun i hi => ?_)
          obtain rfl := List.mem_singleton.1 hi
          refine ⟨_, rfl, ?_⟩
          refine DL.appendRow (cl := cv) rfl rfl F.el23 rfl rfl hown67 (fun i hi => by obtain ⟨b, o, h1, _, h2, h3⟩ := hv i hi; exact ⟨b, o, h1, h2, h3, (rv i hi).one⟩) (by omega) (by omega) (by have := FS.size; omega) ?_
          intro v70 we2 fe2 hown70 hat70
          have hlo2 : ∀ i ∈ ownL v67, E0 ≤ i := fun i hi => (own_ge hown67 i hi).1
          replace FR := FR.put fe2 (fun i hi => Or.inr (by have := hlo2 i hi; omega))
          replace hl := hl.fr fe2 (fun b hb hm => by have := hlo2 b hm; omega)
          replace hks := hks.fr fe2 (fun b hb hm => by have := hlo2 b hm; omega)
          replace hv := hv.fr fe2 (fun b hb hm => by have := hlo2 b hm; omega)
          replace rl := fun i h => (rl i h).fr fe2 (fun b hb hm => by have := hlo2 b hm; omega)
          replace rv := fun i h => (rv i h).fr fe2 (fun b hb hm => by have := hlo2 b hm; omega)
          replace hb1 := fe2.blk hb1 (fun hm => by have := hlo2 _ hm; omega)
          replace hi1 := Nat.lt_of_lt_of_le hi1 fe2.size
          replace FS := FS.put fe2 (fun i hi => Or.inr (by have := hlo2 i hi; omega))
          have hsix : ∀ c ∈ [] ++ (List.range list.length).map cl ++ (List.range vals.length).map cv, c.size = 6 := fun c hc => by
           simp only [List.nil_append, List.mem_append, List.mem_map, List.mem_range] at hc
           rcases hc with ⟨i, hi, rfl⟩ | ⟨i, hi, rfl⟩
           ·obtain ⟨_, _, _, _, _, h⟩ := hl i hi; exact h
           ·obtain ⟨_, _, _, _, _, h⟩ := hv i hi; exact h
          obtain ⟨a70, c70, rfl, hrow⟩ := row_of_own hown70 hsix (by simp) (by decide)
          have hlo3 := fun i hi => own_ge hown70 i hi
          obtain ⟨E1, hE1⟩ : ∃ E1, E1 = we2.heap.size := ⟨_, rfl⟩
          have hE1le := Nat.le_of_eq hE1
          replace hrow := hrow.mono (D' := fun b => E0 ≤ b ∧ b < E1) (fun b hb => by have := hlo3 b (mem_ownL.2 hb); omega)
          have hN : 0 + list.length + vals.length = (list ++ vals).length := by simp
          rw [hN] at hrow
          have hce : ∀ i (h : i < (list ++ vals).length), RV we2 B (list ++ vals)[i] (([] ++ (List.range list.length).map cl ++ (List.range vals.length).map cv).getD i #[]) := fun i h => by
           by_cases hi : i < list.length
           ·have e1 : (list ++ vals)[i] = list[i] := List.getElem_append_left hi
            rw [e1]; simpa [List.getD_eq_getElem?_getD, List.getElem?_append_left, hi] using rl i hi
           ·have hi2 : i - list.length < vals.length := by simp only [List.length_append] at h; omega
            have e1 : (list ++ vals)[i] = vals[i - list.length] := List.getElem_append_right (by omega)
            rw [e1]
            have e2 : ([] ++ (List.range list.length).map cl ++ (List.range vals.length).map cv).getD i #[] = cv (i - list.length) := by
             rw [List.nil_append, List.getD_eq_getElem?_getD, List.getElem?_append_right (by simp; omega)]; simp [hi2]
            rw [e2]; exact rv _ hi2
          obtain ⟨ce, hcee⟩ : ∃ ce : Nat → Array Value, ce = fun i => ([] ++ (List.range list.length).map cl ++ (List.range vals.length).map cv).getD i #[] := ⟨_, rfl⟩
          rw [← hcee] at hrow
          replace hce : ∀ i (h : i < (list ++ vals).length), RV we2 B (list ++ vals)[i] (ce i) := fun i h => by rw [hcee]; exact hce i h
          refine DL.nil ⟨Or.inr FS, ?_⟩
          refine DG.pick [7] (by kernel_rfl) (by simp) (fun i hi => ?_)
          obtain rfl := List.mem_singleton.1 hi
          refine ⟨_, rfl, ?_⟩
          refine DL.y rfl rfl (Y.lenS Tryz.underlying23 rfl) ?_
          refine DL.nil ⟨Or.inr FS, ?_⟩
          rw [hN]
          refine DG.done (by kernel_rfl) ?_
          show DC _ _ _ _ _ _
          refine DC.block ?_
          refine DC.loopE (σ := Nat × ByteArray) [(2, 10), (72, 111)] [(1, .pointer (some ⟨b1, 0, none⟩)), (70, .slice a70 (list ++ vals).length c70), (71, .int .i64 ((list ++ vals).length : Int))] (fun (i, out) => [(4, .string out), (72, .int .i64 (i : Int))]) (fun sg wl => Fr [] we2 wl ∧ (fun (i, out) wl => i ≤ (list ++ vals).length ∧ out.data.toList = joinT ((partsJ kind list keys vals).take i)) sg wl) (fun (i, _) => (list ++ vals).length - i) ((0, ⟨#[]⟩)) rfl ?_ ?_ ?_ ?_
          ·exact ⟨rfl, rfl, rfl⟩
          ·exact ⟨rfl, rfl⟩
          ·exact ⟨Fr.refl _ _, Nat.zero_le _, by simp [joinT]⟩
          ·rintro e0 ⟨i, out⟩ j w27 ⟨f28, hi0, hout⟩
           replace FR := FR.tr0 f28
           replace hl := hl.fr f28 (by intro x hx; simp <;> omega)
           replace hks := hks.fr f28 (by intro x hx; simp <;> omega)
           replace hv := hv.fr f28 (by intro x hx; simp <;> omega)
           replace rl := fun i h => (rl i h).fr f28 (by intro x hx; simp <;> omega)
           replace rv := fun i h => (rv i h).fr f28 (by intro x hx; simp <;> omega)
           replace hb1 := f28.blk0 hb1
           replace hi1 := Nat.lt_of_lt_of_le hi1 f28.size
           replace hrow := hrow.fr f28 (by intro b hb hm; first | (simp at hm; done) | (simp only [List.mem_singleton] at hm; omega))
           replace hce := fun i h => (hce i h).fr f28 (by intro b hb hm; first | (simp at hm; done) | (simp only [List.mem_singleton] at hm; omega))
           replace hE1le := Nat.le_trans hE1le f28.size
           have G29 := f28
           have HG29 := Fr.refl [] w27
           refine DC.seq ?_
           refine DC.region ?_
           refine DL.if rfl rfl (Y.lt rfl rfl) (fun c73 => ?_) (fun c73 => ?_)
           ·have hi : i < (list ++ vals).length := by omega
            obtain ⟨hge, hge2, hge3, hge4⟩ := hgel i hi
            have hjpp := jL_parts (half := half) (text := text) (list := list) (keys := keys) (vals := vals) c14 c16 c18 c20 c27 ⟨hk1, hk2⟩
            have htt := tot_get (es := partsJ kind list keys vals) (i := i) (by omega)
            have hjt := joinT_tot ((partsJ kind list keys vals).take i)
            have hso := size_list out
            rw [hout] at hso
            have htot : tot (partsJ kind list keys vals) ≤ 200000000 := parts_tot hgl hgv hkv (by omega) (by omega)
            obtain ⟨ba, oa, rfl, hba, hcl, hcs6⟩ := hrow i hi
            refine DL.nil ?_
            show DC _ _ _ _ _ _
            refine DC.seq ?_
            refine DC.condT rfl ?_
            refine DC.skip ?_
            show DC _ _ _ _ _ _
            refine DC.seq ?_
            refine DC.block ?_
            refine DC.seq ?_
            refine DC.region ?_
            refine DL.y rfl rfl (Y.move) ?_
            refine DL.y rfl rfl (Y.index F.sl23 rfl rfl rfl hi) ?_
            refine DL.y rfl rfl (Y.loadAn hcs6 F.ag26 rfl hcl) ?_
            refine DL.alloc rfl rfl F.z26 rfl ?_
            intro b6 w30 f31 lo6 hi6 hb6
            have lt_b1_b6 : b1 < b6 := Nat.lt_of_lt_of_le hi1 lo6
            have le_E1_b6 : E1 ≤ b6 := Nat.le_trans hE1le lo6
            have lo6G29 := Nat.le_trans G29.size lo6
            have lo6HG29 := Nat.le_trans HG29.size lo6
            replace lo6 := Nat.le_trans FR.size lo6
            replace FR := FR.tr0 f31
            replace G29 := G29.tr0 f31
            replace HG29 := HG29.tr0 f31
            replace hl := hl.fr f31 (by intro x hx; simp <;> omega)
            replace hks := hks.fr f31 (by intro x hx; simp <;> omega)
            replace hv := hv.fr f31 (by intro x hx; simp <;> omega)
            replace rl := fun i h => (rl i h).fr f31 (by intro x hx; simp <;> omega)
            replace rv := fun i h => (rv i h).fr f31 (by intro x hx; simp <;> omega)
            replace hb1 := f31.blk0 hb1
            replace hi1 := Nat.lt_of_lt_of_le hi1 f31.size
            replace hrow := hrow.fr f31 (by intro b hb hm; first | (simp at hm; done) | (simp only [List.mem_singleton] at hm; omega))
            replace hce := fun i h => (hce i h).fr f31 (by intro b hb hm; first | (simp at hm; done) | (simp only [List.mem_singleton] at hm; omega))
            replace hE1le := Nat.le_trans hE1le f31.size
            refine DL.y rfl rfl (Y.assign) ?_
            refine DL.storeA (cs := ce i) rfl F.ag26 rfl rfl (hce i hi).size (hce i hi).one hb6 rfl ?_
            intro w32 f33 hs34 hb6'
            replace FR := FR.put f33 (by intro i hi; simp only [List.mem_cons, List.mem_singleton, List.not_mem_nil, or_false] at hi; rcases hi with rfl; all_goals (first | (left; simp; done) | (right; omega)))
            replace G29 := G29.put f33 (by intro i hi; simp only [List.mem_cons, List.mem_singleton, List.not_mem_nil, or_false] at hi; rcases hi with rfl; all_goals (first | (left; simp; done) | (right; omega)))
            replace HG29 := HG29.put f33 (by intro i hi; simp only [List.mem_cons, List.mem_singleton, List.not_mem_nil, or_false] at hi; rcases hi with rfl; all_goals (first | (left; simp; done) | (right; omega)))
            replace hl := hl.fr f33 (by intro x hx; simp <;> omega)
            replace hks := hks.fr f33 (by intro x hx; simp <;> omega)
            replace hv := hv.fr f33 (by intro x hx; simp <;> omega)
            replace rl := fun i h => (rl i h).fr f33 (by intro x hx; simp <;> omega)
            replace rv := fun i h => (rv i h).fr f33 (by intro x hx; simp <;> omega)
            replace hb1 := f33.blk hb1 (by simp only [List.mem_cons, List.not_mem_nil, or_false, not_or]; omega)
            replace hi1 := Nat.lt_of_lt_of_le hi1 f33.size
            replace hrow := hrow.fr f33 (by intro b hb hm; first | (simp at hm; done) | (simp only [List.mem_singleton] at hm; omega))
            replace hce := fun i h => (hce i h).fr f33 (by intro b hb hm; first | (simp at hm; done) | (simp only [List.mem_singleton] at hm; omega))
            replace hE1le := Nat.le_trans hE1le f33.size
            replace hi6 := Nat.lt_of_lt_of_le hi6 f33.size
            replace hb6 := hb6'
            refine DL.nil ?_
            show DC _ _ _ _ _ _
            refine DC.seq ?_
            refine DC.seq ?_
            refine DC.region ?_
            refine DL.y rfl rfl (Y.move) ?_
            refine DL.if rfl rfl (Y.gt rfl rfl) (fun c78 => ?_) (fun c78 => ?_)
            ·refine DL.nil ?_
             show DC _ _ _ _ _ _
             refine DC.condT rfl ?_
             refine DC.region ?_
             refine DL.y rfl rfl (Y.move) ?_
             refine DL.catE rfl rfl rfl rfl (by rw [show (⟨#[44]⟩ : ByteArray).size = 1 from rfl]; omega) (fun c80 h80 => ?_)
             refine DL.y rfl rfl (Y.assign) ?_
             refine DL.nil ?_
             show DC _ _ _ _ _ _
             refine DC.seq ?_
             refine DC.seq ?_
             refine DC.region ?_
             refine DL.y rfl rfl (Y.field F.fd26_0 rfl) ?_
             refine DL.y rfl rfl (Y.loadB F.sc22 rfl hb1 rfl) ?_
             refine DL.if rfl rfl (Y.eq rfl rfl) (fun c83 => ?_) (fun c83 => ?_)
             ·have hik : i < keys.length := by simp only [List.length_append] at hi; omega
              obtain ⟨bk, ok, rfl, hbk, hkc⟩ := hks.str hik
              have hkb := key_le (List.getElem_mem hik)
              refine DL.nil ?_
              show DC _ _ _ _ _ _
              refine DC.condT rfl ?_
              refine DC.seq ?_
              refine DC.region ?_
              refine DL.y rfl rfl (Y.field F.fd26_4 rfl) ?_
              refine DL.y rfl rfl (Y.loadB F.sc24 rfl hb1 rfl) ?_
              refine DL.y rfl rfl (Y.move) ?_
              refine DL.y rfl rfl (Y.index F.sl24 rfl rfl rfl hik) ?_
              refine DL.y rfl rfl (Y.load F.sc9 rfl hkc) ?_
              refine DL.call rfl rfl F.nm75 rfl (quoted_any keys[i] (by omega) _) ?_
              rintro _ w35 f36 ⟨b7, how7, rfl, hsd7⟩
              replace FR := FR.tr0 f36
              replace G29 := G29.tr0 f36
              replace HG29 := HG29.tr0 f36
              replace hl := hl.fr f36 (by intro x hx; simp <;> omega)
              replace hks := hks.fr f36 (by intro x hx; simp <;> omega)
              replace hv := hv.fr f36 (by intro x hx; simp <;> omega)
              replace rl := fun i h => (rl i h).fr f36 (by intro x hx; simp <;> omega)
              replace rv := fun i h => (rv i h).fr f36 (by intro x hx; simp <;> omega)
              replace hb1 := f36.blk0 hb1
              replace hi1 := Nat.lt_of_lt_of_le hi1 f36.size
              replace hrow := hrow.fr f36 (by intro b hb hm; first | (simp at hm; done) | (simp only [List.mem_singleton] at hm; omega))
              replace hce := fun i h => (hce i h).fr f36 (by intro b hb hm; first | (simp at hm; done) | (simp only [List.mem_singleton] at hm; omega))
              replace hE1le := Nat.le_trans hE1le f36.size
              replace hi6 := Nat.lt_of_lt_of_le hi6 f36.size
              replace hb6 := f36.blk0 hb6
              refine DL.y rfl rfl (Y.move) ?_
              refine DL.y rfl rfl (Y.extract rfl rfl) ?_
              refine DL.y rfl rfl (Y.extract rfl rfl) ?_
              refine DL.y rfl rfl (Y.assign) ?_
              refine DL.y rfl rfl (Y.assign) ?_
              refine DL.nil ?_
              show DC _ _ _ _ _ _
              refine DC.seq ?_
              refine DC.seq ?_
              refine DC.region ?_
              refine DL.y rfl rfl (Y.move) ?_
              refine DL.if rfl rfl (Y.ne rfl rfl) (fun c94 => ?_) (fun c94 => ?_)
              ·have hhow : how7 = 2 := hsd7.resolve_left (fun h => c94 h.1)
               refine DL.nil ?_
               show DC _ _ _ _ _ _
               refine DC.condT rfl ?_
               refine DC.seq ?_
               refine DC.region ?_
               refine DL.y rfl rfl (Y.move) ?_
               refine DL.y rfl rfl (Y.assign) ?_
               refine DL.y rfl rfl (Y.assign) ?_
               refine DL.nil ?_
               show DC _ _ _ _ _ _
               refine DC.ret ?_
               exact FinQ.ret2 rfl rfl (Ret.mk FR ⟨_, _, rfl, Or.inr hhow⟩)
              ·have hb7 := (hsd7.resolve_right (by omega)).2
               have hs7 := size_list b7
               rw [hb7] at hs7
               have hq7 := escT_len keys[i].data.toList
               have hq8 := size_list keys[i]
               simp only [qL, List.length_cons, List.length_append, List.length_nil] at hs7
               refine DL.nil ?_
               show DC _ _ _ _ _ _
               refine DC.condF rfl ?_
               refine DC.skip ?_
               show DC _ _ _ _ _ _
               refine DC.region ?_
               refine DL.y rfl rfl (Y.move) ?_
               refine DL.y rfl rfl (Y.move) ?_
               refine DL.catE rfl rfl rfl rfl (by rw [show (⟨#[58]⟩ : ByteArray).size = 1 from rfl]; omega) (fun c98 h98 => ?_)
               refine DL.catE rfl rfl rfl rfl (by have h1 := size_list c98; rw [h98, List.length_append] at h1; rw [hb7] at h1; simp only [qL, List.length_cons, List.length_append, List.length_nil, show (⟨#[58]⟩ : ByteArray).data.toList.length = 1 from rfl] at h1; have h2 := size_list c80; rw [h80, List.length_append, hout, show (⟨#[44]⟩ : ByteArray).data.toList.length = 1 from rfl] at h2; omega) (fun c99 h99 => ?_)
               refine DL.y rfl rfl (Y.assign) ?_
               refine DL.nil ?_
               show DC _ _ _ _ _ _
               refine DC.seq ?_
               refine DC.region ?_
               refine DL.y rfl rfl (Y.loadAn (hce i hi).size F.ag26 rfl (.ofBlk hb6)) ?_
               refine DL.call rfl rfl F.nm39 rfl (ih _ _ B _ hge2 hge3 hge4 hge (hce i hi) (by have := FR.size; omega)) ?_
               rintro _ w37 f38 ⟨b9, how9, rfl, hsd9⟩
               replace FR := FR.tr0 f38
               replace G29 := G29.tr0 f38
               replace HG29 := HG29.tr0 f38
               replace hl := hl.fr f38 (by intro x hx; simp <;> omega)
               replace hks := hks.fr f38 (by intro x hx; simp <;> omega)
               replace hv := hv.fr f38 (by intro x hx; simp <;> omega)
               replace rl := fun i h => (rl i h).fr f38 (by intro x hx; simp <;> omega)
               replace rv := fun i h => (rv i h).fr f38 (by intro x hx; simp <;> omega)
               replace hb1 := f38.blk0 hb1
               replace hi1 := Nat.lt_of_lt_of_le hi1 f38.size
               replace hrow := hrow.fr f38 (by intro b hb hm; first | (simp at hm; done) | (simp only [List.mem_singleton] at hm; omega))
               replace hce := fun i h => (hce i h).fr f38 (by intro b hb hm; first | (simp at hm; done) | (simp only [List.mem_singleton] at hm; omega))
               replace hE1le := Nat.le_trans hE1le f38.size
               replace hi6 := Nat.lt_of_lt_of_le hi6 f38.size
               replace hb6 := f38.blk0 hb6
               refine DL.y rfl rfl (Y.move) ?_
               refine DL.y rfl rfl (Y.extract rfl rfl) ?_
               refine DL.y rfl rfl (Y.extract rfl rfl) ?_
               refine DL.y rfl rfl (Y.assign) ?_
               refine DL.y rfl rfl (Y.assign) ?_
               refine DL.nil ?_
               show DC _ _ _ _ _ _
               refine DC.seq ?_
               refine DC.seq ?_
               refine DC.region ?_
               refine DL.y rfl rfl (Y.move) ?_
               refine DL.if rfl rfl (Y.ne rfl rfl) (fun c106 => ?_) (fun c106 => ?_)
               ·have hhow : how9 = 2 := hsd9.resolve_left (fun h => c106 h.1)
                refine DL.nil ?_
                show DC _ _ _ _ _ _
                refine DC.condT rfl ?_
                refine DC.seq ?_
                refine DC.region ?_
                refine DL.y rfl rfl (Y.move) ?_
                refine DL.y rfl rfl (Y.assign) ?_
                refine DL.y rfl rfl (Y.assign) ?_
                refine DL.nil ?_
                show DC _ _ _ _ _ _
                refine DC.ret ?_
                exact FinQ.ret2 rfl rfl (Ret.mk FR ⟨_, _, rfl, Or.inr hhow⟩)
               ·have hb9 := (hsd9.resolve_right (by omega)).2
                have hs9 := size_list b9
                rw [hb9] at hs9
                have hl9 := jL_len _ _ (Nat.le_refl _) hge
                refine DL.nil ?_
                show DC _ _ _ _ _ _
                refine DC.condF rfl ?_
                refine DC.skip ?_
                show DC _ _ _ _ _ _
                refine DC.region ?_
                refine DL.y rfl rfl (Y.move) ?_
                refine DL.y rfl rfl (Y.move) ?_
                refine DL.catE rfl rfl rfl rfl (by have h3 := size_list c99; rw [h99, List.length_append] at h3; have h1 := congrArg List.length h98; rw [List.length_append, hb7] at h1; simp only [qL, List.length_cons, List.length_append, List.length_nil, show (⟨#[58]⟩ : ByteArray).data.toList.length = 1 from rfl] at h1; have h2 := congrArg List.length h80; rw [List.length_append, hout, show (⟨#[44]⟩ : ByteArray).data.toList.length = 1 from rfl] at h2; omega) (fun c110 h110 => ?_)
                refine DL.y rfl rfl (Y.assign) ?_
                refine DL.nil ?_
                show DC _ _ _ _ _ _
                refine DC.region ?_
                refine DL.y rfl rfl (Y.addI (c := ((i + 1 : Nat) : Int)) rfl rfl (by omega) (by omega) (by omega)) ?_
                refine DL.y rfl rfl (Y.move) ?_
                refine DL.nil ?_
                have hjs := joinT_succ (es := partsJ kind list keys vals) (k := i) (by omega)
                have hik : i < keys.length := by simp only [List.length_append] at hi; omega
                have hi2 : i < vals.length := by omega
                have hpe : (partsJ kind list keys vals)[i]'(by omega) = qL keys[i].data.toList ++ 58 :: jL vals[i] := by
                 have e : partsJ kind list keys vals = jMs keys vals := by rw [partsJ, if_pos (by omega)]
                 simp only [e]
                 exact jMs_get hik hi2 _
                have hel : (list ++ vals)[i] = vals[i] := by
                 have e : list = [] := List.eq_nil_of_length_eq_zero (by omega)
                 subst e; rfl
                rw [hel] at hb9
                exact ⟨(i + 1, c110), ⟨G29, by omega, by rw [h110, h99, h98, h80, hout, hjs, hpe, hb9, hb7]; rw [if_neg (by omega)] <;> simp⟩, by show (list ++ vals).length - (i + 1) < (list ++ vals).length - i; omega, rfl, rfl⟩
             ·refine DL.nil ?_
              show DC _ _ _ _ _ _
              refine DC.condF rfl ?_
              refine DC.skip ?_
              show DC _ _ _ _ _ _
              refine DC.seq ?_
              refine DC.region ?_
              refine DL.y rfl rfl (Y.loadAn (hce i hi).size F.ag26 rfl (.ofBlk hb6)) ?_
              refine DL.call rfl rfl F.nm39 rfl (ih _ _ B _ hge2 hge3 hge4 hge (hce i hi) (by have := FR.size; omega)) ?_
              rintro _ w39 f40 ⟨b9, how9, rfl, hsd9⟩
              replace FR := FR.tr0 f40
              replace G29 := G29.tr0 f40
              replace HG29 := HG29.tr0 f40
              replace hl := hl.fr f40 (by intro x hx; simp <;> omega)
              replace hks := hks.fr f40 (by intro x hx; simp <;> omega)
              replace hv := hv.fr f40 (by intro x hx; simp <;> omega)
              replace rl := fun i h => (rl i h).fr f40 (by intro x hx; simp <;> omega)
              replace rv := fun i h => (rv i h).fr f40 (by intro x hx; simp <;> omega)
              replace hb1 := f40.blk0 hb1
              replace hi1 := Nat.lt_of_lt_of_le hi1 f40.size
              replace hrow := hrow.fr f40 (by intro b hb hm; first | (simp at hm; done) | (simp only [List.mem_singleton] at hm; omega))
              replace hce := fun i h => (hce i h).fr f40 (by intro b hb hm; first | (simp at hm; done) | (simp only [List.mem_singleton] at hm; omega))
              replace hE1le := Nat.le_trans hE1le f40.size
              replace hi6 := Nat.lt_of_lt_of_le hi6 f40.size
              replace hb6 := f40.blk0 hb6
              refine DL.y rfl rfl (Y.move) ?_
              refine DL.y rfl rfl (Y.extract rfl rfl) ?_
              refine DL.y rfl rfl (Y.extract rfl rfl) ?_
              refine DL.y rfl rfl (Y.assign) ?_
              refine DL.y rfl rfl (Y.assign) ?_
              refine DL.nil ?_
              show DC _ _ _ _ _ _
              refine DC.seq ?_
              refine DC.seq ?_
              refine DC.region ?_
              refine DL.y rfl rfl (Y.move) ?_
              refine DL.if rfl rfl (Y.ne rfl rfl) (fun c106 => ?_) (fun c106 => ?_)
              ·have hhow : how9 = 2 := hsd9.resolve_left (fun h => c106 h.1)
               refine DL.nil ?_
               show DC _ _ _ _ _ _
               refine DC.condT rfl ?_
               refine DC.seq ?_
               refine DC.region ?_
               refine DL.y rfl rfl (Y.move) ?_
               refine DL.y rfl rfl (Y.assign) ?_
               refine DL.y rfl rfl (Y.assign) ?_
               refine DL.nil ?_
               show DC _ _ _ _ _ _
               refine DC.ret ?_
               exact FinQ.ret2 rfl rfl (Ret.mk FR ⟨_, _, rfl, Or.inr hhow⟩)
              ·have hb9 := (hsd9.resolve_right (by omega)).2
               have hs9 := size_list b9
               rw [hb9] at hs9
               have hl9 := jL_len _ _ (Nat.le_refl _) hge
               refine DL.nil ?_
               show DC _ _ _ _ _ _
               refine DC.condF rfl ?_
               refine DC.skip ?_
               show DC _ _ _ _ _ _
               refine DC.region ?_
               refine DL.y rfl rfl (Y.move) ?_
               refine DL.y rfl rfl (Y.move) ?_
               refine DL.catE rfl rfl rfl rfl (by have h2 := size_list c80; rw [h80, List.length_append, hout, show (⟨#[44]⟩ : ByteArray).data.toList.length = 1 from rfl] at h2; omega) (fun c110 h110 => ?_)
               refine DL.y rfl rfl (Y.assign) ?_
               refine DL.nil ?_
               show DC _ _ _ _ _ _
               refine DC.region ?_
               refine DL.y rfl rfl (Y.addI (c := ((i + 1 : Nat) : Int)) rfl rfl (by omega) (by omega) (by omega)) ?_
               refine DL.y rfl rfl (Y.move) ?_
               refine DL.nil ?_
               have hjs := joinT_succ (es := partsJ kind list keys vals) (k := i) (by omega)
               have hik : i < list.length := by simp only [List.length_append] at hi; omega
               have hpe : (partsJ kind list keys vals)[i]'(by omega) = jL list[i] := by
                have e : partsJ kind list keys vals = jLs list := by rw [partsJ, if_neg (by omega)]
                simp only [e]
                exact jLs_get hik
               have hel : (list ++ vals)[i] = list[i] := List.getElem_append_left hik
               rw [hel] at hb9
               exact ⟨(i + 1, c110), ⟨G29, by omega, by rw [h110, h80, hout, hjs, hpe, hb9]; rw [if_neg (by omega)] <;> simp⟩, by show (list ++ vals).length - (i + 1) < (list ++ vals).length - i; omega, rfl, rfl⟩
            ·refine DL.nil ?_
             show DC _ _ _ _ _ _
             refine DC.condF rfl ?_
             refine DC.skip ?_
             show DC _ _ _ _ _ _
             refine DC.seq ?_
             refine DC.seq ?_
             refine DC.region ?_
             refine DL.y rfl rfl (Y.field F.fd26_0 rfl) ?_
             refine DL.y rfl rfl (Y.loadB F.sc22 rfl hb1 rfl) ?_
             refine DL.if rfl rfl (Y.eq rfl rfl) (fun c83 => ?_) (fun c83 => ?_)
             ·have hik : i < keys.length := by simp only [List.length_append] at hi; omega
              obtain ⟨bk, ok, rfl, hbk, hkc⟩ := hks.str hik
              have hkb := key_le (List.getElem_mem hik)
              refine DL.nil ?_
              show DC _ _ _ _ _ _
              refine DC.condT rfl ?_
              refine DC.seq ?_
              refine DC.region ?_
              refine DL.y rfl rfl (Y.field F.fd26_4 rfl) ?_
              refine DL.y rfl rfl (Y.loadB F.sc24 rfl hb1 rfl) ?_
              refine DL.y rfl rfl (Y.move) ?_
              refine DL.y rfl rfl (Y.index F.sl24 rfl rfl rfl hik) ?_
              refine DL.y rfl rfl (Y.load F.sc9 rfl hkc) ?_
              refine DL.call rfl rfl F.nm75 rfl (quoted_any keys[i] (by omega) _) ?_
              rintro _ w41 f42 ⟨b7, how7, rfl, hsd7⟩
              replace FR := FR.tr0 f42
              replace G29 := G29.tr0 f42
              replace HG29 := HG29.tr0 f42
              replace hl := hl.fr f42 (by intro x hx; simp <;> omega)
              replace hks := hks.fr f42 (by intro x hx; simp <;> omega)
              replace hv := hv.fr f42 (by intro x hx; simp <;> omega)
              replace rl := fun i h => (rl i h).fr f42 (by intro x hx; simp <;> omega)
              replace rv := fun i h => (rv i h).fr f42 (by intro x hx; simp <;> omega)
              replace hb1 := f42.blk0 hb1
              replace hi1 := Nat.lt_of_lt_of_le hi1 f42.size
              replace hrow := hrow.fr f42 (by intro b hb hm; first | (simp at hm; done) | (simp only [List.mem_singleton] at hm; omega))
              replace hce := fun i h => (hce i h).fr f42 (by intro b hb hm; first | (simp at hm; done) | (simp only [List.mem_singleton] at hm; omega))
              replace hE1le := Nat.le_trans hE1le f42.size
              replace hi6 := Nat.lt_of_lt_of_le hi6 f42.size
              replace hb6 := f42.blk0 hb6
              refine DL.y rfl rfl (Y.move) ?_
              refine DL.y rfl rfl (Y.extract rfl rfl) ?_
              refine DL.y rfl rfl (Y.extract rfl rfl) ?_
              refine DL.y rfl rfl (Y.assign) ?_
              refine DL.y rfl rfl (Y.assign) ?_
              refine DL.nil ?_
              show DC _ _ _ _ _ _
              refine DC.seq ?_
              refine DC.seq ?_
              refine DC.region ?_
              refine DL.y rfl rfl (Y.move) ?_
              refine DL.if rfl rfl (Y.ne rfl rfl) (fun c94 => ?_) (fun c94 => ?_)
              ·have hhow : how7 = 2 := hsd7.resolve_left (fun h => c94 h.1)
               refine DL.nil ?_
               show DC _ _ _ _ _ _
               refine DC.condT rfl ?_
               refine DC.seq ?_
               refine DC.region ?_
               refine DL.y rfl rfl (Y.move) ?_
               refine DL.y rfl rfl (Y.assign) ?_
               refine DL.y rfl rfl (Y.assign) ?_
               refine DL.nil ?_
               show DC _ _ _ _ _ _
               refine DC.ret ?_
               exact FinQ.ret2 rfl rfl (Ret.mk FR ⟨_, _, rfl, Or.inr hhow⟩)
              ·have hb7 := (hsd7.resolve_right (by omega)).2
               have hs7 := size_list b7
               rw [hb7] at hs7
               have hq7 := escT_len keys[i].data.toList
               have hq8 := size_list keys[i]
               simp only [qL, List.length_cons, List.length_append, List.length_nil] at hs7
               refine DL.nil ?_
               show DC _ _ _ _ _ _
               refine DC.condF rfl ?_
               refine DC.skip ?_
               show DC _ _ _ _ _ _
               refine DC.region ?_
               refine DL.y rfl rfl (Y.move) ?_
               refine DL.y rfl rfl (Y.move) ?_
               refine DL.catE rfl rfl rfl rfl (by rw [show (⟨#[58]⟩ : ByteArray).size = 1 from rfl]; omega) (fun c98 h98 => ?_)
               refine DL.catE rfl rfl rfl rfl (by have h1 := size_list c98; rw [h98, List.length_append] at h1; rw [hb7] at h1; simp only [qL, List.length_cons, List.length_append, List.length_nil, show (⟨#[58]⟩ : ByteArray).data.toList.length = 1 from rfl] at h1; omega) (fun c99 h99 => ?_)
               refine DL.y rfl rfl (Y.assign) ?_
               refine DL.nil ?_
               show DC _ _ _ _ _ _
               refine DC.seq ?_
               refine DC.region ?_
               refine DL.y rfl rfl (Y.loadAn (hce i hi).size F.ag26 rfl (.ofBlk hb6)) ?_
               refine DL.call rfl rfl F.nm39 rfl (ih _ _ B _ hge2 hge3 hge4 hge (hce i hi) (by have := FR.size; omega)) ?_
               rintro _ w43 f44 ⟨b9, how9, rfl, hsd9⟩
               replace FR := FR.tr0 f44
               replace G29 := G29.tr0 f44
               replace HG29 := HG29.tr0 f44
               replace hl := hl.fr f44 (by intro x hx; simp <;> omega)
               replace hks := hks.fr f44 (by intro x hx; simp <;> omega)
               replace hv := hv.fr f44 (by intro x hx; simp <;> omega)
               replace rl := fun i h => (rl i h).fr f44 (by intro x hx; simp <;> omega)
               replace rv := fun i h => (rv i h).fr f44 (by intro x hx; simp <;> omega)
               replace hb1 := f44.blk0 hb1
               replace hi1 := Nat.lt_of_lt_of_le hi1 f44.size
               replace hrow := hrow.fr f44 (by intro b hb hm; first | (simp at hm; done) | (simp only [List.mem_singleton] at hm; omega))
               replace hce := fun i h => (hce i h).fr f44 (by intro b hb hm; first | (simp at hm; done) | (simp only [List.mem_singleton] at hm; omega))
               replace hE1le := Nat.le_trans hE1le f44.size
               replace hi6 := Nat.lt_of_lt_of_le hi6 f44.size
               replace hb6 := f44.blk0 hb6
               refine DL.y rfl rfl (Y.move) ?_
               refine DL.y rfl rfl (Y.extract rfl rfl) ?_
               refine DL.y rfl rfl (Y.extract rfl rfl) ?_
               refine DL.y rfl rfl (Y.assign) ?_
               refine DL.y rfl rfl (Y.assign) ?_
               refine DL.nil ?_
               show DC _ _ _ _ _ _
               refine DC.seq ?_
               refine DC.seq ?_
               refine DC.region ?_
               refine DL.y rfl rfl (Y.move) ?_
               refine DL.if rfl rfl (Y.ne rfl rfl) (fun c106 => ?_) (fun c106 => ?_)
               ·have hhow : how9 = 2 := hsd9.resolve_left (fun h => c106 h.1)
                refine DL.nil ?_
                show DC _ _ _ _ _ _
                refine DC.condT rfl ?_
                refine DC.seq ?_
                refine DC.region ?_
                refine DL.y rfl rfl (Y.move) ?_
                refine DL.y rfl rfl (Y.assign) ?_
                refine DL.y rfl rfl (Y.assign) ?_
                refine DL.nil ?_
                show DC _ _ _ _ _ _
                refine DC.ret ?_
                exact FinQ.ret2 rfl rfl (Ret.mk FR ⟨_, _, rfl, Or.inr hhow⟩)
               ·have hb9 := (hsd9.resolve_right (by omega)).2
                have hs9 := size_list b9
                rw [hb9] at hs9
                have hl9 := jL_len _ _ (Nat.le_refl _) hge
                refine DL.nil ?_
                show DC _ _ _ _ _ _
                refine DC.condF rfl ?_
                refine DC.skip ?_
                show DC _ _ _ _ _ _
                refine DC.region ?_
                refine DL.y rfl rfl (Y.move) ?_
                refine DL.y rfl rfl (Y.move) ?_
                refine DL.catE rfl rfl rfl rfl (by have h3 := size_list c99; rw [h99, List.length_append] at h3; have h1 := congrArg List.length h98; rw [List.length_append, hb7] at h1; simp only [qL, List.length_cons, List.length_append, List.length_nil, show (⟨#[58]⟩ : ByteArray).data.toList.length = 1 from rfl] at h1; rw [hout] at h3; omega) (fun c110 h110 => ?_)
                refine DL.y rfl rfl (Y.assign) ?_
                refine DL.nil ?_
                show DC _ _ _ _ _ _
                refine DC.region ?_
                refine DL.y rfl rfl (Y.addI (c := ((i + 1 : Nat) : Int)) rfl rfl (by omega) (by omega) (by omega)) ?_
                refine DL.y rfl rfl (Y.move) ?_
                refine DL.nil ?_
                have hjs := joinT_succ (es := partsJ kind list keys vals) (k := i) (by omega)
                have hik : i < keys.length := by simp only [List.length_append] at hi; omega
                have hi2 : i < vals.length := by omega
                have hpe : (partsJ kind list keys vals)[i]'(by omega) = qL keys[i].data.toList ++ 58 :: jL vals[i] := by
                 have e : partsJ kind list keys vals = jMs keys vals := by rw [partsJ, if_pos (by omega)]
                 simp only [e]
                 exact jMs_get hik hi2 _
                have hel : (list ++ vals)[i] = vals[i] := by
                 have e : list = [] := List.eq_nil_of_length_eq_zero (by omega)
                 subst e; rfl
                rw [hel] at hb9
                exact ⟨(i + 1, c110), ⟨G29, by omega, by rw [h110, h99, h98, hout, hjs, hpe, hb9, hb7]; rw [if_pos (by omega)] <;> simp⟩, by show (list ++ vals).length - (i + 1) < (list ++ vals).length - i; omega, rfl, rfl⟩
             ·refine DL.nil ?_
              show DC _ _ _ _ _ _
              refine DC.condF rfl ?_
              refine DC.skip ?_
              show DC _ _ _ _ _ _
              refine DC.seq ?_
              refine DC.region ?_
              refine DL.y rfl rfl (Y.loadAn (hce i hi).size F.ag26 rfl (.ofBlk hb6)) ?_
              refine DL.call rfl rfl F.nm39 rfl (ih _ _ B _ hge2 hge3 hge4 hge (hce i hi) (by have := FR.size; omega)) ?_
              rintro _ w45 f46 ⟨b9, how9, rfl, hsd9⟩
              replace FR := FR.tr0 f46
              replace G29 := G29.tr0 f46
              replace HG29 := HG29.tr0 f46
              replace hl := hl.fr f46 (by intro x hx; simp <;> omega)
              replace hks := hks.fr f46 (by intro x hx; simp <;> omega)
              replace hv := hv.fr f46 (by intro x hx; simp <;> omega)
              replace rl := fun i h => (rl i h).fr f46 (by intro x hx; simp <;> omega)
              replace rv := fun i h => (rv i h).fr f46 (by intro x hx; simp <;> omega)
              replace hb1 := f46.blk0 hb1
              replace hi1 := Nat.lt_of_lt_of_le hi1 f46.size
              replace hrow := hrow.fr f46 (by intro b hb hm; first | (simp at hm; done) | (simp only [List.mem_singleton] at hm; omega))
              replace hce := fun i h => (hce i h).fr f46 (by intro b hb hm; first | (simp at hm; done) | (simp only [List.mem_singleton] at hm; omega))
              replace hE1le := Nat.le_trans hE1le f46.size
              replace hi6 := Nat.lt_of_lt_of_le hi6 f46.size
              replace hb6 := f46.blk0 hb6
              refine DL.y rfl rfl (Y.move) ?_
              refine DL.y rfl rfl (Y.extract rfl rfl) ?_
              refine DL.y rfl rfl (Y.extract rfl rfl) ?_
              refine DL.y rfl rfl (Y.assign) ?_
              refine DL.y rfl rfl (Y.assign) ?_
              refine DL.nil ?_
              show DC _ _ _ _ _ _
              refine DC.seq ?_
              refine DC.seq ?_
              refine DC.region ?_
              refine DL.y rfl rfl (Y.move) ?_
              refine DL.if rfl rfl (Y.ne rfl rfl) (fun c106 => ?_) (fun c106 => ?_)
              ·have hhow : how9 = 2 := hsd9.resolve_left (fun h => c106 h.1)
               refine DL.nil ?_
               show DC _ _ _ _ _ _
               refine DC.condT rfl ?_
               refine DC.seq ?_
               refine DC.region ?_
               refine DL.y rfl rfl (Y.move) ?_
               refine DL.y rfl rfl (Y.assign) ?_
               refine DL.y rfl rfl (Y.assign) ?_
               refine DL.nil ?_
               show DC _ _ _ _ _ _
               refine DC.ret ?_
               exact FinQ.ret2 rfl rfl (Ret.mk FR ⟨_, _, rfl, Or.inr hhow⟩)
              ·have hb9 := (hsd9.resolve_right (by omega)).2
               have hs9 := size_list b9
               rw [hb9] at hs9
               have hl9 := jL_len _ _ (Nat.le_refl _) hge
               refine DL.nil ?_
               show DC _ _ _ _ _ _
               refine DC.condF rfl ?_
               refine DC.skip ?_
               show DC _ _ _ _ _ _
               refine DC.region ?_
               refine DL.y rfl rfl (Y.move) ?_
               refine DL.y rfl rfl (Y.move) ?_
               refine DL.catE rfl rfl rfl rfl (by omega) (fun c110 h110 => ?_)
               refine DL.y rfl rfl (Y.assign) ?_
               refine DL.nil ?_
               show DC _ _ _ _ _ _
               refine DC.region ?_
               refine DL.y rfl rfl (Y.addI (c := ((i + 1 : Nat) : Int)) rfl rfl (by omega) (by omega) (by omega)) ?_
               refine DL.y rfl rfl (Y.move) ?_
               refine DL.nil ?_
               have hjs := joinT_succ (es := partsJ kind list keys vals) (k := i) (by omega)
               have hik : i < list.length := by simp only [List.length_append] at hi; omega
               have hpe : (partsJ kind list keys vals)[i]'(by omega) = jL list[i] := by
                have e : partsJ kind list keys vals = jLs list := by rw [partsJ, if_neg (by omega)]
                simp only [e]
                exact jLs_get hik
               have hel : (list ++ vals)[i] = list[i] := List.getElem_append_left hik
               rw [hel] at hb9
               exact ⟨(i + 1, c110), ⟨G29, by omega, by rw [h110, hout, hjs, hpe, hb9]; rw [if_pos (by omega)] <;> simp⟩, by show (list ++ vals).length - (i + 1) < (list ++ vals).length - i; omega, rfl, rfl⟩
           ·have hso := size_list out
            rw [hout] at hso
            have hjt := joinT_tot ((partsJ kind list keys vals).take i)
            have htk := tot_take (partsJ kind list keys vals) i
            have htot : tot (partsJ kind list keys vals) ≤ 200000000 := parts_tot hgl hgv hkv (by omega) (by omega)
            refine DL.nil ?_
            show DC _ _ _ _ _ _
            refine DC.seq ?_
            refine DC.condF rfl ?_
            refine DC.exit ?_
            show DC _ _ _ _ _ _
            refine DC.seq ?_
            refine DC.seq ?_
            refine DC.region ?_
            refine DL.y rfl rfl (Y.field F.fd26_0 rfl) ?_
            refine DL.y rfl rfl (Y.loadB F.sc22 rfl hb1 rfl) ?_
            refine DL.if rfl rfl (Y.eq rfl rfl) (fun c114 => ?_) (fun c114 => ?_)
            ·refine DL.nil ?_
             show DC _ _ _ _ _ _
             refine DC.condT rfl ?_
             refine DC.seq ?_
             refine DC.region ?_
             refine DL.y rfl rfl (Y.move) ?_
             refine DL.catE rfl rfl rfl rfl (by rw [show (⟨#[123]⟩ : ByteArray).size = 1 from rfl]; omega) (fun c116 h116 => ?_)
             refine DL.catE rfl rfl rfl rfl (by have h1 := size_list c116; rw [h116, List.length_append, hout, show (⟨#[123]⟩ : ByteArray).data.toList.length = 1 from rfl] at h1; rw [show (⟨#[125]⟩ : ByteArray).size = 1 from rfl]; omega) (fun c117 h117 => ?_)
             refine DL.y rfl rfl (Y.assign) ?_
             refine DL.y rfl rfl (Y.assign) ?_
             refine DL.nil ?_
             show DC _ _ _ _ _ _
             refine DC.ret ?_
             refine FinQ.ret2 rfl rfl (Ret.mk FR ⟨_, _, rfl, Or.inl ⟨rfl, ?_⟩⟩)
             rw [h117, h116, hout, List.take_of_length_le (by omega), jL_parts c14 c16 c18 c20 c27 ⟨hk1, hk2⟩, if_pos (by omega : kind = 6), if_pos (by omega : kind = 6)]; simp
            ·refine DL.nil ?_
             show DC _ _ _ _ _ _
             refine DC.condF rfl ?_
             refine DC.skip ?_
             show DC _ _ _ _ _ _
             refine DC.seq ?_
             refine DC.region ?_
             refine DL.y rfl rfl (Y.move) ?_
             refine DL.catE rfl rfl rfl rfl (by rw [show (⟨#[91]⟩ : ByteArray).size = 1 from rfl]; omega) (fun c119 h119 => ?_)
             refine DL.catE rfl rfl rfl rfl (by have h1 := size_list c119; rw [h119, List.length_append, hout, show (⟨#[91]⟩ : ByteArray).data.toList.length = 1 from rfl] at h1; rw [show (⟨#[93]⟩ : ByteArray).size = 1 from rfl]; omega) (fun c120 h120 => ?_)
             refine DL.y rfl rfl (Y.assign) ?_
             refine DL.y rfl rfl (Y.assign) ?_
             refine DL.nil ?_
             show DC _ _ _ _ _ _
             refine DC.ret ?_
             refine FinQ.ret2 rfl rfl (Ret.mk FR ⟨_, _, rfl, Or.inl ⟨rfl, ?_⟩⟩)
             rw [h120, h119, hout, List.take_of_length_le (by omega), jL_parts c14 c16 c18 c20 c27 ⟨hk1, hk2⟩, if_neg (by omega : ¬ kind = 6), if_neg (by omega : ¬ kind = 6)]; simp
        ·exfalso; omega


theorem json_any : ∀ m, JsonC m
 | 0 => fun v cs B w hm => by have := nodes_pos v; omega
 | m + 1 => json_step m (json_any m)

end Go.Proofs.YtmbleojlnaofjaaGreatDoor

/- The walks of spec.String and laws.control. -/
namespace Go.Proofs.YtmbleojlnaofjaaGreatDoor
open Go Go.RowKit D Go.Deep
set_option linter.unusedVariables false
set_option linter.unusedSimpArgs false


/-- The text that tostring gives. -/
def sL : V → List UInt8
 | .mk kind half text list keys vals => if kind = 4 then text.data.toList else jL (.mk kind half text list keys vals)

theorem string_any (v : V) (cs : Array Value) (B : Nat) (w : World) (hn : v.nodes ≤ 1000000) (hby : v.bytes ≤ 1000000) (hG : Good v) (hR : RV w B v cs) (hB : B ≤ w.heap.size) : Calls Tryz.prog 13 #[.agg cs] w (Ret w [] fun r _ => ∃ b how, r = .tuple #[.string b, .int .i64 how] ∧ Said b how (sL v)) := by
 obtain ⟨kind, half, text, list, keys, vals⟩ := v
 obtain ⟨la, lc, ka, kc, va, vc, rfl⟩ := hR.shape
 refine calls_of Tryz.func13 rfl rfl rfl rfl ?_
 have FR := Fr.refl [] w
 refine DC.seq ?_
 refine DC.region ?_
 refine DL.boxA rfl rfl rfl ?_
 intro b1 w1 f2 lo1 hi1 hb1
 replace lo1 := Nat.le_trans FR.size lo1
 replace FR := FR.tr0 f2
 replace hR := hR.fr f2 (by intro x hx; simp <;> omega)
 refine DL.y rfl rfl (Y.assign) ?_
 refine DL.y rfl rfl (Y.assign) ?_
 refine DL.nil ?_
 show DC _ _ _ _ _ _
 refine DC.seq ?_
 refine DC.seq ?_
 refine DC.region ?_
 refine DL.y rfl rfl (Y.field F.fd26_0 rfl) ?_
 refine DL.y rfl rfl (Y.loadB F.sc22 rfl hb1 rfl) ?_
 refine DL.if rfl rfl (Y.eq rfl rfl) (fun c6 => ?_) (fun c6 => ?_)
 ·refine DL.nil ?_
  show DC _ _ _ _ _ _
  refine DC.condT rfl ?_
  refine DC.seq ?_
  refine DC.region ?_
  refine DL.y rfl rfl (Y.field F.fd26_2 rfl) ?_
  refine DL.y rfl rfl (Y.loadB F.sc9 rfl hb1 rfl) ?_
  refine DL.y rfl rfl (Y.assign) ?_
  refine DL.y rfl rfl (Y.assign) ?_
  refine DL.nil ?_
  show DC _ _ _ _ _ _
  refine DC.ret ?_
  refine FinQ.ret2 rfl rfl (Ret.mk FR ⟨_, _, rfl, ?_⟩)
  have e : sL (.mk kind half text list keys vals) = text.data.toList := by simp [sL, c6]
  rw [e]; exact Or.inl ⟨rfl, rfl⟩
 ·refine DL.nil ?_
  show DC _ _ _ _ _ _
  refine DC.condF rfl ?_
  refine DC.skip ?_
  show DC _ _ _ _ _ _
  refine DC.seq ?_
  refine DC.region ?_
  refine DL.y rfl rfl (Y.loadW rfl hb1 F.ag26) ?_
  refine DL.call rfl rfl F.nm39 rfl (json_any _ _ _ B _ (Nat.le_refl _) hn hby hG hR (by have := FR.size; omega)) ?_
  rintro _ w3 f4 ⟨b, how, rfl, hsd⟩
  replace FR := FR.tr0 f4
  replace hR := hR.fr f4 (by intro x hx; simp <;> omega)
  replace hb1 := f4.blk0 hb1
  replace hi1 := Nat.lt_of_lt_of_le hi1 f4.size
  refine DL.y rfl rfl (Y.extract rfl rfl) ?_
  refine DL.y rfl rfl (Y.extract rfl rfl) ?_
  refine DL.y rfl rfl (Y.assign) ?_
  refine DL.y rfl rfl (Y.assign) ?_
  refine DL.nil ?_
  show DC _ _ _ _ _ _
  refine DC.ret ?_
  refine FinQ.ret2 rfl rfl (Ret.mk FR ⟨_, _, rfl, ?_⟩)
  have e : sL (.mk kind half text list keys vals) = jL (.mk kind half text list keys vals) := by simp [sL, c6]
  rw [e]; exact hsd


theorem RV.keyRow {w : World} {B : Nat} {kind half : Int} {text : ByteArray} {list : List V} {keys : List ByteArray} {vals : List V} {la ka va : Option Addr} {ln kn vn lc kc vc : Nat} (h : RV w B (.mk kind half text list keys vals) #[.int .i64 kind, .int .i64 half, .string text, .slice la ln lc, .slice ka kn kc, .slice va vn vc]) {k : Nat} (hk : k < keys.length) :
  ∃ b o, ka = some ⟨b, o, none⟩ ∧ b < B ∧ CellsAt w b (o + k * 1) (strCells keys k) := by
 cases h with
 | mk cl cv hk0 hh ht l1 k1 v1 ks hl rl hks hv rv =>
  obtain ⟨b, o, h1, h2, h3, _⟩ := hks k hk
  exact ⟨b, o, h1, h2, h3⟩


def StrRow (w : World) (E0 E1 : Nat) (a : Option Addr) (n : Nat) : Prop := ∀ i, i < n → ∃ (b : Nat) (s : ByteArray), a = some ⟨b, 0, none⟩ ∧ E0 ≤ b ∧ b < E1 ∧ w.cell? ⟨b, 0 + i * 1, none⟩ = some (.string s) ∧ s.size ≤ 140737488351232
theorem StrRow.fr {S : List Nat} {w w' : World} {E0 E1 : Nat} {a : Option Addr} {n : Nat} (h : StrRow w E0 E1 a n) (f : Fr S w w') (hs : ∀ b, E0 ≤ b → b < E1 → b ∉ S) : StrRow w' E0 E1 a n :=
 fun i hi => let ⟨b, s, h1, h2, h3, h4, h5⟩ := h i hi; ⟨b, s, h1, h2, h3, f.cell h4 (hs b h2 h3), h5⟩
theorem strRow_of {w : World} {E0 E1 : Nat} {v : Value} {text : ByteArray} {keys : List ByteArray} (h : w.ownsRow E0 9 1 v (1 + keys.length) (flatC ([#[.string text]] ++ (List.range keys.length).map (strCells keys)))) (hE : w.heap.size ≤ E1) (ht : text.size ≤ 140737488351232) (hk : ∀ s ∈ keys, s.size ≤ 140737488351232) :
  ∃ a c, v = .slice a (1 + keys.length) c ∧ StrRow w E0 E1 a (1 + keys.length) := by
 obtain ⟨a, cap, rfl, hl, hc⟩ := own_cells h
 refine ⟨a, cap, rfl, fun i hi => ?_⟩
 obtain ⟨b, rfl, hb1, hb2, hcell⟩ := hc i hi
 have h1 := hcell 0 (by omega)
 have hsz : ∀ c ∈ [#[Value.string text]] ++ (List.range keys.length).map (strCells keys), c.size = 1 := fun c hc => by
  rcases List.mem_append.1 hc with h | h
  ·rw [List.mem_singleton.1 h]; rfl
  ·obtain ⟨i, _, rfl⟩ := List.mem_map.1 h; rfl
 have hil : i < ([#[Value.string text]] ++ (List.range keys.length).map (strCells keys)).length := by simp; omega
 rw [flatC_get hsz i 0 hil (by omega)] at h1
 by_cases h0 : i = 0
 ·subst h0
  exact ⟨b, text, rfl, hb1, by omega, by simpa using h1, ht⟩
 ·obtain ⟨i, rfl⟩ : ∃ q, i = q + 1 := ⟨i - 1, by omega⟩
  have hik : i < keys.length := by omega
  refine ⟨b, keys[i], rfl, hb1, by omega, ?_, hk _ (List.getElem_mem hik)⟩
  simpa [strCells, hik] using h1
theorem own_lit {w : World} {E0 el b : Nat} {v : Value} (hb : w.heap[b]? = some (.cells #[v] el (0, 0))) (hE : E0 ≤ b) : w.ownsRow E0 el 1 (.slice (some ⟨b, 0, none⟩) 1 1) 1 (flatC [#[v]]) :=
 ⟨by simp [flatC], .inr ⟨b, 1, #[v], rfl, hE, hb, Nat.le_refl _, by decide, by simp, by simp [flatC]⟩⟩
def CtlC (m : Nat) : Prop := ∀ (v : V) (cs : Array Value) (B : Nat) (w : World), v.nodes ≤ m → v.nodes ≤ 1000000 → Good v → RV w B v cs → B ≤ w.heap.size → Calls Tryz.prog 14 #[.agg cs] w (Ret w [] fun r _ => ∃ q, r = .bool q)

set_option maxHeartbeats 1000000 in
theorem control_step (m : Nat) (ih : CtlC m) : CtlC (m + 1) := by
 intro v cs B w hm hm2 hG hR hB
 obtain ⟨kind, half, text, list, keys, vals⟩ := v
 obtain ⟨hgn, hgl, hgv⟩ := hG
 have hkvs := hgn.same
 obtain ⟨la, lc, ka, kc, va, vc, rfl⟩ := hR.shape
 obtain ⟨bt, bl, bk, bv, bkind, bhalf⟩ := hR.bounds
 have hkz : ∀ s ∈ keys, s.size ≤ 140737488351232 := fun s hs => by
  obtain ⟨i, hi, rfl⟩ := List.getElem_of_mem hs
  obtain ⟨_, _, _, _, _, h⟩ := hR.keyAt hi
  exact h
 simp only [V.nodes] at hm hm2
 have hnl := length_le_nodesL list
 have hnv := length_le_nodesL vals
 refine calls_of Tryz.func14 rfl rfl rfl rfl ?_
 have FR := Fr.refl [] w
 refine DC.seq ?_
 refine DC.region ?_
 refine DL.boxA rfl rfl rfl ?_
 intro b1 w1 f2 lo1 hi1 hb1
 replace lo1 := Nat.le_trans FR.size lo1
 replace FR := FR.tr0 f2
 replace hR := hR.fr f2 (by intro x hx; simp <;> omega)
 refine DL.y rfl rfl (Y.assign) ?_
 refine DL.nil ?_
 show DC _ _ _ _ _ _
 refine DC.seq ?_
 refine DC.seq ?_
 refine DC.region ?_
 refine DL.y rfl rfl (Y.field F.fd26_2 rfl) ?_
 refine DL.y rfl rfl (Y.loadB F.sc9 rfl hb1 rfl) ?_
 obtain ⟨E0, hE0⟩ : ∃ E0, E0 = w1.heap.size := ⟨_, rfl⟩
 have hb1E : b1 < E0 := by omega
 have hBE : B ≤ E0 := by have := FR.size; omega
 have hwE : w.heap.size ≤ E0 := by have := FR.size; omega
 refine DL.buildSl1 (cs := #[.string text]) rfl rfl F.el24 rfl rfl rfl ?_
 intro b10 w3 f4 lo10 hi10 hb10
 have hown10 := own_lit hb10 (by omega : E0 ≤ b10)
 have lt_b1_b10 : b1 < b10 := Nat.lt_of_lt_of_le hi1 lo10
 replace lo10 := Nat.le_trans FR.size lo10
 replace FR := FR.tr0 f4
 replace hR := hR.fr f4 (by intro x hx; simp <;> omega)
 replace hb1 := f4.blk0 hb1
 replace hi1 := Nat.lt_of_lt_of_le hi1 f4.size
 refine DL.y rfl rfl (Y.field F.fd26_4 rfl) ?_
 refine DL.y rfl rfl (Y.loadB F.sc24 rfl hb1 rfl) ?_
 refine DL.appendRow (css := [#[.string text]]) (cl := strCells keys) rfl rfl F.el24 rfl rfl hown10 (fun i hi => by obtain ⟨b, o, h1, _, h2⟩ := hR.keyRow hi; exact ⟨b, o, h1, h2, rfl, by simp [strCells, Value.oneCell']⟩) (by omega) (by omega) (by have := own_ge hown10 b10 (by simp [ownL, Value.ownBlock]); omega) ?_
 intro v13 w5 f6 hown13 hat13
 have hlo : ∀ i ∈ ownL (.slice (some ⟨b10, 0, none⟩) 1 1), E0 ≤ i := fun i hi => (own_ge hown10 i hi).1
 replace FR := FR.put f6 (fun i hi => Or.inr (by have := hlo i hi; omega))
 replace hR := hR.fr f6 (fun b hb hm => by have := hlo b hm; omega)
 replace hb1 := f6.blk hb1 (fun hm => by have := hlo _ hm; omega)
 replace hi1 := Nat.lt_of_lt_of_le hi1 f6.size
 obtain ⟨E1, hE1⟩ : ∃ E1, E1 = w5.heap.size := ⟨_, rfl⟩
 obtain ⟨a13, c13, rfl, hst⟩ := strRow_of hown13 (Nat.le_of_eq hE1.symm) bt hkz
 have hn13 : list.length ≤ 1000000 := by omega
 refine DL.y rfl rfl (Y.lenS Tryz.underlying24 rfl) ?_
 refine DL.y rfl rfl (Y.move) ?_
 refine DL.nil ?_
 show DC _ _ _ _ _ _
 refine DC.block ?_
 refine DC.loopE (σ := Nat) [(2, 2), (4, 5), (15, 35)] [(1, .pointer (some ⟨b1, 0, none⟩)), (13, .slice a13 (1 + keys.length) c13), (14, .int .i64 ((1 + keys.length : Nat) : Int))] (fun q => [(15, .int .i64 (q : Int))]) (fun sg wl => Fr [] w5 wl ∧ (fun q wl => q ≤ 1 + keys.length) sg wl) (fun q => 1 + keys.length - q) (0) rfl ?_ ?_ ?_ ?_
 ·exact ⟨rfl, rfl, rfl⟩
 ·exact rfl
 ·exact ⟨Fr.refl _ _, Nat.zero_le _⟩
 ·rintro e0 q j w7 ⟨f8, hq0⟩
  replace FR := FR.tr0 f8
  replace hR := hR.fr f8 (by intro x hx; simp <;> omega)
  replace hb1 := f8.blk0 hb1
  replace hi1 := Nat.lt_of_lt_of_le hi1 f8.size
  replace hst := hst.fr f8 (by intro b hb hb2 hm; first | (simp at hm; done) | (simp only [List.mem_singleton] at hm; omega))
  have G9 := f8
  have HG9 := Fr.refl [] w7
  refine DC.seq ?_
  refine DC.region ?_
  refine DL.if rfl rfl (Y.lt rfl rfl) (fun c16 => ?_) (fun c16 => ?_)
  ·have hq : q < 1 + keys.length := by omega
   obtain ⟨bs, s, rfl, hbs0, hbs1, hsc, hss⟩ := hst q hq
   refine DL.nil ?_
   show DC _ _ _ _ _ _
   refine DC.seq ?_
   refine DC.condT rfl ?_
   refine DC.skip ?_
   show DC _ _ _ _ _ _
   refine DC.seq ?_
   refine DC.block ?_
   refine DC.seq ?_
   refine DC.region ?_
   refine DL.y rfl rfl (Y.index F.sl24 rfl rfl (rfl) (hq)) ?_
   refine DL.y rfl rfl (Y.load (v := .string s) F.sc9 rfl hsc) ?_
   refine DL.y rfl rfl (Y.assign) ?_
   refine DL.nil ?_
   show DC _ _ _ _ _ _
   refine DC.seq ?_
   refine DC.region ?_
   refine DL.y rfl rfl (Y.assign) ?_
   refine DL.nil ?_
   show DC _ _ _ _ _ _
   refine DC.block ?_
   refine DC.loop (σ := Nat) [(2, 2), (5, 5), (19, 34)] (fun p => [(5, .int .i64 (p : Int))]) (fun sg wl => Fr [] w7 wl ∧ (fun p wl => p ≤ s.size) sg wl) (fun p => s.size - p) (0) rfl ?_ ?_ ?_
   ·exact rfl
   ·exact ⟨Fr.refl _ _, Nat.zero_le _⟩
   ·rintro p j w10 ⟨f11, hp0⟩
    replace FR := FR.tr0 f11
    replace G9 := G9.tr0 f11
    replace HG9 := HG9.tr0 f11
    replace hR := hR.fr f11 (by intro x hx; simp <;> omega)
    replace hb1 := f11.blk0 hb1
    replace hi1 := Nat.lt_of_lt_of_le hi1 f11.size
    replace hst := hst.fr f11 (by intro b hb hb2 hm; first | (simp at hm; done) | (simp only [List.mem_singleton] at hm; omega))
    have G12 := f11
    have HG12 := Fr.refl [] w10
    refine DC.seq ?_
    refine DC.seq ?_
    refine DC.region ?_
    refine DL.y rfl rfl (Y.move) ?_
    refine DL.y rfl rfl (Y.move) ?_
    refine DL.y rfl rfl (Y.lenStr Tryz.underlying9 rfl) ?_
    refine DL.if rfl rfl (Y.lt rfl rfl) (fun c22 => ?_) (fun c22 => ?_)
    ·have hp : p < s.size := by omega
     refine DL.nil ?_
     show DC _ _ _ _ _ _
     refine DC.condT rfl ?_
     refine DC.skip ?_
     show DC _ _ _ _ _ _
     refine DC.seq ?_
     refine DC.block ?_
     refine DC.seq ?_
     refine DC.region ?_
     refine DL.y rfl rfl (Y.move) ?_
     refine DL.y rfl rfl (Y.move) ?_
     refine DL.y rfl rfl (Y.strIx (i := p) Tryz.underlying9 rfl rfl rfl hp) ?_
     refine DL.if rfl rfl (Y.lt rfl rfl) (fun c28 => ?_) (fun c28 => ?_)
     ·refine DL.y rfl rfl (Y.move) ?_
      refine DL.skip rfl rfl ?_
      refine DL.skip rfl rfl ?_
      refine DL.skip rfl rfl ?_
      refine DL.skip rfl rfl ?_
      refine DL.y rfl rfl (Y.pickT rfl) ?_
      refine DL.nil ?_
      show DC _ _ _ _ _ _
      refine DC.condT rfl ?_
      refine DC.seq ?_
      refine DC.region ?_
      refine DL.y rfl rfl (Y.assign) ?_
      refine DL.nil ?_
      show DC _ _ _ _ _ _
      refine DC.ret ?_
      exact FinQ.ret1 rfl (Ret.mk FR ⟨_, rfl⟩)
     ·refine DL.y rfl rfl (Y.move) ?_
      refine DL.y rfl rfl (Y.move) ?_
      refine DL.y rfl rfl (Y.move) ?_
      refine DL.y rfl rfl (Y.strIx (i := p) Tryz.underlying9 rfl rfl rfl hp) ?_
      refine DL.if rfl rfl (Y.eq rfl rfl) (fun c33 => ?_) (fun c33 => ?_)
      ·refine DL.y rfl rfl (Y.pickF rfl) ?_
       refine DL.nil ?_
       show DC _ _ _ _ _ _
       refine DC.condT rfl ?_
       refine DC.seq ?_
       refine DC.region ?_
       refine DL.y rfl rfl (Y.assign) ?_
       refine DL.nil ?_
       show DC _ _ _ _ _ _
       refine DC.ret ?_
       exact FinQ.ret1 rfl (Ret.mk FR ⟨_, rfl⟩)
      ·refine DL.y rfl rfl (Y.pickF rfl) ?_
       refine DL.nil ?_
       show DC _ _ _ _ _ _
       refine DC.condF rfl ?_
       refine DC.skip ?_
       show DC _ _ _ _ _ _
       refine DC.region ?_
       refine DL.y rfl rfl (Y.move) ?_
       refine DL.y rfl rfl (Y.addI (c := ((p + 1 : Nat) : Int)) rfl rfl (by omega) (by omega) (by omega)) ?_
       refine DL.y rfl rfl (Y.assign) ?_
       refine DL.nil ?_
       exact ⟨p + 1, ⟨G12, by omega⟩, by show s.size - (p + 1) < s.size - p; omega, rfl⟩
    ·refine DL.nil ?_
     show DC _ _ _ _ _ _
     refine DC.condF rfl ?_
     refine DC.exit ?_
     show DC _ _ _ _ _ _
     refine DC.region ?_
     refine DL.y rfl rfl (Y.addI (c := ((q + 1 : Nat) : Int)) rfl rfl (by omega) (by omega) (by omega)) ?_
     refine DL.y rfl rfl (Y.move) ?_
     refine DL.nil ?_
     exact ⟨q + 1, ⟨G9, by omega⟩, by show 1 + keys.length - (q + 1) < 1 + keys.length - q; omega, rfl⟩
  ·refine DL.nil ?_
   show DC _ _ _ _ _ _
   refine DC.seq ?_
   refine DC.condF rfl ?_
   refine DC.exit ?_
   show DC _ _ _ _ _ _
   refine DC.seq ?_
   refine DC.seq ?_
   refine DC.region ?_
   refine DL.y rfl rfl (Y.assign) ?_
   refine DL.nil ?_
   show DC _ _ _ _ _ _
   refine DC.block ?_
   refine DC.loopE (σ := Nat) [(2, 2), (6, 6), (36, 48)] [(1, .pointer (some ⟨b1, 0, none⟩))] (fun q => [(6, .int .i64 (q : Int))]) (fun sg wl => Fr [] w7 wl ∧ (fun q wl => q ≤ list.length) sg wl) (fun q => list.length - q) (0) rfl ?_ ?_ ?_ ?_
   ·exact rfl
   ·exact rfl
   ·exact ⟨Fr.refl _ _, Nat.zero_le _⟩
   ·rintro e0 q j w13 ⟨f14, hq0⟩
    replace FR := FR.tr0 f14
    replace hR := hR.fr f14 (by intro x hx; simp <;> omega)
    replace hb1 := f14.blk0 hb1
    replace hi1 := Nat.lt_of_lt_of_le hi1 f14.size
    replace hst := hst.fr f14 (by intro b hb hb2 hm; first | (simp at hm; done) | (simp only [List.mem_singleton] at hm; omega))
    have G15 := f14
    have HG15 := Fr.refl [] w13
    refine DC.seq ?_
    refine DC.seq ?_
    refine DC.region ?_
    refine DL.y rfl rfl (Y.move) ?_
    refine DL.y rfl rfl (Y.field F.fd26_3 rfl) ?_
    refine DL.y rfl rfl (Y.loadB F.sc23 rfl hb1 rfl) ?_
    refine DL.y rfl rfl (Y.lenS Tryz.underlying23 rfl) ?_
    refine DL.if rfl rfl (Y.lt rfl rfl) (fun c40 => ?_) (fun c40 => ?_)
    ·have hq : q < list.length := by omega
     obtain ⟨ba, oa, cl, rfl, hba, hcl, hcs1, hRi⟩ := hR.elem hq
     refine DL.nil ?_
     show DC _ _ _ _ _ _
     refine DC.condT rfl ?_
     refine DC.skip ?_
     show DC _ _ _ _ _ _
     refine DC.seq ?_
     refine DC.block ?_
     refine DC.seq ?_
     refine DC.region ?_
     refine DL.y rfl rfl (Y.field F.fd26_3 rfl) ?_
     refine DL.y rfl rfl (Y.loadB F.sc23 rfl hb1 rfl) ?_
     refine DL.y rfl rfl (Y.move) ?_
     refine DL.y rfl rfl (Y.index F.sl23 rfl rfl (rfl) (hq)) ?_
     refine DL.y rfl rfl (Y.loadAn hcs1 F.ag26 rfl hcl) ?_
     refine DL.call rfl rfl F.nm14 rfl (ih _ _ B _ (by have := nodes_le hq; omega) (by have := nodes_le hq; omega) (hgl q hq) hRi (by have := FR.size; omega)) ?_
     rintro _ w16 f17 ⟨r, rfl⟩
     replace FR := FR.tr0 f17
     replace G15 := G15.tr0 f17
     replace HG15 := HG15.tr0 f17
     replace hR := hR.fr f17 (by intro x hx; simp <;> omega)
     replace hb1 := f17.blk0 hb1
     replace hi1 := Nat.lt_of_lt_of_le hi1 f17.size
     replace hst := hst.fr f17 (by intro b hb hb2 hm; first | (simp at hm; done) | (simp only [List.mem_singleton] at hm; omega))
     refine (Bool.eq_false_or_eq_true r).elim (fun hr => ?_) (fun hr => ?_)
     ·subst hr
      refine DL.nil ?_
      show DC _ _ _ _ _ _
      refine DC.condT rfl ?_
      refine DC.seq ?_
      refine DC.region ?_
      refine DL.y rfl rfl (Y.assign) ?_
      refine DL.nil ?_
      show DC _ _ _ _ _ _
      refine DC.ret ?_
      exact FinQ.ret1 rfl (Ret.mk FR ⟨_, rfl⟩)
     ·subst hr
      refine DL.nil ?_
      show DC _ _ _ _ _ _
      refine DC.condF rfl ?_
      refine DC.skip ?_
      show DC _ _ _ _ _ _
      refine DC.region ?_
      refine DL.y rfl rfl (Y.move) ?_
      refine DL.y rfl rfl (Y.addI (c := ((q + 1 : Nat) : Int)) rfl rfl (by omega) (by omega) (by omega)) ?_
      refine DL.y rfl rfl (Y.assign) ?_
      refine DL.nil ?_
      exact ⟨q + 1, ⟨G15, by omega⟩, by show list.length - (q + 1) < list.length - q; omega, rfl⟩
    ·refine DL.nil ?_
     show DC _ _ _ _ _ _
     refine DC.condF rfl ?_
     refine DC.exit ?_
     show DC _ _ _ _ _ _
     refine DC.seq ?_
     refine DC.seq ?_
     refine DC.region ?_
     refine DL.y rfl rfl (Y.assign) ?_
     refine DL.nil ?_
     show DC _ _ _ _ _ _
     refine DC.block ?_
     refine DC.loopE (σ := Nat) [(2, 2), (7, 7), (49, 61)] [(1, .pointer (some ⟨b1, 0, none⟩))] (fun q => [(7, .int .i64 (q : Int))]) (fun sg wl => Fr [] w13 wl ∧ (fun q wl => q ≤ vals.length) sg wl) (fun q => vals.length - q) (0) rfl ?_ ?_ ?_ ?_
     ·exact rfl
     ·exact rfl
     ·exact ⟨Fr.refl _ _, Nat.zero_le _⟩
     ·rintro e0 q j w18 ⟨f19, hq0⟩
      replace FR := FR.tr0 f19
      replace hR := hR.fr f19 (by intro x hx; simp <;> omega)
      replace hb1 := f19.blk0 hb1
      replace hi1 := Nat.lt_of_lt_of_le hi1 f19.size
      replace hst := hst.fr f19 (by intro b hb hb2 hm; first | (simp at hm; done) | (simp only [List.mem_singleton] at hm; omega))
      have G20 := f19
      have HG20 := Fr.refl [] w18
      refine DC.seq ?_
      refine DC.seq ?_
      refine DC.region ?_
      refine DL.y rfl rfl (Y.move) ?_
      refine DL.y rfl rfl (Y.field F.fd26_5 rfl) ?_
      refine DL.y rfl rfl (Y.loadB F.sc23 rfl hb1 rfl) ?_
      refine DL.y rfl rfl (Y.lenS Tryz.underlying23 rfl) ?_
      refine DL.if rfl rfl (Y.lt rfl rfl) (fun c53 => ?_) (fun c53 => ?_)
      ·have hq : q < vals.length := by omega
       obtain ⟨ba, oa, cl, rfl, hba, hcl, hcs1, hRi⟩ := hR.valAt hq
       refine DL.nil ?_
       show DC _ _ _ _ _ _
       refine DC.condT rfl ?_
       refine DC.skip ?_
       show DC _ _ _ _ _ _
       refine DC.seq ?_
       refine DC.block ?_
       refine DC.seq ?_
       refine DC.region ?_
       refine DL.y rfl rfl (Y.field F.fd26_5 rfl) ?_
       refine DL.y rfl rfl (Y.loadB F.sc23 rfl hb1 rfl) ?_
       refine DL.y rfl rfl (Y.move) ?_
       refine DL.y rfl rfl (Y.index F.sl23 rfl rfl (rfl) (hq)) ?_
       refine DL.y rfl rfl (Y.loadAn hcs1 F.ag26 rfl hcl) ?_
       refine DL.call rfl rfl F.nm14 rfl (ih _ _ B _ (by have := nodes_le hq; omega) (by have := nodes_le hq; omega) (hgv q hq) hRi (by have := FR.size; omega)) ?_
       rintro _ w21 f22 ⟨r, rfl⟩
       replace FR := FR.tr0 f22
       replace G20 := G20.tr0 f22
       replace HG20 := HG20.tr0 f22
       replace hR := hR.fr f22 (by intro x hx; simp <;> omega)
       replace hb1 := f22.blk0 hb1
       replace hi1 := Nat.lt_of_lt_of_le hi1 f22.size
       replace hst := hst.fr f22 (by intro b hb hb2 hm; first | (simp at hm; done) | (simp only [List.mem_singleton] at hm; omega))
       refine (Bool.eq_false_or_eq_true r).elim (fun hr => ?_) (fun hr => ?_)
       ·subst hr
        refine DL.nil ?_
        show DC _ _ _ _ _ _
        refine DC.condT rfl ?_
        refine DC.seq ?_
        refine DC.region ?_
        refine DL.y rfl rfl (Y.assign) ?_
        refine DL.nil ?_
        show DC _ _ _ _ _ _
        refine DC.ret ?_
        exact FinQ.ret1 rfl (Ret.mk FR ⟨_, rfl⟩)
       ·subst hr
        refine DL.nil ?_
        show DC _ _ _ _ _ _
        refine DC.condF rfl ?_
        refine DC.skip ?_
        show DC _ _ _ _ _ _
        refine DC.region ?_
        refine DL.y rfl rfl (Y.move) ?_
        refine DL.y rfl rfl (Y.addI (c := ((q + 1 : Nat) : Int)) rfl rfl (by omega) (by omega) (by omega)) ?_
        refine DL.y rfl rfl (Y.assign) ?_
        refine DL.nil ?_
        exact ⟨q + 1, ⟨G20, by omega⟩, by show vals.length - (q + 1) < vals.length - q; omega, rfl⟩
      ·refine DL.nil ?_
       show DC _ _ _ _ _ _
       refine DC.condF rfl ?_
       refine DC.exit ?_
       show DC _ _ _ _ _ _
       refine DC.seq ?_
       refine DC.region ?_
       refine DL.y rfl rfl (Y.assign) ?_
       refine DL.nil ?_
       show DC _ _ _ _ _ _
       refine DC.ret ?_
       exact FinQ.ret1 rfl (Ret.mk FR ⟨_, rfl⟩)


theorem control_any : ∀ m, CtlC m
 | 0 => fun v cs B w hm => by have := nodes_pos v; omega
 | m + 1 => control_step m (control_any m)

end Go.Proofs.YtmbleojlnaofjaaGreatDoor

/- Laws for strings.Builder and for a call through an interface. -/
namespace Go.Proofs.YtmbleojlnaofjaaGreatDoor.D
open Go Go.RowKit Go.Deep
set_option linter.unusedVariables false
set_option linter.unusedSectionVars false
set_option linter.unusedSimpArgs false
theorem app_string_at {P : Program} {w : World} (base : Nat) (t u ty e : TypeId) (i : TypeInfo) (ht : P.underlying t = some (.slice e)) (hu : P.underlying u = some .string) (hi : P.info? e = some i) (hz : i.zero = some (.int .u8 0))
  (hsize : i.size = 1) (hby : i.bytes = 1) (v : Value) (n : Nat) (xs : List Value) (hown : w.ownsRow base e 1 v n xs) (s : ByteArray) (h63 : n + s.size ≤ maxLen) (hbytes : n + s.size ≤ 140737488355328) (hbase : base ≤ w.heap.size) :
  ∃ v' w', (Builtin.append_ #[t, u] ty #[v, .string s]).run P w = .ok v' w' ∧ w'.ownsRow base e 1 v' (n + s.size) (xs ++ Lib.strCells s) ∧ w.grownBy w' v.ownBlock ∧ (v'.ownBlock = v.ownBlock ∨ v'.ownBlock = some w.heap.size) := by
 obtain ⟨v', w', hrun, ho, hgr, hiff⟩ := Lib.run_append_own_string (P := P) w base t u ty e i ht hu hi hz hsize hby v n xs hown s h63 hbytes hbase
 refine ⟨v', w', hrun, ho, hgr, ?_⟩
 have hxl : xs.length = n := by simpa using hown.1
 have hmx : maxLen = 9223372036854775807 := rfl
 rcases hown.2 with ⟨rfl, rfl⟩ | ⟨g, cap, cur, rfl, hbg, hg, hnc, hcm, hcs, htake⟩
 ·by_cases hm : s.size = 0
  ·left; rw [(hiff.2 ⟨rfl, hm⟩)]
  ·have hr := run_append_nil_string (P := P) w t u ty e i (.int .u8 0) ht hu hi hz s (by omega) (by omega) (by rw [hby]; omega)
   rw [hrun] at hr
   right
   have := (Result.ok.inj hr).1
   rw [this]; rfl
 ·by_cases hroom : n + s.size ≤ cap
  ·have hcs' : cur.size = cap := by simpa using hcs
   have hr := Lib.run_append_room_string (P := P) w t u ty e i ht hu hi hsize g n cap cur hg s hroom (by omega)
   rw [hrun] at hr
   left
   have := (Result.ok.inj hr).1
   rw [this]; rfl
  ·have hr := Lib.run_append_grow_string (P := P) w t u ty e i (.int .u8 0) ht hu hi hz ⟨g, 0, none⟩ n cap xs (by rw [hsize]; simpa using hxl) (hown.cells (g := g) rfl) s (by omega) (by omega) (by rw [hby]; exact growslice_fits (by omega) (by omega))
   rw [hrun] at hr
   right
   have := (Result.ok.inj hr).1
   rw [this]; rfl
section
variable {P : Program} {n : Nat} {e : Env} {w : World} {ops rest : List Oper} {K : Env → World → Prop} {dst : Option Tmp} {ty : TypeId} {pos : String} {af : Array Edge} {g : Option (Nat × Bool)}
theorem DL.appStrAt {s x : Operand} {t u el d B N : Nat} {v : Value} {xs : List Value} {b : ByteArray} (hg : wantB ops e g = true) (hn : Nat.blt d n = true) (ht : eltT P t el 1 1 = true) (hu : P.underlying u = some .string) (hz : zeroT P el = some (.int .u8 0)) (hs : ev e s = v) (hx : ev e x = .string b)
  (hown : w.ownsRow B el 1 v N xs) (hby : N + b.size ≤ 140737488355328) (hB : B ≤ w.heap.size)
  (k : ∀ v' w', Fr (ownL v) w w' → w'.ownsRow B el 1 v' (N + b.size) (xs ++ Lib.strCells b) → (v'.ownBlock = v.ownBlock ∨ v'.ownBlock = some w.heap.size) → DL P n ops rest (upd e d v') w' K) :
  DL P n ops (⟨some d, .call ⟨.builtin .append, #[s, x], #[t, u]⟩, ty, pos, af, g⟩ :: rest) e w K := by
 obtain ⟨i, z, k1, k2, k3, k4, k5, k6, k7, k8⟩ := eltT_spec ht
 have hz' : i.zero = some (.int .u8 0) := by
  unfold zeroT at hz
  rw [k2] at hz
  exact hz
 obtain ⟨v', w', hrun, ho, hgr, hat⟩ := app_string_at (P := P) (w := w) B t u ty el i k1 hu k2 hz' k3 k4 v N xs hown b (by simp only [maxLen]; omega) hby hB
 refine DL.run hg hn (v := v') ?_ (k v' w' (fr_grown hgr) ho hat)
 simp [execOp, resolve, Go.invoke, builtin, hs, hx, hrun]
/-- A call through an interface value. -/
theorem DL.invoke {f : FuncId} {recv : Operand} {m : String} {l : List Operand} {t : TypeId} {x : Value} {args : List Value} {ats : Array TypeId} {S : List Nat} {post : Value → World → Prop} (hg : wantB ops e g = true) (hn : ltB n dst = true) (hr : ev e recv = .iface t x) (ha : evs e l = args)
  (hm : ∀ w, (callMethod (.iface t x) m args.toArray).run P w = .ok (.enter f (x :: args).toArray) w) (hc : Calls P f (x :: args).toArray w (Ret w S post)) (k : ∀ v w', Fr S w w' → post v w' → DL P n ops rest (put e dst v) w' K) :
  DL P n ops (⟨dst, .call ⟨.invoke recv m, l.toArray, ats⟩, ty, pos, af, g⟩ :: rest) e w K := by
 refine DL.op hg hn fun next a Q N hev hN hk => ?_
 have he : (execOp (ev e) ⟨dst, .call ⟨.invoke recv m, l.toArray, ats⟩, ty, pos, af, g⟩).run P w = .ok (.enter f (x :: args).toArray) w := by
  have h1 : execOp (ev e) ⟨dst, .call ⟨.invoke recv m, l.toArray, ats⟩, ty, pos, af, g⟩ = Go.invoke (.fn (.method m) #[]) (#[ev e recv] ++ l.toArray.map (ev e)) := rfl
  have h2 : l.toArray.map (ev e) = args.toArray := by rw [← ha, evs_eq]; simp
  rw [h1, h2, hr]
  have h3 : Go.invoke (.fn (.method m) #[]) (#[.iface t x] ++ args.toArray) = callMethod (.iface t x) m args.toArray := by
   have e1 : (#[Value.iface t x] ++ args.toArray)[0]? = some (.iface t x) := by simp
   have e2 : (#[Value.iface t x] ++ args.toArray).extract 1 (#[Value.iface t x] ++ args.toArray).size = args.toArray := by simp [Array.extract_append]
   unfold Go.invoke
   simp only [e1, e2]
  rw [h3]; exact hm w
 unfold Oper.wp
 rw [hev, he, Oper.upon_enter]
 refine hc.mono fun y w' hx => ?_
 cases y with
 | returned v => exact hN _ _ (hk _ _ (k v w' hx.1 hx.2))
 | _ => exact hx.elim
theorem Y.ptrNil {x : Operand} {t u : TypeId} {p : Option Addr} {b : Bool} (ht : P.underlying t = some (.pointer (P.pointee t))) (hx : ev e x = .pointer p) (hb : p.isNone = b) : Y P e ⟨dst, .binOp .eql t x (.const (.pointer none)) u, ty, pos, af, g⟩ w (.bool b) := by
 subst hb
 unfold Y
 have h := run_eql_pointer_nil (P := P) w t p ht
 have hg : eqGuard .eql t x (.const (.pointer none)) (.pointer p) (.pointer none) = pure () := by cases p <;> rfl
 have hc : ev e (.const (.pointer none)) = .pointer none := rfl
 simp only [execOp, hx, hc, hg, Sem.run_bind, Sem.run_pure, Result.andThen_ok, h]
theorem Y.ptrNe {x y : Operand} {t u te : TypeId} {j : TypeInfo} {a : Addr} (ht : P.underlying t = some (.pointer te)) (hte : P.info? te = some j) (hx : ev e x = .pointer (some a)) (hy : ev e y = .pointer (some a)) : Y P e ⟨dst, .binOp .neq t x y u, ty, pos, af, g⟩ w (.bool false) := by
 unfold Y
 have h := Lib.run_neq_ptr_same (P := P) w a ht hte
 have hg : eqGuard .neq t x y (.pointer (some a)) (.pointer (some a)) = pure () := by rfl
 simp only [execOp, hx, hy, hg, Sem.run_bind, Sem.run_pure, Result.andThen_ok, h]
theorem Y.toUns {x : Operand} {src dst' t el : TypeId} {j : TypeInfo} {cells : Nat} {a : Addr} (hs : P.underlying src = some (.pointer t)) (hd : P.underlying dst' = some .unsafePointer) (ht : P.info? t = some j) (hj : j.size ≠ 0) (hx : ev e x = .pointer (some a)) (hsh : w.shape? a.block = some (el, cells)) (hoff : a.off < cells) :
  Y P e ⟨dst, .convert src dst' x, ty, pos, af, g⟩ w (.pointer (some a)) := by
 unfold Y
 simp only [execOp, hx, Sem.run_bind, Lib.run_to_unsafe (P := P) w a hs hd ht hj hsh hoff, Result.andThen_ok, Sem.run_pure]
theorem Y.fromUns {x : Operand} {src dst' u el : TypeId} {j : TypeInfo} {cells : Nat} {a : Addr} (hs : P.underlying src = some .unsafePointer) (hd : P.underlying dst' = some (.pointer u)) (hu : P.info? u = some j) (hx : ev e x = .pointer (some a)) (hsh : w.shape? a.block = some (el, cells)) (hlies : liesAt P P.depth el (cells / P.cellsOf el) a.off u 1 = true) :
  Y P e ⟨dst, .convert src dst' x, ty, pos, af, g⟩ w (.pointer (some a)) := by
 unfold Y
 simp only [execOp, hx, Sem.run_bind, Lib.run_from_unsafe (P := P) w a hs hd hu hsh hlies, Result.andThen_ok, Sem.run_pure]
end
end Go.Proofs.YtmbleojlnaofjaaGreatDoor.D

