/- FnQueryText, second form: own texts, joined and made short by a program (part 17): for every argument of bulk at most 1048576 the law answers true. -/
import Derived.Test.YtlojelcoibpphaaGreatDoorMx01
import Derived.Test.YtlojelcoibpphaaGreatDoorCards
import Derived.Test.YtlojelcoibpphaaGreatDoorTie
import Derived.Test.YtlojelcoibpphaaGreatDoorMx14
import Derived.Test.YtlojelcoibpphaaGreatDoorMx16
import Derived.ProofKit
import Derived.OpenShut
import Derived.Deep.DeepHandedRow
import Derived.WideKeyArgs
import Derived.ChangeMaps5
set_option maxRecDepth 100000
set_option maxHeartbeats 2000000
set_option linter.unusedVariables false
set_option linter.unusedSimpArgs false
set_option linter.unusedSectionVars false
set_option linter.defProp false
namespace Go.Proofs.YtlojelcoibpphaaGreatDoor.fnQueryText
open Go Go.ChangeMaps Go.ChangeShapes Go.WideShapes Go.ChangeAt Go.RowKit Go.Proofs.YtlojelcoibpphaaGreatDoor D
variable{w W:World}{c:Array Value}{v:Value}{R:List Nat}{bA bB bC bD:Bool}
theorem own:ownKnob Tryz.prog.godebug=none:=by kernel_rfl
theorem laidOut:laidOutB Tryz.prog=true:=by kernel_rfl
theorem wm:Tryz.prog.readableRec 31=true:=by kernel_rfl
theorem xX:31<Tryz.prog.types.size:=T5 Au
theorem wy{m:Type}{o:TypeId×Value→m}{k:Program}{g:Func}{s:ChangeSpec}{p q:List (DataW m)}{f pa pv:List MemPlace}
  (r:DataW.Whole o k g.params.toList s.vars bA W c.toList p q f)
  (u:∀(l:Nat)(j:Nat→Bool)(H:Bool),DataW.TrodAll o k w l j H g.resultTypes.toList (v.resultList g.resultTypes.size) (s.fn m (p++q)).results [])
  (y:∀j:Nat→Bool,(∀b∈f,j b.block=true)→DataW.TrodAll o k w 0 j true g.params.toList c.toList (s.fn m (p++q)).args pa)
  (z:∀j:Nat→Bool,(∀b∈f,j b.block=true)→DataW.TrodVars o k w j s.vars (s.fn m (p++q)).vars pv)
  (t:f=pa++pv) (A:Fr [] W w)
  (I:∀(B:Nat)(C:TypeId)(D:Value),g.resultTypes[B]? =some C→(v.resultList g.resultTypes.size)[B]? =some D→Value.okWide k w .any 0 C D):
  s.post o k g bA bB bC bD W c v w:=by
 have E:∀b∈f,(fun l=>decide (l<W.heap.size)) b.block=true:=fun b d=>by simpa using r.lt b d
 have J:∀b∈f,b.block<W.heap.size:=fun b d=>r.lt b d
 refine⟨p,q,f,[],pa,pv,r,u _ _ _,y _ E,z _ E,World.keptBut_mono (fun b d=>⟨d,?_⟩) (A.below.frame (· ∈f)),fun _=>?_⟩
 ·rw[t,Uc]at d
  exact Tk d
 obtain⟨_,_,_,_,_,K,L⟩:=r
 refine⟨I,_,_,([]++pa)++pv,⟨[]++pa,pv,trodAll_append (y _ (fun _ _=>rfl)) (u _ _ _),z _ (fun _ _=>rfl),rfl,?_,?_⟩,?_⟩
 ·intro l F d
  have G:MemPlace.cell l F∈f:=by rw[t];simpa using d
  rw[A.below.frozen (J _ G)]
  exact K l F G
 ·intro M
  have:=L M
  rw[t]at this
  simpa using this
 intro b d _
 rw[t]
 simpa using d
theorem Jk : ("unicode/utf8.first", Lib.firstData) ∈ Rows.fnQueryTextUptoRow.laid := by
 have h:Go.Pinned.utf8First=Lib.firstData:=by kernel_rfl
 rw[←h];simp[Rows.fnQueryTextUptoRow,Rows.laid_unicode_utf8_first]
theorem G7 : ("unicode/utf8.acceptRanges", Lib.acceptData) ∈ Rows.fnQueryTextUptoRow.laid := by
 have h:(Rows.laid_unicode_utf8_acceptRanges:DataW Unit)=Lib.acceptData:=by kernel_rfl
 rw[←h];simp[Rows.fnQueryTextUptoRow]
theorem Px(h:laidMetH Tryz.prog Rows.fnQueryTextUptoRow.laid w):ij w:=
 tq (l:=Rows.fnQueryTextUptoRow.laid) h Jk G7
theorem Oz : ("internal/strconv.uint64pow10", Lib.tabData .u64 Lib.pow10Tab) ∈ Rows.fnQueryTextUptoRow.laid := by
 have h:(Rows.laid_internal_strconv_uint64pow10:DataW Unit)=Lib.tabData .u64 Lib.pow10Tab:=by kernel_rfl
 rw[←h];simp[Rows.fnQueryTextUptoRow]
theorem tb(h:laidMetH Tryz.prog Rows.fnQueryTextUptoRow.laid w):TB w:=vO (l:=Rows.fnQueryTextUptoRow.laid) h Oz
theorem AI{e:Ending}{c:Value→World→Prop}(h:hH W R c e w):∃b,e=.returned b∧Fr R W w∧c b w:=by
 cases e with
 |returned b=>exact⟨b,rfl,h⟩
 |_=>exact h.elim
set_option maxRecDepth 100000 in
theorem Eg(f:Type)(g:TypeId×Value→f)(b:World)(D:Nat)(c:Array Value)(j o:List (DataW f))(E:List MemPlace)
  (p:∀(q:Nat) r d,Tryz.f3.params[q]? =some r→c[q]? =some d→Value.okWide Tryz.prog b .any D r d)
  (t:DataW.Whole g Tryz.prog Tryz.f3.params.toList Rows.fnQueryTextSpec.vars false b c.toList j o E)
  (hk:Rows.uptoSmall f (j++o)) (hL:laidMetH Tryz.prog Rows.fnQueryTextUptoRow.laid b):
  Calls Tryz.prog 3 c b fun e k=>∃d,e=.returned d∧Rows.fnQueryTextSpec.post g Tryz.prog Tryz.f3 false true false false b c d k:=by
 have l:=t
 obtain⟨F,G,u,H,rfl,U,hnd⟩:=t
 have v:DataW.TrodAll g Tryz.prog b 0 (fun _=>true) true Tryz.f3.params.toList c.toList j F:=u
 rw[Tryz.params3]at v p
 obtain⟨m,W,I,X,y,Y,Z,rfl,rfl,h0,J⟩:=trodAll_cons v
 obtain⟨rfl,rfl,rfl⟩:=trodAll_nil J
 obtain rfl:c=#[m]:=by cases c;simp_all
 obtain⟨rfl,rfl⟩:=trodVars_none H
 clear u
 simp only[T3]at l
 have z:Rows.uptoBulk I≤1048576:=by
  have h:=T5 hk
  simp only[T3,Rows.uptoBulkAll]at h
  omega
 have K:=h0
 obtain⟨L,rfl⟩:∃A,m=.agg A:=by
  have:=p 0 31 m rfl rfl
  simp only[Value.okWide,Tryz.underlying31]at this
  exact⟨this.choose,this.choose_spec.1⟩
 obtain⟨M,O⟩:=h0
 obtain⟨P,⟨Q,R⟩,hw0⟩:=(tZ M).1 _ _ O z
 have B:=Px hL
 refine(yH (q:=P) (cs:=L) (w:=b) (by simpa[Value.cells]using Q) R B (tb hL) B.two (Tq hw0 z)).mono fun e k S=>?_
 obtain⟨d,rfl,C,rfl⟩:=AI S
 have T:∀x∈y++[],b.sameAt k x:=fun x hx=>C.below.same (l.lt x (by simpa using hx))
 refine⟨_,rfl,wy (pa:=y++[]) (pv:=[]) l (fun _ _ _=>trodAll_cons_mk (shut_bool Tryz.underlying4 _) trodAll_mk0) (fun aa hs=>?_) (fun _ _=>rfl) Al C (ok_one Au rfl (okWide_bool_mk Tryz.underlying4 _))⟩
 rw[Tryz.params3]
 exact trodAll_cons_mk (WideElems.Trod_stays laidOut wm xX K (fun x hx=>T x Ci) (fun x hx=>hs x Ci)) (trodAll_mk0)
def OI:Obj→Obj
 | .cells _ t frozen=>.cells (Lib.firstTab.map fun z=>Value.int .u8 z).toArray t frozen
 |o=>o
def Oi:Obj→Obj
 | .cells _ t frozen=>.cells ((List.range 16).flatMap fun i=>[Value.int .u8 (Lib.accLo i),Value.int .u8 (Lib.accHi i)]).toArray t frozen
 |o=>o
def N5:DataW Unit→Value
 | .lit (.int k z)=>.int k z
 |_=>.int .i64 0
def IK:DataW Unit→Obj→Obj
 | .agg l,.cells _ t frozen=>.cells (l.map N5).toArray t frozen
 |_,o=>o
noncomputable def pk(os:Os):World:=
 {World.holding Tryz.prog os ⟨#[],#[],[]⟩with heap:=((World.holding Tryz.prog os ⟨#[],#[],[]⟩).heap.modify 0 OI).modify 1 Oi|>.modify 2 (IK Rows.laid_internal_strconv_uint64pow10)|>.modify 3 (IK Rows.laid_math_bits_deBruijn32tab)|>.modify 4 (IK Rows.laid_math_bits_deBruijn64tab)}
def zeroV:Value:=.agg #[Zs,Zs,Zi,Zi,Zs,Zl,Zl,Zl,Zl,Zl,Zl,Zl]
theorem Ds(b:Os):laidMet Tryz.prog Rows.fnQueryTextUptoRow.laid ((pk b).forCall (fun _ _=>0) ⟨#[],#[(zeroV:Value)],[]⟩).memory:=
 laidMet_of_run' 8 Au Au
theorem reads(b:Os){c:Type}(d:TypeId×Value→c):∃f,DataW.whole d Tryz.prog ((pk b).forCall (fun _ _=>0) ⟨#[],#[(zeroV:Value)],[]⟩).memory Tryz.f3.params.toList Rows.fnQueryTextSpec.vars false #[(zeroV:Value)].toList 8=some ([.agg [.lit (.string []),.lit (.string []),.agg [.lit (.int .i64 0),.lit (.int .i64 0),.lit (.string []),.nil,.nil,.nil],.nil,.nil,.nil,.nil]],[],f):=
 ⟨[],by kernel_rfl⟩
set_option maxRecDepth 100000 in
theorem lifted(c:Os)(f:c.Started)(d:Type)(b:TypeId×Value→d)(g:Stop.Interp):
  ReturnsInHanded {} Tryz.checked c 3 .any ((Rows.OpenSpec.upto Rows.fnQueryTextSpec).preRow b Tryz.prog Tryz.f3 Rows.fnQueryTextUptoRow.domain false Rows.fnQueryTextUptoRow.laid) (((Rows.OpenSpec.upto Rows.fnQueryTextSpec).at g).post b Tryz.prog Tryz.f3 false true false false):=by
 obtain⟨u,hx⟩:=reads c b
 refine returnsInHanded_of_row (C:=Tryz.checked) (s:=Rows.OpenSpec.upto Rows.fnQueryTextSpec) own f Au Tryz.func3
  (witness_row_at (enc:=b) (C:=Tryz.checked) false (pk c) #[(zeroV:Value)] rfl Au Au Au
   (OpenSpec.preRow_of_cond 8 hx Au (fun v hk=>by cases hk;kernel_rfl) Au (Ds c))) ?_
 intro j k l m o p q r _ t _ hL _ _
 exact Eg d b j k l m o p q r (t _ rfl) hL
theorem said:Rows.FnQueryTextUptoSaid:=
 OpenClaim.holds_of_cond 3 Tryz.f3 rfl rfl rfl rfl rfl rfl rfl ⟨rfl,rfl,rfl,rfl,rfl⟩ rfl rfl rfl rfl rfl Au Tryz.func3 Au
  (T5 Au) Bc
  (fun b c d f _ g=>by rw[OpenClaim.pre_eq_preRow];exact lifted b c d f g)
theorem plain(b : FuncId)(c : Func)(j : Tryz.pinned.checked.prog.funcNamed "pub-strainer/laws.FnQueryText" = some b)(k : Tryz.pinned.checked.prog.funcs[b]? = some c) :
  false=Tryz.pinned.checked.prog.looks []∧∀(f:Nat) d,c.params[f]? =some d→Tryz.pinned.checked.prog.wantsStandIn d=false:=by
 obtain rfl : b = 3 := Up ((show Tryz.prog.funcNamed "pub-strainer/laws.FnQueryText" = some 3 by kernel_rfl).symm.trans j) |>.symm
 obtain rfl:c=Tryz.f3:=(Up (Tryz.func3.symm.trans k)).symm
 refine⟨by kernel_rfl,fun f d ht=>?_⟩
 rw[Tryz.params3]at ht
 have g:=Array.mem_of_getElem? ht
 simp only[List.mem_toArray,Tr,Tp,TD]at g
 rcases g with rfl
 ·exact(show Tryz.prog.wantsStandIn 31=false by kernel_rfl)
theorem card:Rows.FnQueryTextUptoCardSaid:=
 Claim7.holds_tied_plain_at .later [] _ _ _ _ said (fun _ h=>by cases h) Au (fun _ h=>by cases h) fnQueryTextUpto_row_tie rfl ⟨rfl,rfl⟩ Au rfl plain Au
end Go.Proofs.YtlojelcoibpphaaGreatDoor.fnQueryText
