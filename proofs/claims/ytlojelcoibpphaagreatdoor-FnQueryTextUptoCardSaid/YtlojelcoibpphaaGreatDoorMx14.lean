/- FnQueryText, second form: own texts, joined and made short by a program (part 14): for every argument of bulk at most 1048576 the law answers true. -/
import Derived.Test.YtlojelcoibpphaaGreatDoorMx01
import Derived.Test.YtlojelcoibpphaaGreatDoorMx13
import Derived.Shelf.Unicode.ValidAny
import Derived.Test.YtlojelcoibpphaaGreatDoorProg
import Derived.Test.YtlojelcoibpphaaGreatDoorMx02
import Derived.Test.YtlojelcoibpphaaGreatDoorMx03
import Derived.Test.YtlojelcoibpphaaGreatDoorMx06
import Derived.Test.YtlojelcoibpphaaGreatDoorRows
import Derived.ChangeArms
import Derived.ChangeShapes
import Derived.SizedLaws
import Derived.DataReads
import Derived.Lib.LaidU8
import Derived.ArgAppend
import Derived.Deep.Upon
set_option maxRecDepth 100000
set_option maxHeartbeats 2000000
set_option linter.unusedVariables false
set_option linter.unusedSimpArgs false
set_option linter.unusedSectionVars false
set_option linter.defProp false
namespace Go.Proofs.YtlojelcoibpphaaGreatDoor
open Go Go.RowKit D Go.Deep Go.Proofs
variable{t sA sB:ByteArray}{q p qA qB:N}{Q P qF:List N}{S T:List ByteArray}{vH vI:V}
def Pl(k v:N):Prop:=iz v=Cn→(∃s:ByteArray,k=mu s)∨(∃s:ByteArray,k=jk s)∨∃ns ks,ns.length=ks.length+1∧k=.mk Cp ⟨#[]⟩ V0 ns ks [] []
def Oy(ks:List N):Prop:=ks.length%2=0∧∀(i:Nat)(h:2*i+1<ks.length),Pl (ks[2*i]'(TW h)) ks[2*i+1]
inductive Wf:N→Prop
 |mk {op tx:ByteArray} {v:V} {ns:List ByteArray} {ks ps ds:List N} (hk:∀(i:Nat)(h:i<ks.length),Wf ks[i]) (hd:∀(i:Nat)(h:i<ds.length)(j:Nat)(h':j<(yC ds[i]).length),Wf (yC ds[i])[j]) (hc:op=oh∨op=mj→ks.length=2) (ho:op=⟨#[111,98,106,101,99,116]⟩→Oy ks) (hq:op=nO→0<ds.length):Wf (.mk op tx v ns ks ps ds)
theorem EC{ps:List N}(hc:t≠oh∧t≠mj∧t≠nO):Wf (.mk t sA vH S [] ps []):=.mk oW oW (fun h=>h.elim (fun h=>Tu h hc.1) (fun h=>Tu h hc.2.1)) (fun _=>⟨rfl,fun i h=>by simp at h⟩) (fun h=>Tu h hc.2.2)
theorem sj{ks ps:List N}(hk:∀(i:Nat)(h:i<ks.length),Wf ks[i])(hc:t≠oh∧t≠mj∧t≠nO)(b:t≠Cm):Wf (.mk t sA vH S ks ps []):=.mk hk oW (fun h=>h.elim (fun h=>Tu h hc.1) (fun h=>Tu h hc.2.1)) (fun h=>Tu h b) (fun h=>Tu h hc.2.2)
theorem w1(h:Wf q):∀(i:Nat)(h:i<[q].length),Wf [q][i]:=fun i hi=>by have:i=0:=A3;subst this;exact h
theorem w2(h:Wf q)(b:Wf p):∀(i:Nat)(h:i<[q,p].length),Wf [q,p][i]:=fun i hi=>by
 match i,hi with
 |0,_=>exact h
 |1,_=>exact b
theorem w3(h:Wf q)(b:Wf p)(h2:Wf qA):∀(i:Nat)(h:i<[q,p,qA].length),Wf [q,p,qA][i]:=fun i hi=>by
 match i,hi with
 |0,_=>exact h
 |1,_=>exact b
 |2,_=>exact h2
theorem w4(h:Wf q)(b:Wf p)(h2:Wf qA)(c:Wf qB):∀(i:Nat)(h:i<[q,p,qA,qB].length),Wf [q,p,qA,qB][i]:=fun i hi=>by
 match i,hi with
 |0,_=>exact h
 |1,_=>exact b
 |2,_=>exact h2
 |3,_=>exact c
theorem nj:Wf je:=EC Ah
def RE(k:Nat)(n:N):Prop:=match k with
 |0=>Wf n
 |2=>∀(j:Nat)(h:j<(yC n).length),Wf (yC n)[j]
 |3=>∃k v,n=mR k v∧Wf k∧Wf v∧Pl k v
 |_=>True
theorem zd:∀b,1≤b∧b≤24→jQ b≠Cm∧jQ b≠nO:=by
 have:∀b,b<25→1≤b→jQ b≠Cm∧jQ b≠nO:=by decide
 exact fun b h=>this b Ac h.1
theorem Na{k:Nat}{n:N}{p:List UInt8}(h:Gd k n p):RE k n:=by
 induction h with
 |dot=>exact EC Ah
 |LM=>exact EC Ah
 |val h=>exact EC Ah
 |fmt hs=>exact EC Ah
 |za hs=>exact EC Ah
 |var hs=>exact EC Ah
 |Lg E t l hl h b=>exact sj (fun i h1=>b i h1 Ac) Ah Ah
 |zO=>exact EC Ah
 |zH h b=>exact sj (w1 b) Ah Ah
 | @obj ks q hl h b=>
  refine .mk (fun i hi=>?_) oW (fun h=>by rcases h with h|h<;>exact Tu h Ah) (fun _=>⟨Ac,fun i hi=>?_⟩) (fun h=>Tu h Ah)
  ·obtain⟨k,v,e,w,y,_⟩:=b (i/2) Ac Ac
   injection e with _ _ _ _ e _ _
   injection e with e1 e
   injection e with e2 _
   rcases Nat.mod_two_eq_zero_or_one i with h0|h0
   ·have:ks[i]=ks[2*(i/2)]'Ac:=by congr 1;omega
    rw[this,e1];exact w
   have:ks[i]=ks[2*(i/2)+1]'Ac:=by congr 1;omega
   rw[this,e2];exact y
  obtain⟨k,v,e,_,_,f⟩:=b i hi Ac
  injection e with _ _ _ _ e _ _
  injection e with e1 e
  injection e with e2 _
  rw[e1,e2];exact f
 | @call s ks q hs hl h b=>exact sj (fun i h1=>b i h1 Ac) Ah Ah
 |FP l h b=>exact sj (w1 b) Ah Ah
 |idx h g c d=>exact sj (w2 c d) Ah Ah
 |LD h g m z A c d j=>exact sj (w3 c d j) Ah Ah
 |LW h g z c d=>exact sj (w3 c d nj) Ah Ah
 |slt h m A c d=>exact sj (w3 c nj d) Ah Ah
 |each h b=>exact sj (w1 b) Ah Ah
 |opt h b=>exact sj (w1 b) Ah Ah
 |neg h b=>exact sj (w1 b) Ah Ah
 |HZ hs h b=>exact sj (w1 b) Ah Ah
 | @vF F G k p o hl H h B b=>exact .mk (w1 b) (fun i h1=>B i h1 Ac) (fun h=>by rcases h with h|h<;>exact Tu h Ah) (fun h=>Tu h Ah) (fun _=>o)
 |u4 h b=>exact sj (w1 b) Ah Ah
 |ur h g c d=>exact sj (w2 c d) Ah Ah
 |red h f g m c r d j=>exact sj (w3 c d j) Ah Ah
 |uh h f g m c r d j=>exact sj (w3 c d j) Ah Ah
 |uI h f g m hx c r d j C=>exact sj (w4 c d j C) Ah Ah
 | @MW k I p J ks q h0 g hl h c d b=>
  refine sj (fun i h1=>?_) Ah Ah
  match i,h1 with
  |0,_=>exact c
  |1,_=>exact d
  |i+2,h1=>exact b i AW Bn
 |Nn h g o hl f c d r=>exact sj (w2 c d) Ah Ah
 |bin u h g c d=>exact .mk (w2 c d) oW (fun _=>rfl) (fun h=>Tu h (zd _ u).1) (fun h=>Tu h (zd _ u).2)
 |pV hs=>exact⟨_,_,rfl,EC Ah,nj,fun _=>Ts ⟨_,rfl⟩⟩
 |pN hs=>exact⟨_,_,rfl,EC Ah,nj,fun _=>Tk (Ts ⟨_,rfl⟩)⟩
 |pT hs l=>exact⟨_,_,rfl,EC Ah,nj,fun _=>Tk (Ts ⟨_,rfl⟩)⟩
 | @pI K ks q t l hl h b=>exact⟨_,_,rfl,sj (fun i h1=>b i h1 Ac) Ah Ah,nj,fun _=>Tk (Tk ⟨_,_,t,rfl⟩)⟩
 |Nv h g D c d=>exact⟨_,_,rfl,c,d,fun h=>Tu h D⟩
 |df hs f h b=>exact w1 b
 |MV hs=>trivial
 |L9 o hl f b=>trivial
 |MU o hk hl f b=>trivial
 |MR hs=>trivial
 |DU hs f b=>trivial
 |EM l f b=>trivial
def M0(n x:N):Prop:=∃m,l8 n m∧l8 x m∧Cq oh n x∧Cq mj n x∧(iz n≠nO→iz m≠nO)∧(iz n=nO→∃dy b mb em,x=nK dy b∧l8 b mb∧iz mb≠nO∧dy.length=em.length∧(∀(i:Nat)(h1:i<dy.length)(h2:i<em.length),DE dy[i] em[i])∧m=nK em mb∧0<em.length∧em.length≤n.wt)
def M2(d d':N):Prop:=∃e,DE d e∧DE d' e
theorem M0.plain{n x:N}(b:l8 n q)(hx:l8 x q)(h1:iz n≠oh∧iz n≠mj∧iz n≠nO)(h2:iz x≠oh∧iz x≠mj)(c:iz q≠nO):M0 n x:=
 ⟨q,b,hx,.leaf h1.1 h2.1 b hx,.leaf h1.2.1 h2.2 b hx,fun _=>c,fun h=>Tu h h1.2.2⟩
theorem Dq{P:N→N→N→Prop}(hl:Q.length=qF.length)(h:∀(i:Nat)(h1:i<Q.length)(h2:i<qF.length),∃b,P Q[i] qF[i] b):∃c:List N,Q.length=c.length∧∀(i:Nat)(h1:i<Q.length)(h2:i<qF.length)(f:i<c.length),P Q[i] qF[i] c[i]:=by
 have d:∀i,∃b,∀(h1:i<Q.length)(h2:i<qF.length),P Q[i] qF[i] b:=fun i=>by
  by_cases hi:i<Q.length
  ·obtain⟨x,hx⟩:=h i hi Ac;exact⟨x,fun _ _=>hx⟩
  exact⟨je,fun h=>Tu h hi⟩
 refine⟨(List.range Q.length).map (fun i=>Classical.choose (d i)),by simp,fun i h1 h2 f=>?_⟩
 simp only[Uw,Us]
 exact Uo (d i) h1 h2
theorem Jf(hl:Q.length=qF.length)(h:∀(i:Nat)(h1:i<Q.length)(h2:i<qF.length),M0 Q[i] qF[i]):∃c,qS Q c∧qS qF c:=by
 obtain⟨c,h1,h2⟩:=Dq (P:=fun n x d=>l8 n d∧l8 x d) hl (fun i a b=>let⟨d,p,q,_⟩:=h i a b;⟨d,p,q⟩)
 exact⟨c,⟨h1,fun i a b=>(h2 i a Ac b).1⟩,⟨Ac,fun i a b=>(h2 i Ac a b).2⟩⟩
theorem D3(hl:Q.length=qF.length)(h:∀(i:Nat)(h1:i<Q.length)(h2:i<qF.length),M2 Q[i] qF[i]):∃b:List N,Q.length=b.length∧(∀(i:Nat)(h1:i<Q.length)(h2:i<b.length),DE Q[i] b[i])∧∀(i:Nat)(h1:i<qF.length)(h2:i<b.length),DE qF[i] b[i]:=by
 obtain⟨b,h1,h2⟩:=Dq (P:=fun n x d=>DE n d∧DE x d) hl (fun i a c=>let⟨d,p,q⟩:=h i a c;⟨d,p,q⟩)
 exact⟨b,h1,fun i a c=>(h2 i a Ac c).1,fun i a c=>(h2 i Ac a c).2⟩
theorem KU(hk:Xr 0 q p)(C:Xr 0 qA qB)(v:M0 q p)(w:M0 qA qB)(M:Pl q qA)(A:q.wt≤1048576):∃d D E F v w,Fp q qA d D∧Fp p qB E F∧l8 d v∧l8 E v∧l8 D w∧l8 F w:=by
 obtain⟨Q,t,u,_⟩:=v
 obtain⟨R,G,H,_⟩:=w
 have O:∀s:ByteArray,¬(iz (jk s)=Cp∧QL (jk s)=⟨#[]⟩∧yC (jk s)=[]):=fun s h=>by have:=h.1;revert this;simp only[iz];decide
 -- what the B is written out as
 have B:(∃s:ByteArray,s.size≤1048576∧Kf q (jk s)∧Kf p (jk s))∨(Kf q q∧Kf p p∧∀f,q≠ .mk Cp ⟨#[]⟩ V0 f [] [] []):=by
  cases hk with
  |none=>right;exact⟨.mP (fun h=>Tu h.1 Ah),.mP (fun h=>Tu h.1 Ah),fun f e=>by cases e⟩
  |val h=>right;exact⟨.mP (fun h=>by have:=h.1;revert this;simp only[iz];decide),.mP (fun j=>h.op.2.2.2.2 j.1),fun f e=>by cases e⟩
  | @rm s=>
   left
   have hs:s.size≤1048576:=by simp only[N.wt,T8,Ui]at A;omega
   exact⟨s,hs,.text hs,.mP (O s)⟩
  | @node I S T P y U r ht hl h=>
   right
   refine⟨.mP (fun j=>?_),.mP (fun j=>?_),fun f e=>?_⟩
   ·rcases ht j.1 with h0|h0
    ·rw[show P=[]from j.2.2]at h0;simp at h0
    exact h0 j.2.1
   ·rcases ht j.1 with h0|h0
    ·rw[hl,show y=[]from j.2.2]at h0;simp at h0
    exact h0 j.2.1
   cases e;rcases ht rfl with h0|h0
   ·simp at h0
   exact h0 rfl
  |vF hk hl g h=>right;exact⟨.mP (fun h=>by have:=h.1;revert this;simp only[iz];decide),.mP (fun h=>by have:=h.1;revert this;simp only[iz];decide),fun f e=>by cases e⟩
  |sL hk hl g h=>right;exact⟨.mP (fun h=>by have:=h.1;revert this;simp only[iz];decide),.mP (fun h=>by have:=h.1;revert this;simp only[iz];decide),fun f e=>by cases e⟩
 by_cases c:iz qA=Cn
 ·have o:iz qB=Cn:=by
   cases C with
   |none=>rfl
   |val h=>exact Tu c AL
   |rm=>exact Tu c AL
   | @node I _ _ _ _ _ r ht hl h=>
    have e:I=Cn:=c
    subst e;exact Tu r Ah
   |vF hk hl g h=>exact Tu c AL
   |sL hk hl g h=>exact Tu c AL
  rcases B with⟨s,hs,k,d⟩|⟨k,d,J⟩
  ·have m:iz (jk s)≠Cx:=by simp only[iz];decide
   exact⟨_,_,_,_,_,_,⟨_,k,.n c m (Tk ⟨s,rfl,Ac⟩)⟩,⟨_,d,.n o m (Tk ⟨s,rfl,Ac⟩)⟩,mB s,mB s,oA s,oA s⟩
  rcases M c with⟨s,rfl⟩|⟨s,rfl⟩|⟨f,ks,W,rfl⟩
  ·have hs:s.size≤1048576:=by simp only[N.wt]at A;omega
   generalize b:mu s=q at hk
   cases hk with
   |none=>cases b
   |val h=>cases b
   |rm=>cases b
   | @node _ _ _ _ y _ r ht hl h=>
    cases b
    have:y=[]:=Tn hl.symm
    subst this
    exact⟨_,_,_,_,_,_,⟨_,k,.d hs c⟩,⟨_,d,.d hs o⟩,mB s,mB s,t,u⟩
   |vF hk hl g h=>cases b
   |sL hk hl g h=>cases b
  ·have hs:s.size≤1048576:=by simp only[N.wt,V.wt]at A;omega
   have m:iz (jk s)≠Cx:=by simp only[iz];decide
   generalize b:jk s=q at hk
   cases hk with
   |none=>cases b
   |val h=>
    cases b
    cases h
    exact⟨_,_,_,_,_,_,⟨_,k,.n c m (Tk ⟨s,rfl,Ac⟩)⟩,⟨_,d,.n o m (Tk ⟨s,rfl,Ac⟩)⟩,t,u,oA s,oA s⟩
   |rm=>cases b
   |node r ht hl h=>cases b
   |vF hk hl g h=>cases b
   |sL hk hl g h=>cases b
  generalize b:(N.mk Cp ⟨#[]⟩ V0 f ks [] [])=q at hk
  cases hk with
  |none=>cases b
  |val h=>cases b
  |rm=>cases b;exact Tu rfl (J _)
  | @node _ _ _ _ y _ r ht hl h=>
   cases b
   have m:∀l,iz (.mk Cp ⟨#[]⟩ V0 f l [] [])≠Cx:=fun l=>by simp only[iz];decide
   have K:∀l,iz (.mk Cp ⟨#[]⟩ V0 f l [] [])≠Cr:=fun l=>by simp only[iz];decide
   have L:∀l z,l8 (.mk Cp ⟨#[]⟩ V0 f l [] []) z→l8 (Ev qb (.mk Cp ⟨#[]⟩ V0 f l [] [])) (.mk CF ⟨#[]⟩ V0 [] [qb,z] [] []):=fun l z h=>
    l5 (ks:=[qb,_]) (ms:=[qb,z]) Ah Ah (Ts Ah) Al (.cons zT (.cons h .nil))
   exact⟨_,_,_,_,_,_,⟨_,k,.n c (m _) (Ts (K _))⟩,⟨_,d,.n o (m _) (Ts (K _))⟩,t,u,L _ _ t,L _ _ u⟩
  |vF hk hl g h=>cases b
  |sL hk hl g h=>cases b
 have o:iz qB≠Cn:=by
  cases C with
  |none=>exact Tu rfl c
  |val h=>exact h.op.2.2.2.1
  |rm=>simp only[iz];decide
  |node r ht hl h=>exact c
  |vF hk hl g h=>simp only[iz];decide
  |sL hk hl g h=>simp only[iz];decide
 rcases B with⟨s,hs,k,d⟩|⟨k,d,J⟩
 ·exact⟨_,_,_,_,_,_,⟨_,k,.v c⟩,⟨_,d,.v o⟩,mB s,mB s,G,H⟩
 exact⟨_,_,_,_,_,_,⟨_,k,.v c⟩,⟨_,d,.v o⟩,t,u,G,H⟩
theorem zV:∀(ks b:List N),ks.length=b.length→Oy ks→(∀(i:Nat)(h1:i<ks.length)(h2:i<b.length),Xr 0 ks[i] b[i]∧M0 ks[i] b[i])→N.h9 ks≤1048576→
  ∃c d g:List N,c.length=ks.length∧d.length=b.length∧qS c g∧qS d g∧(∀(i:Nat)(h1:2*i+1<ks.length)(h2:2*i+1<c.length),Fp (ks[2*i]'(TW h1)) ks[2*i+1] (c[2*i]'(TW h2)) c[2*i+1])∧∀(i:Nat)(h1:2*i+1<b.length)(h2:2*i+1<d.length),Fp (b[2*i]'(TW h1)) b[2*i+1] (d[2*i]'(TW h2)) d[2*i+1]
 |[],[],_,_,_,_=>⟨[],[],[],rfl,rfl,.nil,.nil,fun i h=>by simp at h,fun i h=>by simp at h⟩
 |[_],_,_,f,_,_=>by have:=f.1;simp at this
 |j::k::ks,[],h,_,_,_=>by simp at h
 |j::k::ks,[_],h,_,_,_=>by simp at h
 |j::k::ks,I::J::b,h,f,hx,hw=>by
  simp only[N.h9]at hw
  obtain⟨c,d,g,o,p,q,r,t,u⟩:=zV ks b AU ⟨by have:=f.1;simp only[To]at this;omega,fun i hi=>f.2 (i+1) AM⟩ (fun i h1 h2=>hx (i+2) AW A4) Ac
  have l:=hx 0 Al Al
  have m:=hx 1 Al Al
  obtain⟨v,w,y,z,A,B,C,D,E,F,G,H⟩:=KU l.1 m.1 l.2 m.2 (f.2 0 Al) (by show j.wt≤_;omega)
  refine⟨v::w::c,y::z::d,A::B::g,by simp[o],by simp[p],.cons E (.cons G q),.cons F (.cons H r),fun i h1 h2=>?_,fun i h1 h2=>?_⟩
  ·cases i with
   |zero=>exact C
   |succ i=>exact t i Bn BQ
  ·cases i with
   |zero=>exact D
   |succ i=>exact u i Bn BQ
def MX(k:Nat)(n x:N):Prop:=match k with
 |0=>Wf n→n.wt≤1048576→M0 n x
 |2=>(∀(j:Nat)(h:j<(yC n).length),Wf (yC n)[j])→n.wt≤1048576→M2 n x
 |_=>True
theorem rO{a:N}{ps:List N}(k:t=oh∨t=mj)(h:Cq t (.mk t sA vH S [a,q] ps Q) (.mk t sB vI T [p,qA] P qF))(hw:(N.mk t sA vH S [a,q] ps Q).wt≤1048576):
  ∃l,l8 (.mk t sA vH S [a,q] ps Q) l∧l8 (.mk t sB vI T [p,qA] P qF) l∧iz l≠nO:=by
 obtain⟨o,r,m,b,f,c,d⟩:=h
 have g:o.length≤1048576:=Tq b.len (Tq (N.zD _) hw)
 have j:r.length≤1048576:=by have:=c.1;have:=d.1;omega
 have h2:2≤m.length:=by
  rw[←c.1]
  cases b with
  |leaf h=>exact Tu rfl h
  |two h1 h2=>have:=h1.pos;have:=h2.pos;simp only[Tl];omega
 refine⟨yE t m,?_,?_,by rw[Ht h2];rcases k with rfl|rfl<;>decide⟩
 ·rcases k with rfl|rfl
  ·exact xS (q6 b g) c.1 b.pos g c.2
  exact qe (q6 b g) c.1 b.pos g c.2
 rcases k with rfl|rfl
 ·exact xS (q6 f j) d.1 f.pos j d.2
 exact qe (q6 f j) d.1 f.pos j d.2
theorem M6{o:Nat}{n x:N}(h:Xr o n x):MX o n x:=by
 induction h with
 |none=>intro _ _;exact M0.plain xg xg Ah Ah Ah
 |val h=>
  intro _ hw
  obtain⟨g,h1,h2,ai⟩:=MH h (by simp only[N.wt]at hw;omega)
  exact M0.plain (n3 h1) h2 AL ⟨h.op.1,h.op.2.1⟩ ai
 | @rm s=>intro _ hw;exact M0.plain (Hz (by simp only[N.wt,T8,Ui]at hw;omega)) (mB s) AL AL AL
 | @node b D J j E K F ht hl h v=>
  intro w hw
  have G:=hw
  simp only[N.wt]at hw
  obtain⟨H,hc,aj⟩:(∀(i:Nat)(h:i<j.length),Wf j[i])∧(b=oh∨b=mj→j.length=2)∧(b=Cm→Oy j):=by
   cases w with
   |mk hk p hc F q=>exact⟨hk,hc,F⟩
  have B:∀(i:Nat)(h1:i<j.length)(h2:i<E.length),M0 j[i] E[i]:=fun i h1 h2=>v i h1 h2 (H i h1) Bb
  have a7:=N.iw j
  have u:b≠Cr∧b≠Cn∧b≠nO:=by
   refine⟨?_,?_,?_⟩<;>(intro e;subst e;exact Tu F Ah)
  by_cases L:b=oh∨b=mj
  ·have h2:=hc L
   match j,E,h2,hl,B,G with
   |[a,k],[aa,T],_,_,B,G=>
    have ak:=B 0 Al Al
    have y:=B 1 Al Al
    obtain⟨_,_,_,al,am,_,_⟩:=ak
    obtain⟨_,_,_,an,ao,_,_⟩:=y
    rcases L with rfl|rfl
    ·have q:Cq oh (.mk oh D V0 J [a,k] K []) (.mk oh D V0 J [aa,T] K []):=.two al an
     obtain⟨g,l,m,p⟩:=rO (Ts rfl) q G
     exact⟨g,l,m,q,.leaf AL AL l m,fun _=>p,fun e=>Tu e AL⟩
    have q:Cq mj (.mk mj D V0 J [a,k] K []) (.mk mj D V0 J [aa,T] K []):=.two am ao
    obtain⟨g,l,m,p⟩:=rO (Tk rfl) q G
    exact⟨g,l,m,.leaf AL AL l m,q,fun _=>p,fun e=>Tu e AL⟩
  have M:b≠oh:=fun e=>L (Ts e)
  have O:b≠mj:=fun e=>L (Tk e)
  by_cases P:b=Cm
  ·have U:=aj P
   obtain⟨a8,a9,Q,ap,aq,ab,ac,ar,au⟩:=zV j E hl U (fun i h1 h2=>⟨h i h1 h2,B i h1 h2⟩) Ac
   subst P
   refine M0.plain (u6 (ql ap U.1 Ac ar) ab.1 Ac ab.2) (u6 (ql aq (by rw[←hl];exact U.1) Ac au) ac.1 Ac ac.2) AL AL AL
  obtain⟨Q,av,aw⟩:=Jf hl B
  have ad:∀r:List N,r.length=j.length→b≠Cp∨b=Cp∧¬(D=⟨#[]⟩∧r=[]):=fun r e=>by
   by_cases hx:b=Cp
   ·right
    refine⟨hx,fun h=>?_⟩
    rcases ht hx with h0|h0
    ·rw[←e,h.2]at h0;simp at h0
    exact h0 h.1
   exact Ts hx
  exact M0.plain (l5 ⟨u.1,u.2.1,P,M,O⟩ u.2.2 (ad j rfl) Ac av) (l5 ⟨u.1,u.2.1,P,M,O⟩ u.2.2 (ad E hl.symm) Ac aw) ⟨M,O,u.2.2⟩ ⟨M,O⟩ u.2.2
 | @vF c t o x hk hl p h W v=>
  intro w hw
  simp only[N.wt,N.h9]at hw
  obtain⟨H,X,ax⟩:Wf o∧(∀(i:Nat)(h:i<c.length)(I:Nat)(ay:I<(yC c[i]).length),Wf (yC c[i])[I])∧0<c.length:=by
   cases w with
   |mk hk p hc F q=>exact⟨hk 0 Al,p,q rfl⟩
  obtain⟨g,l,m,_,_,hnd,_⟩:=v H Ac
  obtain⟨f,Y,Z,R⟩:=D3 hl (fun i h1 h2=>W i h1 h2 (X i h1) Bb)
  have az:=N.iw c
  have ae:∀(r:List N)(k:N),l8 k g→r.length=f.length→(∀(i:Nat)(h1:i<r.length)(h2:i<f.length),DE r[i] f[i])→l8 (nK r k) (nK f g):=fun r k a0 a1 a2=>
   sv (ks:=[k]) (ms:=[g]) Ah (Ts Ah) rfl Al (qS.cons a0 .nil).2 a1 Ac a2 (.mP rfl (hnd hk))
  have z:=ae c o l Y Z
  have A:=ae t x m Ac R
  refine⟨_,z,A,.leaf AL AL z A,.leaf AL AL z A,fun e=>Tu rfl e,fun _=>⟨t,x,g,f,rfl,m,hnd hk,Ac,R,rfl,Ac,?_⟩⟩
  simp only[N.wt,N.h9];omega
 | @sL c t S o k hk hl p h W v=>
  intro w hw
  have G:=hw
  simp only[N.wt,N.h9]at hw
  obtain⟨H,X,ax⟩:Wf o∧(∀(i:Nat)(h:i<c.length)(I:Nat)(ay:I<(yC c[i]).length),Wf (yC c[i])[I])∧0<c.length:=by
   cases w with
   |mk hk p hc F q=>exact⟨hk 0 Al,p,q rfl⟩
  obtain⟨g,l,m,_,_,_,a3⟩:=v H Ac
  obtain⟨aA,T,y,f,a4,af,ag,aB,a5,rfl,a6,aC⟩:=a3 hk
  cases a4
  obtain⟨C,Y,Z,R⟩:=D3 hl (fun i h1 h2=>W i h1 h2 (X i h1) Bb)
  have az:=N.iw c
  have z:l8 (nK c o) (nK (C++f) y):=sv (ks:=[o]) (ms:=[nK f y]) Ah (Ts Ah) rfl Al (qS.cons l .nil).2 Y Ac Z (.merge rfl a6 Ac Al)
  have ah:∀(i:Nat)(h1:i<(t++S).length)(h2:i<(C++f).length),DE (t++S)[i] (C++f)[i]:=fun i h1 h2=>by
   by_cases hi:i<t.length
   ·rw[TC hi,TC Ac];exact R i hi _
   rw[Tz Ac,Tz Ac]
   have:i - t.length=i - C.length:=by omega
   simp only[this]
   exact a5 _ _ _
  have A:l8 (nK (t++S) k) (nK (C++f) y):=sv (ks:=[k]) (ms:=[y]) Ah (Ts Ah) rfl Al (qS.cons af .nil).2 BX BX ah (.mP rfl ag)
  refine⟨_,z,A,.leaf AL AL z A,.leaf AL AL z A,fun e=>Tu rfl e,fun _=>⟨t++S,k,y,C++f,rfl,af,ag,by simp only[Tl];omega,ah,rfl,by simp only[Tl];omega,?_⟩⟩
  simp only[N.wt,N.h9,Tl];omega
 | @d s ps o x h v=>
  intro w hw
  simp only[N.wt,N.h9]at hw
  obtain⟨g,l,m,_⟩:=v (w 0 (by simp[yC])) Ac
  exact⟨_,.mk l,.mk m⟩
end Go.Proofs.YtlojelcoibpphaaGreatDoor
namespace Go.Proofs
open Go.Shelf
def Tryz.rH:Go.Shelf.Ren:=⟨fun|196=>53|259=>89|n=>n,fun|9=>9|4=>4|3=>3|5=>5|12=>12|119=>150|0=>0|46=>154|139=>153|138=>152|53=>188|n=>n,fun|3=>0|4=>1|n=>n⟩
theorem Tryz.xV:Go.Proofs.Lays.n196 Tryz.prog Tryz.rH:={
 mixed:=by kernel_rfl
 f196:=Tryz.func53.trans (TR some (by kernel_rfl))
 f259:=Tryz.func89.trans (TR some (by kernel_rfl))
 t0:=Tryz.underlying0
 a0:=Tryz.isAgg0
 z0:=Tryz.sizeOf0
 v0:=Tryz.zeroValue0
 t3:=Tryz.underlying3
 a3:=Tryz.isAgg3
 z3:=Tryz.sizeOf3
 v3:=Tryz.zeroValue3
 t4:=Tryz.underlying4
 a4:=Tryz.isAgg4
 z4:=Tryz.sizeOf4
 v4:=Tryz.zeroValue4
 t5:=Tryz.underlying5
 a5:=Tryz.isAgg5
 z5:=Tryz.sizeOf5
 v5:=Tryz.zeroValue5
 t9:=Tryz.underlying9
 a9:=Tryz.isAgg9
 z9:=Tryz.sizeOf9
 v9:=Tryz.zeroValue9
 t12:=Tryz.underlying12
 a12:=Tryz.isAgg12
 z12:=Tryz.sizeOf12
 v12:=Tryz.zeroValue12
 t46:=Tryz.underlying154
 a46:=Tryz.isAgg154
 z46:=Tryz.sizeOf154
 v46:=Tryz.zeroValue154
 t53:=Tryz.underlying188
 a53:=Tryz.isAgg188
 z53:=Tryz.sizeOf188
 v53:=Tryz.zeroValue188
 t119:=Tryz.underlying150
 a119:=Tryz.isAgg150
 z119:=Tryz.sizeOf150
 t138:=Tryz.underlying152
 a138:=Tryz.isAgg152
 z138:=Tryz.sizeOf152
 v138:=Tryz.zeroValue152
 t139:=Tryz.underlying153
 a139:=Tryz.isAgg153
 z139:=Tryz.sizeOf153
 v139:=Tryz.zeroValue153
 g3:=by kernel_rfl
 g4:=by kernel_rfl}
end Go.Proofs
namespace Go.Proofs.YtlojelcoibpphaaGreatDoor
open Go Go.RowKit D
variable{m k nA:Nat}{w W:World}{t:ByteArray}{R:List Nat}{j iA:Int}
theorem x2(s:ByteArray)(b:World)(hs:s.size≤9223372036854775807)(c:ij b):Calls Tryz.prog 53 #[.string s] b (hH b [] fun d f=>d=.bool (Lib.validD s.data.toList)):=by
 refine(Any.utf8_ValidString Tryz.xV s b hs c).mono fun e f h=>?_
 obtain⟨rfl,g⟩:=h
 exact hH.mk (Fr.wS g) rfl
def lk(p n:Int)(bad:Bool):Array Value:=#[.int .i64 p,.int .i64 n,.bool bad]
theorem HM{x:Int}(h1: -9223372036854775808≤x)(h2:x≤9223372036854775807):IntKind.i64.wrap x=x:=wrap_i64 h1 h2
theorem lI(c:Nat)(g n:Int)(j k:Bool)(d:World)(b:d.heap[c]? =some (.cells (lk g n j) 42 (0,0))):
  Calls Tryz.prog 27 #[Pt c,.bool k] d (hH d [c] fun p m=>m.heap[c]? =some (.cells (lk g n (j|| !k)) 42 (0,0))):=by
 refine cY Tryz.func27 fun l=>ac 5<|DL.u5 rfl rfl (Y.hY F.LQ rfl b rfl) (fun f=>?_) (fun f=>?_)
 ·refine au 6<|sc b rfl rfl rfl rfl fun q r t o=>have b:=o;au 1 ?_
  subst f
  exact rE l.g b
 refine au 6<|sc b rfl rfl rfl rfl fun u v w b=>au 1 ?_
 subst f
 exact rE l.g b
theorem zu(c:Nat)(d n g:Int)(k:Bool)(l:World)(b:l.heap[c]? =some (.cells (lk d n k) 42 (0,0))):
  Calls Tryz.prog 26 #[Pt c,.int .i64 g] l (hH l [c] fun p m=>p=.bool (!(k|| !(decide (IntKind.i64.wrap (d+1)≤400)&&decide (n≤2000)&&decide (g≤60))))∧
   m.heap[c]? =some (.cells (lk (IntKind.i64.wrap (d+1)) n (k|| !(decide (IntKind.i64.wrap (d+1)≤400)&&decide (n≤2000)&&decide (g≤60)))) 42 (0,0))):=by
 refine cY Tryz.func26 fun q=>ac 9<|lD b rfl rfl<|DL.y rfl rfl (Y.add rfl rfl)<|au 2<|sc b rfl rfl rfl rfl fun r u v b=>au 4<|DL.cut 16 [(13,28)] 28 (.bool (decide (IntKind.i64.wrap (d+1)≤400)&&decide (n≤2000)&&decide (g≤60))) (fun m=>m=r) rfl ?_ ?_
 ·refine au 3<|lD b rfl rfl<|jM rfl rfl (fun f=>?_) (fun f=>?_)
  ·refine au 4<|lD b rfl rfl<|jM rfl rfl (fun j=>?_) (fun j=>?_)
   ·refine au 3<|jM rfl rfl (fun o=>?_) (fun o=>?_)
    ·exact au 1<|DL.nil ⟨by(show Value.bool _=Value.bool _;simp only[Th f,Th j,Th o];first|done|rfl),rfl⟩
    exact au 1<|DL.nil ⟨by(show Value.bool _=Value.bool _;simp only[Th f,Th j,Ti o];first|done|rfl),rfl⟩
   exact au 5<|DL.nil ⟨by(show Value.bool _=Value.bool _;simp only[Th f,Ti j];first|done|rfl),rfl⟩
  exact au 11<|DL.nil ⟨by(show Value.bool _=Value.bool _;simp only[Ti f];first|done|rfl),rfl⟩
 rintro w _ t;obtain rfl:=t.symm
 exact cX (lI c _ _ _ _ _ b) fun _ y z A b=>au 6<|lD b rfl rfl<|au 4<|rX q.g ⟨rfl,b⟩
theorem hH.imp{d f:Value→World→Prop}(h:∀c W,Fr R w W→d c W→f c W){e:Ending}(b:D.hH w R d e W):D.hH w R f e W:=by
 cases e with
 |returned c=>exact⟨b.1,h _ _ b.1 b.2⟩
 |_=>exact b.elim
theorem uR(b:Nat)(c n g:Int)(d:Bool)(f:World)(p:f.heap[b]? =some (.cells (lk c n d) 42 (0,0)))(q:d=false→0≤c∧c≤400∧0≤n∧n≤2000):
  Calls Tryz.prog 26 #[Pt b,.int .i64 g] f (hH f [b] fun m o=>∃j k,m=.bool j∧o.heap[b]? =some (.cells (lk k n (!j)) 42 (0,0))∧
   (j=true→d=false∧k=c+1∧k≤400∧n≤2000∧g≤60)):=by
 refine(zu b c n g d f p).mono fun e o h=>hH.imp (fun m t u r=>?_) h
 obtain⟨rfl,h2⟩:=r
 refine⟨_,_,rfl,by simpa using h2,fun l=>?_⟩
 cases d with
 |true=>simp at l
 |false=>
  obtain⟨h1,h2,v,w⟩:=q rfl
  rw[HM Ac Ac]at l⊢
  simp at l
  exact⟨rfl,rfl,Ac,Ac,Ac⟩
theorem Hk(c:Nat)(g n:Int)(j:Bool)(s:ByteArray)(d:World)(b:d.heap[c]? =some (.cells (lk g n j) 42 (0,0)))(h2:2≤c)(hs:s.size≤140737488351232)(l:ij d):
  Calls Tryz.prog 29 #[Pt c,.string s] d (hH d [c] fun o m=>
   m.heap[c]? =some (.cells (lk g (IntKind.i64.wrap (n+s.size)) (j|| !(decide (IntKind.i64.wrap (n+s.size)≤2000)&&Lib.validD s.data.toList))) 42 (0,0))):=by
 refine cY Tryz.func29 fun k=>ac 5<|lD b rfl rfl<|au 2<|DL.y rfl rfl (Y.add rfl rfl)<|au 2<|sc b rfl rfl rfl rfl fun p q r b=>au 6<|lD b rfl rfl<|jM rfl rfl (fun f=>?_) (fun f=>?_)
 ·refine au 2<|cX (x2 s _ Ac l.g) ?_
  rintro _ t u v rfl
  refine au 1<|cX (lI c _ _ _ _ _ (Gb b)) fun _ w y z b=>au 1<|hD.nf (hH.mk k.g ?_)
  simp only[Th f]
  exact b
 refine au 4<|cX (lI c _ _ _ _ _ b) fun _ A B C b=>au 1<|hD.nf (hH.mk k.g ?_)
 simp only[Ti f]
 exact b
theorem qk(b:Nat)(f n:Int)(c:Bool)(s:ByteArray)(d:World)(o:d.heap[b]? =some (.cells (lk f n c) 42 (0,0)))(h2:2≤b)(hs:s.size≤140737488351232)(p:ij d)(q:c=false→0≤n∧n≤2000):
  Calls Tryz.prog 29 #[Pt b,.string s] d (hH d [b] fun r k=>∃g l,k.heap[b]? =some (.cells (lk f g l) 42 (0,0))∧
   (l=false→c=false∧g=n+s.size∧g≤2000∧Lib.validD s.data.toList=true)):=by
 refine(Hk b f n c s d o h2 hs p).mono fun e k h=>hH.imp (fun r w y t=>?_) h
 refine⟨_,_,t,fun j=>?_⟩
 cases c with
 |true=>simp at j
 |false=>
  obtain⟨h1,h2⟩:=q rfl
  simp only[Bool.false_or,VA,Tx,TA]at j
  obtain⟨m,u⟩:=j
  have v:IntKind.i64.wrap (n+s.size)=n+s.size:=HM Ac Ac
  rw[v]at m⊢
  exact⟨rfl,rfl,m,u⟩
def n1(kind half:Int)(text:ByteArray)(ll kl vl:Nat):Bool:=decide (0≤kind)&&decide (kind≤6)&&(decide (kind=3)||decide (half=0))&&(decide (kind=4)||decide (text=⟨#[]⟩))&&(decide (kind=5)||decide ((ll:Int)=0))&&(decide (kind=6)||decide ((kl:Int)=0))&&decide ((kl:Int)=(vl:Int))
def n2(half:Int):Bool:=decide (-18014398509481984≤half)&&decide (half≤18014398509481984)&&(decide (half.tmod 2=0)||(decide (-9007199254740992<half)&&decide (half<9007199254740992)))
theorem xR(h:n1 j iA t k m nA):
  (0≤j∧j≤6)∧(j=3∨iA=0)∧(j=4∨t=⟨#[]⟩)∧(j=5∨k=0)∧(j=6∨m=0)∧m=nA:=by
 simp only[n1,Tx,TO,TA]at h
 obtain⟨⟨⟨⟨⟨⟨h1,h2⟩,b⟩,c⟩,d⟩,f⟩,g⟩:=h
 exact⟨⟨h1,h2⟩,b,c,Ac,Ac,Ac⟩
theorem GF(h:n2 j):(-18014398509481984≤j∧j≤18014398509481984)∧(j.tmod 2=0∨(-9007199254740992<j∧j<9007199254740992)):=by
 simp only[n2,Tx,TO,TA]at h
 exact h
def wG(m:Nat):Prop:=∀(v:V)(cs:Array Value)(b B:Nat)(p n d:Int)(bad:Bool)(w:World),v.nodes≤m→RV w B v cs→B≤b→2≤B→ij w→
 w.heap[b]? =some (.cells (lk p n bad) 42 (0,0))→(bad=false→0≤p∧p≤400∧0≤n∧n≤2000)→0≤d→d≤1000→
 Calls Tryz.prog 54 #[Pt b,.agg cs,.int .i64 d] w (hH w [b] fun _ w'=>∃p' n' bad',w'.heap[b]? =some (.cells (lk p' n' bad') 42 (0,0))∧
  (bad'=false→bad=false∧Good v∧p'=p+v.nodes∧n'=n+v.bytes∧p'≤400∧n'≤2000))
set_option maxHeartbeats 1000000 in
theorem vY(a1:Nat)(bc:wG a1):wG (a1+1):=by
 intro bv ck E bd be n bw bf cl bg y bh h2 z q hx cm cn
 obtain⟨bx,bi,aj,C,B,P⟩:=bv
 obtain⟨co,cp,cq,cr,cs,ct,rfl⟩:=y.shape
 obtain⟨bz,cu,cv,cw,cx,cy⟩:=y.bounds
 have cz:=hC q
 refine cY Tryz.func54 fun G=>ac 2<|bX rfl fun c0 c1 a2 c2 c3 b=>have q:=a2.il q;au 6<|cX (uR E _ _ _ _ _ q hx) ?_
 rintro _ b0 a3 c4 ⟨ak,bj,rfl,q,aF⟩
 have G:=(G.jP a2.f).tr a3.f
 have y:=(y.fr a2.f AO).fr a3.f AO
 have z:=(z.fr a2.f AO).fr a3.f AO
 have b:=a3.jK b Ac
 refine au 2<|DC.cond rfl (fun aG=>?_) (fun aG=>?_)
 ·have aH:ak=false:=by simpa using aG
  subst aH
  exact ac 1<|rY G ⟨bj,n,true,q,fun h=>by cases h⟩
 have aH:ak=true:=by simpa using aG
 subst aH
 have c5:bw≤60:=(aF rfl).2.2.2.2
 obtain⟨al,g⟩:∃am,am=n1 bx bi aj C.length B.length P.length:=⟨_,rfl⟩
 obtain⟨an,R⟩:∃am,am=n2 bi:=⟨_,rfl⟩
 refine ac 4<|DL.cut 59 [(13,71)] 71 (.bool al) (fun H=>H=b0) rfl ?_ ?_
 ·refine au 1<|lD b rfl rfl<|jH rfl rfl (fun k=>?_) (fun k=>?_)
  ·refine au 2<|lD b rfl rfl<|jM rfl rfl (fun l=>?_) (fun l=>?_)
   ·refine au 3<|lD b rfl rfl<|jE rfl rfl (fun o=>?_) (fun o=>?_)
    ·refine au 8<|lD b rfl rfl<|jE rfl rfl (fun m=>?_) (fun m=>?_)
     ·refine au 8<|lD b rfl rfl<|jE rfl rfl (fun j=>?_) (fun j=>?_)
      ·refine au 9<|lD b rfl rfl<|jE rfl rfl (fun f=>?_) (fun f=>?_)
       ·refine au 9<|lD b rfl rfl<|au 2<|lD b rfl rfl<|au 1<|jE rfl rfl (fun d=>?_) (fun d=>?_)
        ·exact au 1<|DL.nil ⟨by(show Value.bool _=Value.bool _;rw[g];simp only[n1,Th k,Th l,Th o,Th m,Th j,Th f,Th d];first|done|rfl),rfl⟩
        exact au 1<|DL.nil ⟨by(show Value.bool _=Value.bool _;rw[g];simp only[n1,Th k,Th l,Th o,Th m,Th j,Th f,Ti d];first|done|rfl),rfl⟩
       refine au 2<|lD b rfl rfl<|au 1<|jE rfl rfl (fun p=>?_) (fun p=>?_)
       ·refine au 4<|lD b rfl rfl<|au 2<|lD b rfl rfl<|au 1<|jE rfl rfl (fun d=>?_) (fun d=>?_)
        ·exact au 1<|DL.nil ⟨by(show Value.bool _=Value.bool _;rw[g];simp only[n1,Th k,Th l,Th o,Th m,Th j,Ti f,Th p,Th d];first|done|rfl),rfl⟩
        exact au 1<|DL.nil ⟨by(show Value.bool _=Value.bool _;rw[g];simp only[n1,Th k,Th l,Th o,Th m,Th j,Ti f,Th p,Ti d];first|done|rfl),rfl⟩
       exact au 11<|DL.nil ⟨by(show Value.bool _=Value.bool _;rw[g];simp only[n1,Th k,Th l,Th o,Th m,Th j,Ti f,Ti p];first|done|rfl),rfl⟩
      refine au 2<|lD b rfl rfl<|au 1<|jE rfl rfl (fun r=>?_) (fun r=>?_)
      ·refine au 4<|lD b rfl rfl<|jE rfl rfl (fun f=>?_) (fun f=>?_)
       ·refine au 9<|lD b rfl rfl<|au 2<|lD b rfl rfl<|au 1<|jE rfl rfl (fun d=>?_) (fun d=>?_)
        ·exact au 1<|DL.nil ⟨by(show Value.bool _=Value.bool _;rw[g];simp only[n1,Th k,Th l,Th o,Th m,Ti j,Th r,Th f,Th d];first|done|rfl),rfl⟩
        exact au 1<|DL.nil ⟨by(show Value.bool _=Value.bool _;rw[g];simp only[n1,Th k,Th l,Th o,Th m,Ti j,Th r,Th f,Ti d];first|done|rfl),rfl⟩
       refine au 2<|lD b rfl rfl<|au 1<|jE rfl rfl (fun p=>?_) (fun p=>?_)
       ·refine au 4<|lD b rfl rfl<|au 2<|lD b rfl rfl<|au 1<|jE rfl rfl (fun d=>?_) (fun d=>?_)
        ·exact au 1<|DL.nil ⟨by(show Value.bool _=Value.bool _;rw[g];simp only[n1,Th k,Th l,Th o,Th m,Ti j,Th r,Ti f,Th p,Th d];first|done|rfl),rfl⟩
        exact au 1<|DL.nil ⟨by(show Value.bool _=Value.bool _;rw[g];simp only[n1,Th k,Th l,Th o,Th m,Ti j,Th r,Ti f,Th p,Ti d];first|done|rfl),rfl⟩
       exact au 11<|DL.nil ⟨by(show Value.bool _=Value.bool _;rw[g];simp only[n1,Th k,Th l,Th o,Th m,Ti j,Th r,Ti f,Ti p];first|done|rfl),rfl⟩
      exact au 22<|DL.nil ⟨by(show Value.bool _=Value.bool _;rw[g];simp only[n1,Th k,Th l,Th o,Th m,Ti j,Ti r];first|done|rfl),rfl⟩
     refine au 2<|lD b rfl rfl<|jS rfl rfl (fun u=>?_) (fun u=>?_)
     ·refine au 4<|lD b rfl rfl<|jE rfl rfl (fun j=>?_) (fun j=>?_)
      ·refine au 9<|lD b rfl rfl<|jE rfl rfl (fun f=>?_) (fun f=>?_)
       ·refine au 9<|lD b rfl rfl<|au 2<|lD b rfl rfl<|au 1<|jE rfl rfl (fun d=>?_) (fun d=>?_)
        ·exact au 1<|DL.nil ⟨by(show Value.bool _=Value.bool _;rw[g];simp only[n1,Th k,Th l,Th o,Ti m,Th u,Th j,Th f,Th d];first|done|rfl),rfl⟩
        exact au 1<|DL.nil ⟨by(show Value.bool _=Value.bool _;rw[g];simp only[n1,Th k,Th l,Th o,Ti m,Th u,Th j,Th f,Ti d];first|done|rfl),rfl⟩
       refine au 2<|lD b rfl rfl<|au 1<|jE rfl rfl (fun p=>?_) (fun p=>?_)
       ·refine au 4<|lD b rfl rfl<|au 2<|lD b rfl rfl<|au 1<|jE rfl rfl (fun d=>?_) (fun d=>?_)
        ·exact au 1<|DL.nil ⟨by(show Value.bool _=Value.bool _;rw[g];simp only[n1,Th k,Th l,Th o,Ti m,Th u,Th j,Ti f,Th p,Th d];first|done|rfl),rfl⟩
        exact au 1<|DL.nil ⟨by(show Value.bool _=Value.bool _;rw[g];simp only[n1,Th k,Th l,Th o,Ti m,Th u,Th j,Ti f,Th p,Ti d];first|done|rfl),rfl⟩
       exact au 11<|DL.nil ⟨by(show Value.bool _=Value.bool _;rw[g];simp only[n1,Th k,Th l,Th o,Ti m,Th u,Th j,Ti f,Ti p];first|done|rfl),rfl⟩
      refine au 2<|lD b rfl rfl<|au 1<|jE rfl rfl (fun r=>?_) (fun r=>?_)
      ·refine au 4<|lD b rfl rfl<|jE rfl rfl (fun f=>?_) (fun f=>?_)
       ·refine au 9<|lD b rfl rfl<|au 2<|lD b rfl rfl<|au 1<|jE rfl rfl (fun d=>?_) (fun d=>?_)
        ·exact au 1<|DL.nil ⟨by(show Value.bool _=Value.bool _;rw[g];simp only[n1,Th k,Th l,Th o,Ti m,Th u,Ti j,Th r,Th f,Th d];first|done|rfl),rfl⟩
        exact au 1<|DL.nil ⟨by(show Value.bool _=Value.bool _;rw[g];simp only[n1,Th k,Th l,Th o,Ti m,Th u,Ti j,Th r,Th f,Ti d];first|done|rfl),rfl⟩
       refine au 2<|lD b rfl rfl<|au 1<|jE rfl rfl (fun p=>?_) (fun p=>?_)
       ·refine au 4<|lD b rfl rfl<|au 2<|lD b rfl rfl<|au 1<|jE rfl rfl (fun d=>?_) (fun d=>?_)
        ·exact au 1<|DL.nil ⟨by(show Value.bool _=Value.bool _;rw[g];simp only[n1,Th k,Th l,Th o,Ti m,Th u,Ti j,Th r,Ti f,Th p,Th d];first|done|rfl),rfl⟩
        exact au 1<|DL.nil ⟨by(show Value.bool _=Value.bool _;rw[g];simp only[n1,Th k,Th l,Th o,Ti m,Th u,Ti j,Th r,Ti f,Th p,Ti d];first|done|rfl),rfl⟩
       exact au 11<|DL.nil ⟨by(show Value.bool _=Value.bool _;rw[g];simp only[n1,Th k,Th l,Th o,Ti m,Th u,Ti j,Th r,Ti f,Ti p];first|done|rfl),rfl⟩
      exact au 22<|DL.nil ⟨by(show Value.bool _=Value.bool _;rw[g];simp only[n1,Th k,Th l,Th o,Ti m,Th u,Ti j,Ti r];first|done|rfl),rfl⟩
     exact au 33<|DL.nil ⟨by(show Value.bool _=Value.bool _;rw[g];simp only[n1,Th k,Th l,Th o,Ti m,Ti u];first|done|rfl),rfl⟩
    refine au 2<|lD b rfl rfl<|jE rfl rfl (fun v=>?_) (fun v=>?_)
    ·refine au 4<|lD b rfl rfl<|jE rfl rfl (fun m=>?_) (fun m=>?_)
     ·refine au 8<|lD b rfl rfl<|jE rfl rfl (fun j=>?_) (fun j=>?_)
      ·refine au 9<|lD b rfl rfl<|jE rfl rfl (fun f=>?_) (fun f=>?_)
       ·refine au 9<|lD b rfl rfl<|au 2<|lD b rfl rfl<|au 1<|jE rfl rfl (fun d=>?_) (fun d=>?_)
        ·exact au 1<|DL.nil ⟨by(show Value.bool _=Value.bool _;rw[g];simp only[n1,Th k,Th l,Ti o,Th v,Th m,Th j,Th f,Th d];first|done|rfl),rfl⟩
        exact au 1<|DL.nil ⟨by(show Value.bool _=Value.bool _;rw[g];simp only[n1,Th k,Th l,Ti o,Th v,Th m,Th j,Th f,Ti d];first|done|rfl),rfl⟩
       refine au 2<|lD b rfl rfl<|au 1<|jE rfl rfl (fun p=>?_) (fun p=>?_)
       ·refine au 4<|lD b rfl rfl<|au 2<|lD b rfl rfl<|au 1<|jE rfl rfl (fun d=>?_) (fun d=>?_)
        ·exact au 1<|DL.nil ⟨by(show Value.bool _=Value.bool _;rw[g];simp only[n1,Th k,Th l,Ti o,Th v,Th m,Th j,Ti f,Th p,Th d];first|done|rfl),rfl⟩
        exact au 1<|DL.nil ⟨by(show Value.bool _=Value.bool _;rw[g];simp only[n1,Th k,Th l,Ti o,Th v,Th m,Th j,Ti f,Th p,Ti d];first|done|rfl),rfl⟩
       exact au 11<|DL.nil ⟨by(show Value.bool _=Value.bool _;rw[g];simp only[n1,Th k,Th l,Ti o,Th v,Th m,Th j,Ti f,Ti p];first|done|rfl),rfl⟩
      refine au 2<|lD b rfl rfl<|au 1<|jE rfl rfl (fun r=>?_) (fun r=>?_)
      ·refine au 4<|lD b rfl rfl<|jE rfl rfl (fun f=>?_) (fun f=>?_)
       ·refine au 9<|lD b rfl rfl<|au 2<|lD b rfl rfl<|au 1<|jE rfl rfl (fun d=>?_) (fun d=>?_)
        ·exact au 1<|DL.nil ⟨by(show Value.bool _=Value.bool _;rw[g];simp only[n1,Th k,Th l,Ti o,Th v,Th m,Ti j,Th r,Th f,Th d];first|done|rfl),rfl⟩
        exact au 1<|DL.nil ⟨by(show Value.bool _=Value.bool _;rw[g];simp only[n1,Th k,Th l,Ti o,Th v,Th m,Ti j,Th r,Th f,Ti d];first|done|rfl),rfl⟩
       refine au 2<|lD b rfl rfl<|au 1<|jE rfl rfl (fun p=>?_) (fun p=>?_)
       ·refine au 4<|lD b rfl rfl<|au 2<|lD b rfl rfl<|au 1<|jE rfl rfl (fun d=>?_) (fun d=>?_)
        ·exact au 1<|DL.nil ⟨by(show Value.bool _=Value.bool _;rw[g];simp only[n1,Th k,Th l,Ti o,Th v,Th m,Ti j,Th r,Ti f,Th p,Th d];first|done|rfl),rfl⟩
        exact au 1<|DL.nil ⟨by(show Value.bool _=Value.bool _;rw[g];simp only[n1,Th k,Th l,Ti o,Th v,Th m,Ti j,Th r,Ti f,Th p,Ti d];first|done|rfl),rfl⟩
       exact au 11<|DL.nil ⟨by(show Value.bool _=Value.bool _;rw[g];simp only[n1,Th k,Th l,Ti o,Th v,Th m,Ti j,Th r,Ti f,Ti p];first|done|rfl),rfl⟩
      exact au 22<|DL.nil ⟨by(show Value.bool _=Value.bool _;rw[g];simp only[n1,Th k,Th l,Ti o,Th v,Th m,Ti j,Ti r];first|done|rfl),rfl⟩
     refine au 2<|lD b rfl rfl<|jS rfl rfl (fun u=>?_) (fun u=>?_)
     ·refine au 4<|lD b rfl rfl<|jE rfl rfl (fun j=>?_) (fun j=>?_)
      ·refine au 9<|lD b rfl rfl<|jE rfl rfl (fun f=>?_) (fun f=>?_)
       ·refine au 9<|lD b rfl rfl<|au 2<|lD b rfl rfl<|au 1<|jE rfl rfl (fun d=>?_) (fun d=>?_)
        ·exact au 1<|DL.nil ⟨by(show Value.bool _=Value.bool _;rw[g];simp only[n1,Th k,Th l,Ti o,Th v,Ti m,Th u,Th j,Th f,Th d];first|done|rfl),rfl⟩
        exact au 1<|DL.nil ⟨by(show Value.bool _=Value.bool _;rw[g];simp only[n1,Th k,Th l,Ti o,Th v,Ti m,Th u,Th j,Th f,Ti d];first|done|rfl),rfl⟩
       refine au 2<|lD b rfl rfl<|au 1<|jE rfl rfl (fun p=>?_) (fun p=>?_)
       ·refine au 4<|lD b rfl rfl<|au 2<|lD b rfl rfl<|au 1<|jE rfl rfl (fun d=>?_) (fun d=>?_)
        ·exact au 1<|DL.nil ⟨by(show Value.bool _=Value.bool _;rw[g];simp only[n1,Th k,Th l,Ti o,Th v,Ti m,Th u,Th j,Ti f,Th p,Th d];first|done|rfl),rfl⟩
        exact au 1<|DL.nil ⟨by(show Value.bool _=Value.bool _;rw[g];simp only[n1,Th k,Th l,Ti o,Th v,Ti m,Th u,Th j,Ti f,Th p,Ti d];first|done|rfl),rfl⟩
       exact au 11<|DL.nil ⟨by(show Value.bool _=Value.bool _;rw[g];simp only[n1,Th k,Th l,Ti o,Th v,Ti m,Th u,Th j,Ti f,Ti p];first|done|rfl),rfl⟩
      refine au 2<|lD b rfl rfl<|au 1<|jE rfl rfl (fun r=>?_) (fun r=>?_)
      ·refine au 4<|lD b rfl rfl<|jE rfl rfl (fun f=>?_) (fun f=>?_)
       ·refine au 9<|lD b rfl rfl<|au 2<|lD b rfl rfl<|au 1<|jE rfl rfl (fun d=>?_) (fun d=>?_)
        ·exact au 1<|DL.nil ⟨by(show Value.bool _=Value.bool _;rw[g];simp only[n1,Th k,Th l,Ti o,Th v,Ti m,Th u,Ti j,Th r,Th f,Th d];first|done|rfl),rfl⟩
        exact au 1<|DL.nil ⟨by(show Value.bool _=Value.bool _;rw[g];simp only[n1,Th k,Th l,Ti o,Th v,Ti m,Th u,Ti j,Th r,Th f,Ti d];first|done|rfl),rfl⟩
       refine au 2<|lD b rfl rfl<|au 1<|jE rfl rfl (fun p=>?_) (fun p=>?_)
       ·refine au 4<|lD b rfl rfl<|au 2<|lD b rfl rfl<|au 1<|jE rfl rfl (fun d=>?_) (fun d=>?_)
        ·exact au 1<|DL.nil ⟨by(show Value.bool _=Value.bool _;rw[g];simp only[n1,Th k,Th l,Ti o,Th v,Ti m,Th u,Ti j,Th r,Ti f,Th p,Th d];first|done|rfl),rfl⟩
        exact au 1<|DL.nil ⟨by(show Value.bool _=Value.bool _;rw[g];simp only[n1,Th k,Th l,Ti o,Th v,Ti m,Th u,Ti j,Th r,Ti f,Th p,Ti d];first|done|rfl),rfl⟩
       exact au 11<|DL.nil ⟨by(show Value.bool _=Value.bool _;rw[g];simp only[n1,Th k,Th l,Ti o,Th v,Ti m,Th u,Ti j,Th r,Ti f,Ti p];first|done|rfl),rfl⟩
      exact au 22<|DL.nil ⟨by(show Value.bool _=Value.bool _;rw[g];simp only[n1,Th k,Th l,Ti o,Th v,Ti m,Th u,Ti j,Ti r];first|done|rfl),rfl⟩
     exact au 33<|DL.nil ⟨by(show Value.bool _=Value.bool _;rw[g];simp only[n1,Th k,Th l,Ti o,Th v,Ti m,Ti u];first|done|rfl),rfl⟩
    exact au 40<|au 3<|DL.nil ⟨by(show Value.bool _=Value.bool _;rw[g];simp only[n1,Th k,Th l,Ti o,Ti v];first|done|rfl),rfl⟩
   exact au 40<|au 12<|DL.nil ⟨by(show Value.bool _=Value.bool _;rw[g];simp only[n1,Th k,Ti l];first|done|rfl),rfl⟩
  exact au 40<|au 16<|DL.nil ⟨by(show Value.bool _=Value.bool _;rw[g];simp only[n1,Ti k];first|done|rfl),rfl⟩
 rintro ad _ S;obtain rfl:=S.symm
 refine cX (lI E _ _ _ _ _ q) fun _ b1 a4 c6 q=>have G:=G.tr a4.f;have y:=y.fr a4.f AO;have z:=z.fr a4.f AO;have b:=a4.jK b Ac;au 4<|DL.cut 24 [(74,97)] 97 (.bool an) (fun H=>H=b1) rfl ?_ ?_
 ·refine au 1<|lD b rfl rfl<|jH rfl rfl (fun T=>?_) (fun T=>?_)
  ·refine au 2<|lD b rfl rfl<|jM rfl rfl (fun ae=>?_) (fun ae=>?_)
   ·refine au 3<|lD b rfl rfl<|DL.y rfl rfl (Y.rem rfl rfl Ah)<|jE rfl rfl (fun ao=>?_) (fun ao=>?_)
    ·exact au 11<|DL.nil ⟨by(show Value.bool _=Value.bool _;rw[R];simp only[n2,Th T,Th ae,Th ao];first|done|rfl),rfl⟩
    refine au 2<|lD b rfl rfl<|jG rfl rfl (fun a5=>?_) (fun a5=>?_)
    ·refine au 2<|lD b rfl rfl<|jX rfl rfl (fun aI=>?_) (fun aI=>?_)
     ·exact au 3<|DL.nil ⟨by(show Value.bool _=Value.bool _;rw[R];simp only[n2,Th T,Th ae,Ti ao,Th a5,Th aI];first|done|rfl),rfl⟩
     exact au 3<|DL.nil ⟨by(show Value.bool _=Value.bool _;rw[R];simp only[n2,Th T,Th ae,Ti ao,Th a5,Ti aI];first|done|rfl),rfl⟩
    exact au 7<|DL.nil ⟨by(show Value.bool _=Value.bool _;rw[R];simp only[n2,Th T,Th ae,Ti ao,Ti a5];first|done|rfl),rfl⟩
   exact au 17<|DL.nil ⟨by(show Value.bool _=Value.bool _;rw[R];simp only[n2,Th T,Ti ae];first|done|rfl),rfl⟩
  exact au 21<|DL.nil ⟨by(show Value.bool _=Value.bool _;rw[R];simp only[n2,Ti T];first|done|rfl),rfl⟩
 rintro ad _ S;obtain rfl:=S.symm
 refine cX (lI E _ _ _ _ _ q) fun _ c7 a6 c8 q=>have z:=z.fr a6.f AO;have b:=a6.jK b Ac;au 5<|lD b rfl rfl ?_
 have b2:((!al)||(!an))=false→0≤n∧n≤2000:=by
  obtain⟨w,U,I,J,K⟩:=aF rfl
  obtain⟨L,M,W,a7⟩:=hx w
  intro _;exact⟨W,a7⟩
 refine cX (qk E _ _ _ _ _ q Ac bz z b2) fun _ b3 a8 c9 ⟨b4,b5,q,b6⟩=>have G:=(G.tr a6.f).tr a8.f;have y:=(y.fr a6.f AO).fr a8.f AO;have z:=z.fr a8.f AO;have b:=a8.jK b Ac;au 7<|DC.loop (σ:=Nat×Int×Int×Bool) [(6,6),(103,125)] (fun(t,_,_,_)=>[(6,.int .i64 (t:Int))]) (fun aJ ap=>Fr [E] b3 ap∧(fun(t,X,Z,aq) H=>t≤C.length∧H.heap[E]? =some (.cells (lk X Z aq) 42 (0,0))∧(aq=false→((al=true∧an=true∧Lib.validD aj.data.toList=true)∧bf=false)∧(∀i (h:i<C.length),i<t→Good C[i])∧X=be+1+V.iy (C.take t)∧Z=n+aj.size+V.lg (C.take t)∧X≤400∧Z≤2000)) aJ ap) (fun(t,_,_,_)=>C.length - t) ((0,bj,b4,b5)) rfl ?_ ?_ ?_
 ·exact rfl
 ·exact⟨Fr.refl _ _,TE _,q,fun h=>by obtain⟨Q,a9,ar,av⟩:=b6 h;have bk:al=true∧an=true:=(by simpa using Q);obtain⟨w,U,I,J,K⟩:=aF rfl;exact⟨⟨⟨bk.1,bk.2,av⟩,w⟩,fun i h hi=>by omega,by simp[V.iy];omega,by simp[V.lg];omega,Ac,ar⟩⟩
 rintro⟨t,aK,aL,aA⟩ ad aM ⟨af,cA,q,aN⟩
 have G:=G.tr af
 have cB:=af.size
 have y:=y.fr af AO
 have z:=z.fr af AO
 have b:=af.jK b Ac
 have aO:=af
 have cC:=Fr.refl [E] aM
 refine ac 3<|DL.cut 12 [(103,114)] 114 (.bool (decide ((t:Int)<(C.length:Int))&& !aA)) (fun H=>H=aM) rfl ?_ ?_
 ·refine au 2<|lD b rfl rfl<|au 1<|jX rfl rfl (fun aB=>?_) (fun aB=>?_)
  ·refine au 4<|DL.u5 rfl rfl (Y.hY F.LQ rfl q rfl) (fun aP=>?_) (fun aP=>?_)
   ·exact au 2<|DL.nil ⟨by(show Value.bool _=Value.bool _;simp only[Th aB,aP];first|done|rfl),rfl⟩
   exact au 2<|DL.nil ⟨by(show Value.bool _=Value.bool _;simp only[Th aB,aP];first|done|rfl),rfl⟩
  exact au 7<|DL.nil ⟨by(show Value.bool _=Value.bool _;simp only[Ti aB];first|done|rfl),rfl⟩
 rintro ad _ S;obtain rfl:=S.symm
 refine au 1<|DC.cond rfl (fun aQ=>?_) (fun aQ=>?_)
 ·obtain⟨hk,b7⟩:t<C.length∧aA=false:=by simpa using aQ
  subst b7
  refine ac 6<|lD b rfl rfl<|au 1 ?_
  obtain⟨cD,cE,cF,rfl,cG,b8,b9,bA⟩:=y.elem hk
  have bB:C[t].nodes≤a1:=by have:=jo hk;simp only[V.nodes]at bg;omega
  have bC:false=false→0≤aK∧aK≤400∧0≤aL∧aL≤2000:=fun _=>by obtain⟨w,I,J,K,L,M⟩:=aN rfl;obtain⟨W,a7,bl,bm⟩:=hx w.2;omega
  refine iX F.s7 (hk) rfl rfl rfl<|lA b8 b9 rfl<|au 1<|DL.y rfl rfl (Y.mm rfl rfl (rfl) Ac Ac)<|cX (bc _ _ E bd _ _ _ _ _ bB bA bh h2 z q bC Ac Ac) fun _ cH bD cI ⟨bE,bF,bG,q,bH⟩=>have aO:=aO.tr bD.f;au 3<|ai ((t+1:Nat):Int) rfl rfl<|au 2 ?_
  refine⟨(t+1,bE,bF,bG),⟨aO,hk,q,fun h=>?_⟩,by show C.length - (t+1)<C.length - t;omega,rfl⟩
  obtain⟨Q,a9,ar,av,aR,aS⟩:=bH h
  obtain⟨w,I,J,K,L,M⟩:=aN Q
  refine⟨w,fun i hi aT=>?_,?_,?_,aR,aS⟩
  ·by_cases aa:i=t
   ·subst aa;exact a9
   exact I i hi Ac
  ·rw[pP hk,ar,J];push_cast;omega
  rw[pR hk,av,K];push_cast;omega
 refine ac 1<|ac 5 ?_
 have bI:aA=false→t=C.length:=by
  intro h;subst h;simp at aQ;omega
 refine DC.loop (σ:=Nat×Int×Int×Bool) [(7,7),(126,173)] (fun(t,_,_,_)=>[(7,.int .i64 (t:Int))]) (fun aJ ap=>Fr [E] aM ap∧(fun(t,X,Z,aq) H=>t≤B.length∧H.heap[E]? =some (.cells (lk X Z aq) 42 (0,0))∧(aq=false→(((al=true∧an=true∧Lib.validD aj.data.toList=true)∧bf=false)∧(∀i (h:i<C.length),Good C[i]))∧(∀i (h:i<B.length),i<t→Lib.validD B[i].data.toList=true)∧(∀i (h:i+1<B.length),i+1<t→Op.bytesLess B[i].toList B[i+1].toList=true)∧(∀i (h:i<P.length),i<t→Good P[i])∧X=be+1+V.iy C+V.iy (P.take t)∧Z=n+aj.size+V.lg C+oo (B.take t)+V.lg (P.take t)∧X≤400∧Z≤2000)) aJ ap) (fun(t,_,_,_)=>B.length - t) ((0,aK,aL,aA)) rfl ?_ ?_ ?_
 ·exact rfl
 ·exact⟨Fr.refl _ _,TE _,q,fun h=>by obtain⟨w,I,J,K,L,M⟩:=aN h;have e:=bI h;subst e;simp only[U6]at J K;exact⟨⟨w,fun i hi=>I i hi hi⟩,fun i h hi=>by omega,fun i h hi=>by omega,fun i h hi=>by omega,by simp[V.iy];omega,by simp[V.lg,oo];omega,L,M⟩⟩
 rintro⟨A,aU,aV,aW⟩ ad bn ⟨ag,cJ,q,aw⟩
 have G:=G.tr ag
 have cK:=ag.size
 have y:=y.fr ag AO
 have z:=z.fr ag AO
 have b:=ag.jK b Ac
 have ax:=ag
 have bo:=Fr.refl [E] bn
 refine ac 3<|DL.cut 12 [(126,137)] 137 (.bool (decide ((A:Int)<(B.length:Int))&& !aW)) (fun H=>H=bn) rfl ?_ ?_
 ·refine au 2<|lD b rfl rfl<|au 1<|jX rfl rfl (fun aC=>?_) (fun aC=>?_)
  ·refine au 4<|DL.u5 rfl rfl (Y.hY F.LQ rfl q rfl) (fun aX=>?_) (fun aX=>?_)
   ·exact au 2<|DL.nil ⟨by(show Value.bool _=Value.bool _;simp only[Th aC,aX];first|done|rfl),rfl⟩
   exact au 2<|DL.nil ⟨by(show Value.bool _=Value.bool _;simp only[Th aC,aX];first|done|rfl),rfl⟩
  exact au 7<|DL.nil ⟨by(show Value.bool _=Value.bool _;simp only[Ti aC];first|done|rfl),rfl⟩
 rintro ad _ S;obtain rfl:=S.symm
 refine au 1<|DC.cond rfl (fun aY=>?_) (fun aY=>?_)
 ·obtain⟨ah,bJ⟩:A<B.length∧aW=false:=by simpa using aY
  subst bJ
  refine ac 7<|lD b rfl rfl<|au 1 ?_
  obtain⟨cL,cM,rfl,hbs,hkc,bK⟩:=y.z1 ah
  have bL:false=false→0≤aV∧aV≤2000:=fun _=>by obtain⟨w,U,I,J,K,L,M,W⟩:=aw rfl;obtain⟨a7,bl,bm,bM⟩:=hx w.1.2;omega
  refine iX F.ku (ah) rfl rfl rfl<|lC hkc rfl<|cX (qk E _ _ _ _ _ q Ac bK z bL) fun _ cN ab cO ⟨bp,bN,q,bq⟩=>have y:=y.fr ab.f AO;have z:=z.fr ab.f AO;au 2<|DC.tail 17 F.mixed Au fun bO O cP=>have G:=(G.tr ab.f).jP O;have ax:=(ax.tr ab.f).jP O;have bo:=(bo.tr ab.f).jP O;have cQ:=O.size;have y:=y.fr O AO;have z:=z.fr O AO;have b:=O.il (ab.jK b Ac);have hkc:=O.cell (ab.cell hkc (by simp<;>omega)) (by simp<;>omega);have q:=O.il q;D.DS.y rfl rfl (Y.move) ?_
  have aZ:A - 1<B.length:=by omega
  obtain⟨br,ay⟩:∃am,am=(decide ((A:Int)=0)||Op.bytesLess (B[A - 1]'aZ).toList (B[A]'ah).toList):=⟨_,rfl⟩
  refine D.DS.cut 16 [(148,163)] 163 (.bool br) (fun H=>H=bO) rfl ?_ ?_
  ·refine D.DS.y rfl rfl (Y.move)<|D.DS.if rfl rfl (Y.eq rfl rfl) (fun aD=>?_) (fun aD=>?_)
   ·exact D.DS.y rfl rfl (Y.move)<|D.DS.skip rfl rfl<|D.DS.skip rfl rfl<|D.DS.skip rfl rfl<|D.DS.skip rfl rfl<|D.DS.skip rfl rfl<|D.DS.skip rfl rfl<|D.DS.skip rfl rfl<|D.DS.skip rfl rfl<|D.DS.skip rfl rfl<|D.DS.skip rfl rfl<|D.DS.skip rfl rfl<|D.DS.skip rfl rfl<|D.DS.y rfl rfl (Y.w6 rfl)<|D.DS.nil ⟨by(show Value.bool _=Value.bool _;rw[ay];simp only[Th aD];first|done|rfl),trivial⟩
   refine D.DS.y rfl rfl (Y.move)<|D.DS.y rfl rfl (Y.field F.Dk rfl)<|D.DS.y rfl rfl (Y.hY F.yb rfl b rfl)<|D.DS.y rfl rfl (Y.move)<|D.DS.y rfl rfl (Y.n8 (c:=(A:Int) - 1) rfl rfl Ac Ac Ac) ?_
   have cR:(A:Int) - 1=((A - 1:Nat):Int):=by omega
   obtain⟨cS,cT,bs,_,bP,_⟩:=y.z1 aZ
   simp only[UD,Addr.mk.injEq,and_true]at bs
   obtain⟨rfl,rfl⟩:=bs
   refine D.DS.y rfl rfl (Y.index F.ku rfl rfl (Ac) (aZ))<|D.DS.y rfl rfl (Y.load F.oq rfl bP)<|D.DS.y rfl rfl (Y.field F.Dk rfl)<|D.DS.y rfl rfl (Y.hY F.yb rfl b rfl)<|D.DS.y rfl rfl (Y.move)<|D.DS.y rfl rfl (Y.index F.ku rfl rfl (rfl) (ah))<|D.DS.y rfl rfl (Y.load F.oq rfl hkc)<|D.DS.u5 rfl rfl (Y.slt rfl rfl) (fun ba=>?_) (fun ba=>?_)
   ·exact D.DS.y rfl rfl (Y.r9 rfl)<|D.DS.nil ⟨by(show Value.bool _=Value.bool _;rw[ay];simp only[Ti aD,ba];first|done|rfl),trivial⟩
   exact D.DS.y rfl rfl (Y.r9 rfl)<|D.DS.nil ⟨by(show Value.bool _=Value.bool _;rw[ay];simp only[Ti aD,ba];first|done|rfl),trivial⟩
  intro ad
  refine D.DS.nil ?_
  show DL _ _ _ _ _ _ _
  refine cX (lI E _ _ _ _ _ q) fun _ cU aE cV q=>have y:=y.fr aE.f AO;have z:=z.fr aE.f AO;have b:=aE.jK b Ac;au 4<|lD b rfl rfl<|au 1 ?_
  have cW:B.length=P.length:=by obtain⟨w,_⟩:=aw rfl;exact(xR (g.symm.trans w.1.1.1)).2.2.2.2.2
  have az:A<P.length:=by omega
  obtain⟨cZ,da,db,rfl,dc,bQ,bR,bS⟩:=y.Ia az
  have bT:P[A].nodes≤a1:=by have:=jo az;simp only[V.nodes]at bg;omega
  have bU:(bN|| !br)=false→0≤aU∧aU≤400∧0≤bp∧bp≤2000:=fun h=>by simp only[Uq,VA]at h;obtain⟨h1,h2⟩:=h;obtain⟨ak,bt,bV,bu⟩:=bq h1;obtain⟨w,U,I,J,K,L,M,W⟩:=aw rfl;obtain⟨a7,bl,bm,bM⟩:=hx w.1.2;omega
  refine iX F.s7 (az) rfl rfl rfl<|lA bQ bR rfl<|au 1<|DL.y rfl rfl (Y.mm rfl rfl (rfl) Ac Ac)<|cX (bc _ _ E bd _ _ _ _ _ bT bS bh h2 z q bU Ac Ac) fun _ dd bW de ⟨bY,bZ,ca,q,cb⟩=>have ax:=(ax.tr aE.f).tr bW.f;au 3<|ai ((A+1:Nat):Int) rfl rfl<|au 2 ?_
  refine⟨(A+1,bY,bZ,ca),⟨ax,ah,q,fun h=>?_⟩,by show B.length - (A+1)<B.length - A;omega,rfl⟩
  obtain⟨Q,a9,ar,av,aR,aS⟩:=cb h
  simp only[Uq,VA]at Q
  obtain⟨Q,cc⟩:=Q
  obtain⟨ak,bt,bV,bu⟩:=bq Q
  obtain⟨w,U,I,J,K,L,M,W⟩:=aw ak
  refine⟨w,fun i hi aT=>?_,fun i hi aT=>?_,fun i hi aT=>?_,?_,?_,aR,aS⟩
  ·by_cases aa:i=A
   ·subst aa;exact bu
   exact U i hi Ac
  ·by_cases aa:i+1=A
   ·subst aa
    rw[cc]at ay
    have a0:=ay.symm
    simp only[TO,TA]at a0
    rcases a0 with a0|a0
    ·omega
    simpa using a0
   exact I i hi Ac
  ·by_cases aa:i=A
   ·subst aa;exact a9
   exact J i hi Ac
  ·rw[pP az,ar,K];push_cast;omega
  rw[pR az,uq ah,av,bt,L];push_cast;omega
 refine ac 1<|hD.nf (hH.mk G ⟨aU,aV,aW,q,fun h=>?_⟩)
 obtain⟨w,U,I,J,K,L,M,W⟩:=aw h
 have e:A=B.length:=by subst h;simp at aY;omega
 subst e
 obtain⟨cd,ce,cf,cg,ch,bb⟩:=xR (g.symm.trans w.1.1.1)
 obtain⟨ci,cj⟩:=GF (R.symm.trans w.1.1.2.1)
 rw[bb,U6]at K
 rw[U6,bb,U6]at L
 exact⟨w.1.2,.mk ⟨cd,ce,cf,cg,ch,bb,ci,cj,w.1.1.2.2,fun i hi=>U i hi hi,fun i hi=>I i hi hi⟩ w.2 (fun i hi=>J i hi Ac),by simp only[V.nodes];push_cast;omega,by simp only[V.bytes];push_cast;omega,M,W⟩
theorem rV:∀b,wG b
 |0=>fun c d f g j n k l m o=>by have:=kh c;omega
 |b+1=>vY b (rV b)
end Go.Proofs.YtlojelcoibpphaaGreatDoor
namespace Go.Proofs.YtlojelcoibpphaaGreatDoor
open Go Go.RowKit D Go.Deep Go.Proofs
def Lk(w:World)(b:Nat)(bad:Bool):Prop:=∃p n,w.heap[b]? =some (.cells (lk p n bad) 42 (0,0))∧(bad=false→0≤p∧p≤400∧0≤n∧n≤2000)
section
variable{w w':World}{b:Nat}{bad:Bool}{S:List Nat}
theorem Lk.fr(h:Lk w b bad)(c:Fr S w w')(hs:b∉S):Lk w' b bad:=let⟨p,n,h1,h2⟩:=h;⟨p,n,c.hO h1 hs,h2⟩
theorem Lk.g(h:Lk w b bad)(c:Lk w b bad→Lk w' b bad:=by exact Gq):Lk w' b bad:=c h
theorem Lk.k9(h:Lk w b bad)(c:Fr [] w w'):Lk w' b bad:=h.fr c Al
theorem Lk.n6{c:Nat}(h:Lk w b bad)(d:Fr [c] w w')(f:b≠c):Lk w' b bad:=h.fr d (by simpa using f)
theorem Lk.lt(h:Lk w b bad):b<w.heap.size:=let⟨_,_,h1,_⟩:=h;hC h1
theorem hH.imp'{c d:Value→World→Prop}(h:∀f w',Fr S w w'→d f w'→c f w'){g:FuncId}{a:Array Value}(j:Calls Tryz.prog g a w (hH w S d)):Calls Tryz.prog g a w (hH w S c):=j.mono fun e w' k=>hH.imp h k
theorem ix(h:Lk w b bad)(c:Bool):Calls Tryz.prog 27 #[Pt b,.bool c] w (hH w [b] fun _ w'=>∃f,Lk w' b f∧(f=false→bad=false∧c=true)):=by
 obtain⟨g,n,h1,h2⟩:=h
 exact hH.imp' (fun k w' l j=>⟨_,⟨g,n,j,fun d=>h2 (by cases bad;rfl;cases d)⟩,fun d=>by cases bad<;>cases c<;>first|exact⟨rfl,rfl⟩|cases d⟩) (lI b g n bad c w h1)
theorem xw(h:Lk w b bad)(c:Int):Calls Tryz.prog 26 #[Pt b,.int .i64 c] w (hH w [b] fun d w'=>∃f,d=.bool f∧Lk w' b (!f)∧(f=true→bad=false∧c≤60)):=by
 obtain⟨m,n,h1,h2⟩:=h
 refine hH.imp' (fun v w' y o=>?_) (uR b m n c bad w h1 h2)
 obtain⟨d,p,rfl,q,k⟩:=o
 refine⟨d,rfl,⟨p,n,q,fun g=>?_⟩,fun g=>?_⟩
 ·obtain⟨j,r,t,u,l⟩:=k (by simpa using g)
  obtain⟨z,A,B,C⟩:=h2 j
  omega
 obtain⟨j,r,t,u,l⟩:=k g;exact⟨j,l⟩
theorem E4{s:ByteArray}(h:Lk w b bad)(c:2≤b)(hs:s.size≤140737488351232)(l:ij w):Calls Tryz.prog 29 #[Pt b,.string s] w (hH w [b] fun _ w'=>∃d,Lk w' b d∧(d=false→bad=false∧Lib.validD s.data.toList=true)):=by
 obtain⟨g,n,h1,h2⟩:=h
 refine hH.imp' (fun t w' u m=>?_) (qk b g n bad s w h1 c hs l (fun c=>(h2 c).2.2))
 obtain⟨o,d,p,j⟩:=m
 exact⟨d,⟨g,o,p,fun c=>by obtain⟨f,q,r,k⟩:=j c;obtain⟨v,y,z,A⟩:=h2 f;omega⟩,fun c=>by obtain⟨f,q,r,k⟩:=j c;exact⟨f,k⟩⟩
theorem uS{c:V}{l:Array Value}{g:Int}(h:Lk w b bad)(d:2≤b)(p:ij w)(q:RV w b c l)(h0:0≤g)(h1:g≤1000):Calls Tryz.prog 54 #[Pt b,.agg l,.int .i64 g] w (hH w [b] fun _ w'=>∃j,Lk w' b j∧(j=false→bad=false∧Good c)):=by
 obtain⟨m,n,f,k⟩:=h
 refine hH.imp' (fun c w' C r=>?_) (rV c.nodes c l b b m n g bad w (Tv _) q (Tv _) d p f k h0 h1)
 obtain⟨t,u,j,v,o⟩:=r
 exact⟨j,⟨t,u,v,fun d=>by obtain⟨f,k,y,z,A,B⟩:=o d;obtain⟨D,E,F,G⟩:= ‹bad=false→0≤m∧m≤400∧0≤n∧n≤2000› f;omega⟩,fun d=>by obtain⟨f,k,y,z,A,B⟩:=o d;exact⟨f,k⟩⟩
end
theorem j3.H6{w:World}{f:Nat→Prop}{c g:Int}{j:ByteArray}{list:List V}{keys:List ByteArray}{vals:List V}{d k l m o p:Value}(h:j3 w f (.mk c g j list keys vals) #[d,k,l,m,o,p]):d=.int .i64 c:=by cases h;rfl
inductive Can:Nat→N→Prop
 |q {op tx:ByteArray} {v:V} {ns:List ByteArray} {ks ps ds:List N} (hk:∀(i:Nat)(h:i<ks.length),Can 0 ks[i]) (hp:∀(i:Nat)(h:i<ps.length),Can 1 ps[i]) (hd:∀(i:Nat)(h:i<ds.length),Can 2 ds[i]):Can 0 (.mk op tx v ns ks ps ds)
 |p {op tx:ByteArray} {ks ps:List N} (hk:∀(i:Nat)(h:i<ks.length),Can 0 ks[i]) (hp:∀(i:Nat)(h:i<ps.length),Can 1 ps[i]):Can 1 (.mk op tx V0 [] ks ps [])
 |d {tx:ByteArray} {ns:List ByteArray} {b:N} (hb:Can 0 b):Can 2 (.mk ⟨#[]⟩ tx V0 ns [b] [] [])
def s5(s:ByteArray):Prop:=∃(m:ByteArray)(d:UInt8),ke m∧s.data.toList=m.data.toList++[47,d]
def me(w:World)(D:Nat→Prop)(m:Nat)(bad:Bool)(cs:Array Value):Prop:=∃l1 l2 l3 a1 a2 a3 c1 c2 c3,cs=#[.slice a1 (List.length l1) c1,.slice a2 (List.length l2) c2,.slice a3 (List.length l3) c3]∧hT w D a1 l1.length 1 (strCells l1)∧hT w D a2 l2.length 1 (strCells l2)∧hT w D a3 l3.length 1 (strCells l3)∧
 (l1.length≤c1∧l2.length≤c2∧l3.length≤c3)∧(l1.length≤m∧l2.length≤m∧l3.length≤m)∧(bad=false→(∀s∈l1,ke s)∧(∀s∈l2,s5 s)∧∀s∈l3,ke s)
theorem me.fr{S:List Nat}{w w':World}{c:Nat→Prop}{f:Nat}{bad:Bool}{g:Array Value}(h:me w c f bad g)(d:Fr S w w')(hs:∀b,c b→b∉S):me w' c f bad g:=
 let⟨l1,l2,l3,a1,a2,a3,c1,c2,c3,h0,h1,h2,h3,h4⟩:=h;⟨l1,l2,l3,a1,a2,a3,c1,c2,c3,h0,h1.fr d hs,h2.fr d hs,h3.fr d hs,h4⟩
theorem me.g{w w':World}{c:Nat→Prop}{d:Nat}{bad:Bool}{f:Array Value}(h:me w c d bad f)(g:me w c d bad f→me w' c d bad f:=by exact Gq):me w' c d bad f:=g h
theorem me.mono{w:World}{f D':Nat→Prop}{g j:Nat}{bad k:Bool}{l:Array Value}(h:me w f g bad l)(c:∀b,f b→D' b)(d:g≤j)(m:k=false→bad=false):me w D' j k l:=
 let⟨l1,l2,l3,a1,a2,a3,c1,c2,c3,h0,h1,h2,h3,h4,⟨h5,h6,h7⟩,h8⟩:=h;⟨l1,l2,l3,a1,a2,a3,c1,c2,c3,h0,h1.mono c,h2.mono c,h3.mono c,h4,⟨Tq h5 d,Tq h6 d,Tq h7 d⟩,fun h=>h8 (m h)⟩
theorem me.size{w:World}{d:Nat→Prop}{f:Nat}{bad:Bool}{c:Array Value}(h:me w d f bad c):c.size=3:=by obtain⟨g,j,k,l,m,o,p,q,r,rfl,_⟩:=h;rfl
theorem me.one{w:World}{d:Nat→Prop}{f:Nat}{bad:Bool}{c:Array Value}(h:me w d f bad c):c.all (·.oneCell')=true:=by obtain⟨g,j,k,l,m,o,p,q,r,rfl,_⟩:=h;simp[Value.oneCell']
theorem MG{a b:Bool}:((a==b)=true)↔(a=true↔b=true):=by cases a<;>cases b<;>simp
theorem qa{d f c:ByteArray}{n g:Nat}(h:((decide (c=d)==decide ((0:Int)<(n:Int)))&&(decide (c=f)==decide ((0:Int)<(g:Int))))):(c=d↔0<n)∧(c=f↔0<g):=by
 simp only[Tx,MG,TA]at h
 exact⟨⟨fun e=>by have:=h.1.1 e;omega,fun e=>h.1.2 Ac⟩,⟨fun e=>by have:=h.2.1 e;omega,fun e=>h.2.2 Ac⟩⟩
theorem p9{d f g c:ByteArray}{n:Nat}(h:((((decide (c=d)||decide (c=f))||decide (c=g))==decide ((0:Int)<(n:Int)))&&(decide (c=d)||decide ((n:Int)≤1))&&decide ((n:Int)≤4))):((c=d∨c=f∨c=g)↔0<n)∧(c=d∨n≤1):=by
 simp only[Tx,TO,MG,TA]at h
 refine⟨⟨fun e=>?_,fun e=>?_⟩,h.1.2.imp id (fun e=>by omega)⟩
 ·have:=h.1.1.1 (by rcases e with e|e|e;exact Ts (Ts e);exact Ts (Tk e);exact Tk e);omega
 rcases h.1.1.2 Ac with(e|e)|e;exact Ts e;exact Tk (Ts e);exact Tk (Tk e)
theorem Od{f:Type}{c:List f}(h:c.length=3):∃a b d,c=[a,b,d]:=by
 match c,h with
 |[a,b,d],_=>exact⟨a,b,d,rfl⟩
def uj:N→Prop
 | .mk op tx (.mk kind _ _ _ _ _) _ _ _ _=>(op=⟨#[118,97,108]⟩∧kind=4)∨op=⟨#[36]⟩∨(op=⟨#[116,101,120,116]⟩∧tx=⟨#[]⟩)
def B2(s:ByteArray)(n:Nat):Prop:=∃b:ByteArray,b.data.toList=Dp s n∧(s5 b∨b∈F4∨b∈Fe∨b∈L0)
def z8:List ByteArray:=[Cr,Cp,Cz,Cm,Co,CD,CC,Cx,Cw,Cu]
inductive Sp:ByteArray→ByteArray→V→List ByteArray→List N→Prop
 |val {v:V} {ns:List ByteArray} {ks:List N} (h:Good v):Sp ⟨#[118,97,108]⟩ ⟨#[]⟩ v ns ks
 |text {tx:ByteArray} {v:V} {ns:List ByteArray} {ks:List N} (h1:ns.length=ks.length+1) (h2:tx=⟨#[]⟩∨tx∈ri) (h3:∀s∈ns,Lib.validD s.data.toList=true):Sp ⟨#[116,101,120,116]⟩ tx v ns ks
 |format {tx:ByteArray} {v:V} {ns:List ByteArray} {ks:List N} (h:tx∈ri):Sp ⟨#[102,111,114,109,97,116]⟩ tx v ns ks
 |object {v:V} {ns:List ByteArray} {ks:List N} (h1:ks.length%2=0) (h2:∀(i:Nat)(h:2*i+1<ks.length),iz ks[2*i+1]≠⟨#[110,111,110,101]⟩∨uj (ks[2*i]'(TW h))):Sp ⟨#[111,98,106,101,99,116]⟩ ⟨#[]⟩ v ns ks
 |slice {v:V} {ns:List ByteArray} {k0 k1 k2:N} (h:iz k1≠⟨#[110,111,110,101]⟩∨iz k2≠⟨#[110,111,110,101]⟩):Sp ⟨#[115,108,105,99,101]⟩ ⟨#[]⟩ v ns [k0,k1,k2]
 |label {tx:ByteArray} {v:V} {ns:List ByteArray} {ks:List N} (h:ke tx):Sp ⟨#[108,97,98,101,108]⟩ tx v ns ks
 |za {tx:ByteArray} {v:V} {ns:List ByteArray} {ks:List N} (h:ke tx):Sp ⟨#[98,114,101,97,107]⟩ tx v ns ks
 |var {tx:ByteArray} {v:V} {ns:List ByteArray} {ks:List N} (h:ke tx):Sp ⟨#[36]⟩ tx v ns ks
 |call {tx:ByteArray} {v:V} {ns:List ByteArray} {ks:List N} (h:B2 tx ks.length):Sp ⟨#[99,97,108,108]⟩ tx v ns ks
 |field {tx:ByteArray} {v:V} {ns:List ByteArray} {ks:List N}:Sp ⟨#[102,105,101,108,100]⟩ tx v ns ks
 |De {op:ByteArray} {v:V} {ns:List ByteArray} {ks:List N} (h:∀x∈z8,op≠x):Sp op ⟨#[]⟩ v ns ks
structure Ny(op tx:ByteArray)(v:V)(ns:List ByteArray)(ks ps ds:List N):Prop where
 tn:op=Cp↔0<ns.length
 dn:op=Cs↔0<ds.length
 pn:(op=Cy∨op=Ct∨op=Ck)↔0<ps.length
 p1:op=Cy∨ps.length≤1
 sp:Sp op tx v ns ks
end Go.Proofs.YtlojelcoibpphaaGreatDoor
namespace Go.Proofs.YtlojelcoibpphaaGreatDoor
open Go Go.RowKit D Go.ChangeShapes Go.WideShapes Go.Proofs
theorem pL{d:Type}(c:Nat→d→Prop):∀n:Nat,(∀i,i<n→∃x,c i x)→∃b:List d,b.length=n∧∀i (h:i<b.length),c i b[i]
 |0,_=>⟨[],rfl,fun i h=>by cases h⟩
 |n+1,h=>by
  obtain⟨b,hl,g⟩:=pL c n (fun i hi=>h i Ac)
  obtain⟨x,hx⟩:=h n Ac
  refine⟨b++[x],by simp[hl],fun i hi=>?_⟩
  by_cases f:i<b.length
  ·rw[TC f];exact g i f
  ·have j:i=n:=by simp only[Tl,TG]at hi;omega
   subst j
   rw[Tz Ac]
   simpa[hl]using hx
theorem wN{w:World}{a:Addr}{c:Value}(h:w.cell? a=some c):a.block<w.heap.size:=by
 rcases Vb a.block w.heap.size with b|b
 ·exact b
 have:w.heap[a.block]? =none:=by simp[b]
 simp[World.cell?,this]at h
theorem Et{c:Type}(b:DataW c):1≤Rows.uptoBulk b:=by
 cases b with
 |lit d=>cases d<;>simp[Rows.uptoBulk]
 |nil=>simp[Rows.uptoBulk]
 |ptr b=>simp[Rows.uptoBulk]
 |slice f g=>simp[Rows.uptoBulk]
 |agg j=>simp[Rows.uptoBulk]
 |iface k b=>simp[Rows.uptoBulk]
 |map l=>simp[Rows.uptoBulk]
 |held h=>simp[Rows.uptoBulk]
theorem k7{c:Type}:∀b:List (DataW c),b.length≤Rows.uptoBulkAll b
 |[]=>Tv _
 |d::f=>by have:=k7 f;have:=Et d;simp only[To,Rows.uptoBulkAll];omega
theorem zy{f:Type}{j:Type}(g:f→Nat)(d:List f→Nat)(h0:d []=0)(hc:∀a b,d (a::b)=g a+d b):∀(b:List f)(c:List (DataW j)),b.length=c.length→(∀(i:Nat)(h1:i<b.length)(h2:i<c.length),g b[i]≤Rows.uptoBulk c[i])→d b≤Rows.uptoBulkAll c
 |[],_,_,_=>by rw[h0];omega
 |a::b,[],h,_=>by simp at h
 |a::b,k::c,h,hi=>by
  have h1:=hi 0 Al Al
  have h2:=zy g d h0 hc b c AU (fun i h1 h2=>hi (i+1) AW A4)
  rw[hc,Rows.uptoBulkAll];simp only[TF]at h1;omega
section
variable{Hd:Type}{enc:TypeId×Value→Hd}{w:World}{sp:Nat→Bool}{held:Bool}
theorem pD{q e f r:Nat}{t:List Value}{x:DataW Hd×List MemPlace}(ht:Tryz.prog.underlying q=some (.slice e))(hc:Tryz.prog.cellsOf e=f)(u:0<f)(h:DataW.trod enc Tryz.prog w 0 sp held r q t=some x):
  ∃(a:Option Addr)(c g:Nat)(j:List (DataW Hd)),t=[.slice a c g]∧c≤g∧j.length=c∧Rows.uptoBulkAll j+1≤Rows.uptoBulk x.1∧
   ∀(i:Nat)(hi:i<j.length),∃b k d z n,a=some ⟨b,k,none⟩∧b<w.heap.size∧hB w b (k+i*f) d∧d.size=f∧n<r∧DataW.trod enc Tryz.prog w 0 sp held n e d.toList=some (j[i],z):=by
 rcases DataW.trod_slice ht h with⟨rfl,rfl⟩|⟨a,c,g,m,J,n,K,rfl,rfl,_,hl,_,A,v,_,_⟩
 ·exact⟨none,0,0,[],rfl,Tv _,rfl,Tv _,fun i hi=>Tu hi Al⟩
 refine⟨some a,c,g,m.map (·.1),rfl,hl,by simpa using A,by simp only[Rows.uptoBulk];omega,fun i hi=>?_⟩
 have hi:i<m.length:=by simpa using hi
 have h1:=v i Ac
 rw[TP hi,Option.bind_eq_some_iff]at h1
 obtain⟨d,B,C⟩:=h1
 obtain⟨_,o,p⟩:=World.cells?_some B
 obtain⟨b,k,D⟩:=a
 rw[hc]at o p
 have E:D=none:=by
  have h1:=v 0 Ac
  rw[TP Ac,Option.bind_eq_some_iff]at h1
  obtain⟨L,F,_⟩:=h1
  obtain⟨_,G,y⟩:=World.cells?_some F
  rw[hc]at G y
  have h2:=y 0 u
  rw[TP Ac]at h2
  have l:=World.cell?_spot h2
  simpa[Addr.add]using l
 subst E
 have H:b<w.heap.size:=by
  have h2:=p 0 u
  rw[TP Ac]at h2
  have l:=wN h2
  rw[add_plain,add_plain]at l
  exact l
 refine⟨b,k,d.toArray,m[i].2,n,rfl,H,fun I hj=>?_,by simpa using o,Ac,by simpa using C⟩
 have:=p I (by simpa[o]using hj)
 rw[add_plain,add_plain]at this
 simpa[Vx]using this
theorem lW{g:Type}(m:g→Array Value→Prop)(l:g→Nat)(j:List g→Nat)(h0:j []=0)(hc:∀a b,j (a::b)=l a+j b){a:Option Addr}{sz:Nat}{ds:List (DataW Hd)}
  (h:∀(i:Nat)(hi:i<ds.length),∃c f d x,a=some ⟨c,f,none⟩∧c<w.heap.size∧hB w c (f+i*sz) d∧d.size=sz∧m x d∧l x≤Rows.uptoBulk ds[i]):
  ∃(b:List g)(d:Nat→Array Value),b.length=ds.length∧hT w (fun q=>q<w.heap.size) a b.length sz d∧(∀(i:Nat)(h:i<b.length),m b[i] (d i))∧j b≤Rows.uptoBulkAll ds:=by
 rcases Ur ds.length with o|o
 ·exact⟨[],fun _=>#[],by simp[o],fun i hi=>Tu hi Al,fun i hi=>Tu hi Al,by rw[h0];omega⟩
 obtain⟨_,_,_,r,_⟩:=h 0 o
 obtain⟨b,hl,p⟩:=pL (fun i (k:g×Array Value)=>m k.1 k.2∧(∃c f,a=some ⟨c,f,none⟩∧c<w.heap.size∧hB w c (f+i*sz) k.2∧k.2.size=sz)∧∀h:i<ds.length,l k.1≤Rows.uptoBulk ds[i]) ds.length (fun i hi=>by
  obtain⟨c,f,d,x,h1,h2,t,u,v,y⟩:=h i hi
  exact⟨(x,d),v,⟨c,f,h1,h2,t,u⟩,fun _=>y⟩)
 refine⟨b.map (·.1),fun i=>(b.getD i (r,#[])).2,by simpa using hl,fun i hi=>?_,fun i hi=>?_,?_⟩
 ·have hi:i<b.length:=by simpa using hi
  have:=(p i hi).2.1
  simpa[TL,hi]using this
 ·have hi:i<b.length:=by simpa using hi
  have:=(p i hi).1
  simpa[TL,hi]using this
 exact zy l j h0 hc _ _ Bo (fun i h1 h2=>by
  have hi:i<b.length:=by simpa using h1
  simpa using(p i hi).2.2 h2)
theorem opens{b d:Nat}{c:List Value}{x:DataW Hd×List MemPlace}(ht:Tryz.prog.underlying b=some .string)(h:DataW.trod enc Tryz.prog w 0 sp held d b c=some x):∃s:ByteArray,c=[.string s]∧Rows.uptoBulk x.1=s.size+1:=by
 obtain⟨s,rfl,rfl,_⟩:=DataW.trod_string ht h
 exact⟨s,rfl,by simp[Rows.uptoBulk]⟩
theorem Ip{b f:Nat}{c:List Value}{x:DataW Hd×List MemPlace}(ht:Tryz.prog.underlying b=some (.int .i64))(h:DataW.trod enc Tryz.prog w 0 sp held f b c=some x):
  ∃n:Int,c=[.int .i64 n]∧(-9223372036854775808≤n∧n≤9223372036854775807)∧Rows.uptoBulk x.1=1:=by
 obtain⟨n,rfl,rfl,d⟩:=DataW.trod_int ht h
 refine⟨n,rfl,?_,by simp[Rows.uptoBulk]⟩
 simp only[Lit.wf,Tx,TA]at d
 exact d
theorem qR{o r:Nat}{p:List Value}{x:DataW Hd×List MemPlace}(ht:Tryz.prog.underlying o=some (.slice 9))(h:DataW.trod enc Tryz.prog w 0 sp held r o p=some x):
  ∃(a:Option Addr)(g:Nat)(b:List ByteArray),p=[.slice a b.length g]∧hT w (fun j=>j<w.heap.size) a b.length 1 (strCells b)∧(b.map fun k=>k.size+1).sum+1≤Rows.uptoBulk x.1:=by
 obtain⟨a,A,g,q,rfl,_,rfl,B,t⟩:=pD ht F.SK Ac h
 obtain⟨b,c,hl,u,v,hw⟩:=lW (w:=w) (fun(s:ByteArray) j=>j=#[.string s]) (fun s=>s.size+1) (fun b=>(b.map fun k=>k.size+1).sum) rfl (fun a b=>by simp) (a:=a) (sz:=1) (ds:=q) (fun i hi=>by
  obtain⟨l,m,c,C,n,h1,h2,d,f,D,y⟩:=t i hi
  obtain⟨s,z,hs⟩:=opens Tryz.underlying9 y
  exact⟨l,m,c,s,h1,h2,d,f,by cases c;simpa using z,by rw[hs];omega⟩)
 refine⟨a,g,b,by rw[hl],fun i hi=>?_,Ac⟩
 obtain⟨l,m,h1,h2,d,f⟩:=u i hi
 have e:c i=strCells b i:=by rw[v i hi];simp[strCells,TL,hi]
 rw[e]at d f
 exact⟨l,m,h1,h2,d,f⟩
end
theorem Jn{g:Type}{b:List g}(h:b.length=3):∃c d f,b=[c,d,f]:=by
 match b,h with
 |[c,d,f],_=>exact⟨c,d,f,rfl⟩
theorem Em{j:Type}{b:List j}(h:b.length=4):∃c d f g,b=[c,d,f,g]:=by
 match b,h with
 |[c,d,f,g],_=>exact⟨c,d,f,g,rfl⟩
theorem zm{l:Type}{b:List l}(h:b.length=6):∃c d f g j k,b=[c,d,f,g,j,k]:=by
 match b,h with
 |[c,d,f,g,j,k],_=>exact⟨c,d,f,g,j,k,rfl⟩
theorem I9{m:Type}{b:List m}(h:b.length=7):∃c d f g j k l,b=[c,d,f,g,j,k,l]:=by
 match b,h with
 |[c,d,f,g,j,k,l],_=>exact⟨c,d,f,g,j,k,l,rfl⟩
theorem Hv{t:Type}{b:List t}(h:b.length=12):∃c d f g j k l m o p q r,b=[c,d,f,g,j,k,l,m,o,p,q,r]:=by
 match b,h with
 |[c,d,f,g,j,k,l,m,o,p,q,r],_=>exact⟨c,d,f,g,j,k,l,m,o,p,q,r,rfl⟩
theorem Gl{v:Type}{b:List v}(h:b.length=14):∃c d f g j k l m o p q r t u,b=[c,d,f,g,j,k,l,m,o,p,q,r,t,u]:=by
 match b,h with
 |[c,d,f,g,j,k,l,m,o,p,q,r,t,u],_=>exact⟨c,d,f,g,j,k,l,m,o,p,q,r,t,u,rfl⟩
section
variable{Hd:Type}{enc:TypeId×Value→Hd}{w:World}{sp:Nat→Bool}{held:Bool}
theorem k4{c:Type}:∀{l:List (DataW c)}{i:Nat}(h:i<l.length),Rows.uptoBulk l[i]≤Rows.uptoBulkAll l
 |d::b,0,_=>by simp only[TF,Rows.uptoBulkAll];omega
 |d::b,i+1,h=>by have:=k4 (l:=b) (i:=i) AU;simp only[TZ,Rows.uptoBulkAll];omega
theorem sG{b:List ByteArray}{s:ByteArray}(h:s∈b):s.size+1≤(b.map fun c=>c.size+1).sum:=by
 obtain⟨i,hi,rfl⟩:=T0 h
 exact lM hi
theorem tL(o:Nat):∀(p:List Value)(x:DataW Hd×List MemPlace),DataW.trod enc Tryz.prog w 0 sp held o 26 p=some x→Rows.uptoBulk x.1≤1048576→∃b,j3 w (fun c=>c<w.heap.size) b p.toArray∧b.wt≤Rows.uptoBulk x.1:=by
 induction o using Nat.strongRecOn with
 |_ o K=>
 intro p x h hw
 obtain⟨R,n,a1,rfl,hl,hxl,d⟩:=DataW.trod_struct Tryz.underlying26 h
 have S:Tryz.prog.cellsOf 26=6:=by kernel_rfl
 rw[S]at hl
 have hxl:R.length=6:=hxl
 obtain⟨f,g,j,k,l,m,rfl⟩:=zm hl
 obtain⟨T,U,W,X,Y,Z,rfl⟩:=zm hxl
 have h0 : DataW.trod enc Tryz.prog w 0 sp held n 22 (([f, g, j, k, l, m].drop 0).take (Tryz.prog.cellsOf 22)) = some T := d 0 { name := "Kind", type := 22, offset := 0, embedded := false, tag := "", pkgPath := "", byteOffset := 0 } rfl
 have h1 : DataW.trod enc Tryz.prog w 0 sp held n 3 (([f, g, j, k, l, m].drop 1).take (Tryz.prog.cellsOf 3)) = some U := d 1 { name := "Half", type := 3, offset := 1, embedded := false, tag := "", pkgPath := "", byteOffset := 8 } rfl
 have h2 : DataW.trod enc Tryz.prog w 0 sp held n 9 (([f, g, j, k, l, m].drop 2).take (Tryz.prog.cellsOf 9)) = some W := d 2 { name := "Text", type := 9, offset := 2, embedded := false, tag := "", pkgPath := "", byteOffset := 16 } rfl
 have q : DataW.trod enc Tryz.prog w 0 sp held n 23 (([f, g, j, k, l, m].drop 3).take (Tryz.prog.cellsOf 23)) = some X := d 3 { name := "List", type := 23, offset := 3, embedded := false, tag := "", pkgPath := "", byteOffset := 32 } rfl
 have r : DataW.trod enc Tryz.prog w 0 sp held n 24 (([f, g, j, k, l, m].drop 4).take (Tryz.prog.cellsOf 24)) = some Y := d 4 { name := "Keys", type := 24, offset := 4, embedded := false, tag := "", pkgPath := "", byteOffset := 56 } rfl
 have t : DataW.trod enc Tryz.prog w 0 sp held n 23 (([f, g, j, k, l, m].drop 5).take (Tryz.prog.cellsOf 23)) = some Z := d 5 { name := "Vals", type := 23, offset := 5, embedded := false, tag := "", pkgPath := "", byteOffset := 80 } rfl
 rw[show Tryz.prog.cellsOf 22=1 by kernel_rfl]at h0
 rw[show Tryz.prog.cellsOf 3=1 by kernel_rfl]at h1
 rw[show Tryz.prog.cellsOf 9=1 by kernel_rfl]at h2
 rw[show Tryz.prog.cellsOf 23=1 by kernel_rfl]at q
 rw[show Tryz.prog.cellsOf 24=1 by kernel_rfl]at r
 rw[show Tryz.prog.cellsOf 23=1 by kernel_rfl]at t
 simp only[VD,Vv,T4,Uu]at h0 h1 h2 q r t
 simp only[Rows.uptoBulk,T8,Ue,Rows.uptoBulkAll]at hw⊢
 obtain⟨aa,L,hk,a2⟩:=Ip Tryz.underlying22 h0
 obtain⟨ab,M,ac,a3⟩:=Ip Tryz.underlying3 h1
 obtain⟨s,O,hs⟩:=opens Tryz.underlying9 h2
 obtain⟨ad,a4,a5,d3,u,ae,af,a6,ag⟩:=pD Tryz.underlying23 (show Tryz.prog.cellsOf 26=6 by kernel_rfl) Ac q
 obtain⟨ah,ai,aj,ak,al,a7⟩:=lW (w:=w) (fun b c=>j3 w (fun c=>c<w.heap.size) b c) V.wt V.h9 rfl (fun _ _=>rfl) (a:=ad) (sz:=6) (ds:=d3) (fun i hi=>by
  obtain⟨v,y,z,am,A,B,C,D,E,an,F⟩:=ag i hi
  have ao:=k4 hi
  obtain⟨b,G,H⟩:=K A Ac _ _ F BW
  exact⟨v,y,z,b,B,C,D,E,G,H⟩)
 subst af;rw[←aj]at u ae
 have a8:=k7 d3
 obtain⟨a9,aA,P,Q,ap,aB⟩:=qR Tryz.underlying24 r
 obtain⟨aq,aC,aD,I,J,ar,au,aE,av⟩:=pD Tryz.underlying23 (show Tryz.prog.cellsOf 26=6 by kernel_rfl) Ac t
 obtain⟨aw,ax,ay,az,a0,aF⟩:=lW (w:=w) (fun b c=>j3 w (fun c=>c<w.heap.size) b c) V.wt V.h9 rfl (fun _ _=>rfl) (a:=aq) (sz:=6) (ds:=I) (fun i hi=>by
  obtain⟨v,y,z,am,A,B,C,D,E,an,F⟩:=av i hi
  have ao:=k4 hi
  obtain⟨b,G,H⟩:=K A Ac _ _ F (by show Rows.uptoBulk I[i]≤_;omega)
  exact⟨v,y,z,b,B,C,D,E,G,H⟩)
 subst au;rw[←ay]at J ar
 have aG:=k7 I
 simp only[Ve,and_true]at L M O u Q J
 subst L M O u Q J
 have aH:=jY P
 refine⟨.mk aa ab s ah P aw,.mk ai ax hk ac Ac Ac Ac Ac (fun aI ht=>by have:=sG ht;omega) ak al ap az a0,by simp only[V.wt];omega⟩
theorem Kr{W:Nat}(K:(∀c,c<W→(∀(d:List Value)(x:DataW Hd×List MemPlace),DataW.trod enc Tryz.prog w 0 sp held c 31 d=some x→Rows.uptoBulk x.1≤1048576→∃n,(RN w (fun b=>b<w.heap.size) 0 n d.toArray∧Can 0 n)∧n.wt≤Rows.uptoBulk x.1)∧(∀(d:List Value)(x:DataW Hd×List MemPlace),DataW.trod enc Tryz.prog w 0 sp held c 59 d=some x→Rows.uptoBulk x.1≤1048576→∃n,(RN w (fun b=>b<w.heap.size) 1 n d.toArray∧Can 1 n)∧n.wt≤Rows.uptoBulk x.1)∧∀(d:List Value)(x:DataW Hd×List MemPlace),DataW.trod enc Tryz.prog w 0 sp held c 61 d=some x→Rows.uptoBulk x.1≤1048576→∃n,(RN w (fun b=>b<w.heap.size) 2 n d.toArray∧Can 2 n)∧n.wt≤Rows.uptoBulk x.1)):∀(d:List Value)(x:DataW Hd×List MemPlace),DataW.trod enc Tryz.prog w 0 sp held W 31 d=some x→Rows.uptoBulk x.1≤1048576→∃n,(RN w (fun b=>b<w.heap.size) 0 n d.toArray∧Can 0 n)∧n.wt≤Rows.uptoBulk x.1:=by
 intro d x h hw
 obtain⟨ah,n,aJ,rfl,hl,hxl,f⟩:=DataW.trod_struct Tryz.underlying31 h
 have ai:Tryz.prog.cellsOf 31=12:=by kernel_rfl
 rw[ai]at hl
 have hxl:ah.length=7:=hxl
 obtain⟨g,j,k,l,m,o,p,q,r,t,u,v,rfl⟩:=Hv hl
 obtain⟨aj,ak,al,am,an,ao,ap,rfl⟩:=I9 hxl
 have h0 : DataW.trod enc Tryz.prog w 0 sp held n 9 (([g, j, k, l, m, o, p, q, r, t, u, v].drop 0).take (Tryz.prog.cellsOf 9)) = some aj := f 0 { name := "Op", type := 9, offset := 0, embedded := false, tag := "", pkgPath := "", byteOffset := 0 } rfl
 have h1 : DataW.trod enc Tryz.prog w 0 sp held n 9 (([g, j, k, l, m, o, p, q, r, t, u, v].drop 1).take (Tryz.prog.cellsOf 9)) = some ak := f 1 { name := "Text", type := 9, offset := 1, embedded := false, tag := "", pkgPath := "", byteOffset := 16 } rfl
 have h2 : DataW.trod enc Tryz.prog w 0 sp held n 26 (([g, j, k, l, m, o, p, q, r, t, u, v].drop 2).take (Tryz.prog.cellsOf 26)) = some al := f 2 { name := "Val", type := 26, offset := 2, embedded := false, tag := "", pkgPath := "", byteOffset := 32 } rfl
 have L : DataW.trod enc Tryz.prog w 0 sp held n 27 (([g, j, k, l, m, o, p, q, r, t, u, v].drop 8).take (Tryz.prog.cellsOf 27)) = some am := f 3 { name := "Kids", type := 27, offset := 8, embedded := false, tag := "", pkgPath := "", byteOffset := 136 } rfl
 have M : DataW.trod enc Tryz.prog w 0 sp held n 24 (([g, j, k, l, m, o, p, q, r, t, u, v].drop 9).take (Tryz.prog.cellsOf 24)) = some an := f 4 { name := "Names", type := 24, offset := 9, embedded := false, tag := "", pkgPath := "", byteOffset := 160 } rfl
 have O : DataW.trod enc Tryz.prog w 0 sp held n 28 (([g, j, k, l, m, o, p, q, r, t, u, v].drop 10).take (Tryz.prog.cellsOf 28)) = some ao := f 5 { name := "Pats", type := 28, offset := 10, embedded := false, tag := "", pkgPath := "", byteOffset := 184 } rfl
 have P : DataW.trod enc Tryz.prog w 0 sp held n 29 (([g, j, k, l, m, o, p, q, r, t, u, v].drop 11).take (Tryz.prog.cellsOf 29)) = some ap := f 6 { name := "Defs", type := 29, offset := 11, embedded := false, tag := "", pkgPath := "", byteOffset := 208 } rfl
 rw[show Tryz.prog.cellsOf 9=1 by kernel_rfl]at h0
 rw[show Tryz.prog.cellsOf 9=1 by kernel_rfl]at h1
 rw[show Tryz.prog.cellsOf 26=6 by kernel_rfl]at h2
 rw[show Tryz.prog.cellsOf 27=1 by kernel_rfl]at L
 rw[show Tryz.prog.cellsOf 24=1 by kernel_rfl]at M
 rw[show Tryz.prog.cellsOf 28=1 by kernel_rfl]at O
 rw[show Tryz.prog.cellsOf 29=1 by kernel_rfl]at P
 simp only[VD,Vv,T4,Uu]at h0 h1 h2 L M O P
 simp only[Rows.uptoBulk,T8,Ue,Rows.uptoBulkAll]at hw⊢
 obtain⟨aq,X,aK⟩:=opens Tryz.underlying9 h0
 obtain⟨ar,Y,aL⟩:=opens Tryz.underlying9 h1
 obtain⟨y,z,aM⟩:=tL n _ _ h2 Ac
 obtain⟨au,aN,aO,d3,Q,av,aw,aP,ax⟩:=pD Tryz.underlying27 (show Tryz.prog.cellsOf 31=12 by kernel_rfl) Ac L
 obtain⟨ay,az,a0,a1,Z,aQ⟩:=lW (w:=w) (fun n b=>RN w (fun b=>b<w.heap.size) 0 n b∧Can 0 n) N.wt N.h9 rfl (fun _ _=>rfl) (a:=au) (sz:=12) (ds:=d3) (fun i hi=>by
  obtain⟨A,B,C,aa,c,D,E,F,G,ab,H⟩:=ax i hi
  have ac:=k4 hi
  obtain⟨y,z,I⟩:=(fun c J=>(K c J).1) c Ac _ _ H BW
  exact⟨A,B,C,y,D,E,F,G,z,I⟩)
 subst aw;rw[←a0]at Q av
 have aR:=k7 d3
 obtain⟨aS,aT,ad,ae,a2,aU⟩:=qR Tryz.underlying24 M
 obtain⟨a3,aV,aW,R,S,a4,a5,aX,a6⟩:=pD Tryz.underlying28 (show Tryz.prog.cellsOf 59=4 by kernel_rfl) Ac O
 obtain⟨a7,a8,a9,aA,af,aY⟩:=lW (w:=w) (fun n b=>RN w (fun b=>b<w.heap.size) 1 n b∧Can 1 n) N.wt N.h9 rfl (fun _ _=>rfl) (a:=a3) (sz:=4) (ds:=R) (fun i hi=>by
  obtain⟨A,B,C,aa,c,D,E,F,G,ab,H⟩:=a6 i hi
  have ac:=k4 hi
  obtain⟨y,z,I⟩:=(fun c J=>(K c J).2.1) c Ac _ _ H (by show Rows.uptoBulk R[i]≤_;omega)
  exact⟨A,B,C,y,D,E,F,G,z,I⟩)
 subst a5;rw[←a9]at S a4
 have aZ:=k7 R
 obtain⟨aB,ba,bb,T,U,aC,aD,bc,aE⟩:=pD Tryz.underlying29 (show Tryz.prog.cellsOf 61=14 by kernel_rfl) Ac P
 obtain⟨aF,aG,aH,aI,ag,bd⟩:=lW (w:=w) (fun n b=>RN w (fun b=>b<w.heap.size) 2 n b∧Can 2 n) N.wt N.h9 rfl (fun _ _=>rfl) (a:=aB) (sz:=14) (ds:=T) (fun i hi=>by
  obtain⟨A,B,C,aa,c,D,E,F,G,ab,H⟩:=aE i hi
  have ac:=k4 hi
  obtain⟨y,z,I⟩:=(fun c J=>(K c J).2.2) c Ac _ _ H (by show Rows.uptoBulk T[i]≤_;omega)
  exact⟨A,B,C,y,D,E,F,G,z,I⟩)
 subst aD;rw[←aH]at U aC
 have be:=k7 T
 simp only[Ve,and_true]at X Y Q ae S U
 subst X Y Q ae S U
 have bf:=jY ad
 refine⟨.mk aq ar y ad ay a7 aF,⟨.q az a8 aG Ac Ac z Ac Ac Ac Ac (fun bg ht=>by have:=sG ht;omega) a1 (fun i h=>(Z i h).1) a2 aA (fun i h=>(af i h).1) aI (fun i h=>(ag i h).1) Ac,.q (fun i h=>(Z i h).2) (fun i h=>(af i h).2) (fun i h=>(ag i h).2)⟩,by simp only[N.wt];omega⟩
theorem K7{G:Nat}(H:(∀c,c<G→(∀(d:List Value)(x:DataW Hd×List MemPlace),DataW.trod enc Tryz.prog w 0 sp held c 31 d=some x→Rows.uptoBulk x.1≤1048576→∃n,(RN w (fun b=>b<w.heap.size) 0 n d.toArray∧Can 0 n)∧n.wt≤Rows.uptoBulk x.1)∧(∀(d:List Value)(x:DataW Hd×List MemPlace),DataW.trod enc Tryz.prog w 0 sp held c 59 d=some x→Rows.uptoBulk x.1≤1048576→∃n,(RN w (fun b=>b<w.heap.size) 1 n d.toArray∧Can 1 n)∧n.wt≤Rows.uptoBulk x.1)∧∀(d:List Value)(x:DataW Hd×List MemPlace),DataW.trod enc Tryz.prog w 0 sp held c 61 d=some x→Rows.uptoBulk x.1≤1048576→∃n,(RN w (fun b=>b<w.heap.size) 2 n d.toArray∧Can 2 n)∧n.wt≤Rows.uptoBulk x.1)):∀(d:List Value)(x:DataW Hd×List MemPlace),DataW.trod enc Tryz.prog w 0 sp held G 59 d=some x→Rows.uptoBulk x.1≤1048576→∃n,(RN w (fun b=>b<w.heap.size) 1 n d.toArray∧Can 1 n)∧n.wt≤Rows.uptoBulk x.1:=by
 intro d x h hw
 obtain⟨M,n,ap,rfl,hl,hxl,f⟩:=DataW.trod_struct Tryz.underlying59 h
 have O:Tryz.prog.cellsOf 59=4:=by kernel_rfl
 rw[O]at hl
 have hxl:M.length=4:=hxl
 obtain⟨g,j,k,l,rfl⟩:=Em hl
 obtain⟨P,Q,R,S,rfl⟩:=Em hxl
 have h0 : DataW.trod enc Tryz.prog w 0 sp held n 9 (([g, j, k, l].drop 0).take (Tryz.prog.cellsOf 9)) = some P := f 0 { name := "Op", type := 9, offset := 0, embedded := false, tag := "", pkgPath := "", byteOffset := 0 } rfl
 have h1 : DataW.trod enc Tryz.prog w 0 sp held n 9 (([g, j, k, l].drop 1).take (Tryz.prog.cellsOf 9)) = some Q := f 1 { name := "Text", type := 9, offset := 1, embedded := false, tag := "", pkgPath := "", byteOffset := 16 } rfl
 have h2 : DataW.trod enc Tryz.prog w 0 sp held n 27 (([g, j, k, l].drop 2).take (Tryz.prog.cellsOf 27)) = some R := f 2 { name := "Keys", type := 27, offset := 2, embedded := false, tag := "", pkgPath := "", byteOffset := 32 } rfl
 have m : DataW.trod enc Tryz.prog w 0 sp held n 28 (([g, j, k, l].drop 3).take (Tryz.prog.cellsOf 28)) = some S := f 3 { name := "Kids", type := 28, offset := 3, embedded := false, tag := "", pkgPath := "", byteOffset := 56 } rfl
 rw[show Tryz.prog.cellsOf 9=1 by kernel_rfl]at h0
 rw[show Tryz.prog.cellsOf 9=1 by kernel_rfl]at h1
 rw[show Tryz.prog.cellsOf 27=1 by kernel_rfl]at h2
 rw[show Tryz.prog.cellsOf 28=1 by kernel_rfl]at m
 simp only[VD,Vv,T4,Uu]at h0 h1 h2 m
 simp only[Rows.uptoBulk,T8,Ue,Rows.uptoBulkAll]at hw⊢
 obtain⟨T,I,aq⟩:=opens Tryz.underlying9 h0
 obtain⟨U,J,ar⟩:=opens Tryz.underlying9 h1
 obtain⟨W,au,av,o,p,X,Y,aw,Z⟩:=pD Tryz.underlying27 (show Tryz.prog.cellsOf 31=12 by kernel_rfl) Ac h2
 obtain⟨aa,ab,ac,ad,K,ax⟩:=lW (w:=w) (fun n b=>RN w (fun b=>b<w.heap.size) 0 n b∧Can 0 n) N.wt N.h9 rfl (fun _ _=>rfl) (a:=W) (sz:=12) (ds:=o) (fun i hi=>by
  obtain⟨q,r,t,ae,c,u,v,y,z,af,A⟩:=Z i hi
  have ag:=k4 hi
  obtain⟨B,C,D⟩:=(fun c E=>(H c E).1) c Ac _ _ A (by show Rows.uptoBulk o[i]≤_;omega)
  exact⟨q,r,t,B,u,v,y,z,C,D⟩)
 subst Y;rw[←ac]at p X
 have ay:=k7 o
 obtain⟨ah,az,a0,d3,F,ai,aj,a1,ak⟩:=pD Tryz.underlying28 (show Tryz.prog.cellsOf 59=4 by kernel_rfl) Ac m
 obtain⟨al,am,an,ao,L,a2⟩:=lW (w:=w) (fun n b=>RN w (fun b=>b<w.heap.size) 1 n b∧Can 1 n) N.wt N.h9 rfl (fun _ _=>rfl) (a:=ah) (sz:=4) (ds:=d3) (fun i hi=>by
  obtain⟨q,r,t,ae,c,u,v,y,z,af,A⟩:=ak i hi
  have ag:=k4 hi
  obtain⟨B,C,D⟩:=(fun c E=>(H c E).2.1) c Ac _ _ A BW
  exact⟨q,r,t,B,u,v,y,z,C,D⟩)
 subst aj;rw[←an]at F ai
 have a3:=k7 d3
 simp only[Ve,and_true]at I J p F
 subst I J p F
 have a4:V0.wt=1:=rfl
 refine⟨.mk T U V0 [] aa al [],⟨.p ab am Ac Ac Ac Ac ad (fun i h=>(K i h).1) ao (fun i h=>(L i h).1),.p (fun i h=>(K i h).2) (fun i h=>(L i h).2)⟩,by simp only[N.wt,N.h9,Ue,Ut];omega⟩
theorem Kb{A:Nat}(E:(∀d,d<A→(∀(b:List Value)(x:DataW Hd×List MemPlace),DataW.trod enc Tryz.prog w 0 sp held d 31 b=some x→Rows.uptoBulk x.1≤1048576→∃n,(RN w (fun c=>c<w.heap.size) 0 n b.toArray∧Can 0 n)∧n.wt≤Rows.uptoBulk x.1)∧(∀(b:List Value)(x:DataW Hd×List MemPlace),DataW.trod enc Tryz.prog w 0 sp held d 59 b=some x→Rows.uptoBulk x.1≤1048576→∃n,(RN w (fun c=>c<w.heap.size) 1 n b.toArray∧Can 1 n)∧n.wt≤Rows.uptoBulk x.1)∧∀(b:List Value)(x:DataW Hd×List MemPlace),DataW.trod enc Tryz.prog w 0 sp held d 61 b=some x→Rows.uptoBulk x.1≤1048576→∃n,(RN w (fun c=>c<w.heap.size) 2 n b.toArray∧Can 2 n)∧n.wt≤Rows.uptoBulk x.1)):∀(b:List Value)(x:DataW Hd×List MemPlace),DataW.trod enc Tryz.prog w 0 sp held A 61 b=some x→Rows.uptoBulk x.1≤1048576→∃n,(RN w (fun c=>c<w.heap.size) 2 n b.toArray∧Can 2 n)∧n.wt≤Rows.uptoBulk x.1:=by
 intro b x h hw
 obtain⟨F,n,Q,rfl,hl,hxl,f⟩:=DataW.trod_struct Tryz.underlying61 h
 have G:Tryz.prog.cellsOf 61=14:=by kernel_rfl
 rw[G]at hl
 have hxl:F.length=3:=hxl
 obtain⟨g,j,k,l,m,o,p,q,r,t,u,v,y,z,rfl⟩:=Gl hl
 obtain⟨H,I,J,rfl⟩:=Jn hxl
 have h0 : DataW.trod enc Tryz.prog w 0 sp held n 9 (([g, j, k, l, m, o, p, q, r, t, u, v, y, z].drop 0).take (Tryz.prog.cellsOf 9)) = some H := f 0 { name := "Name", type := 9, offset := 0, embedded := false, tag := "", pkgPath := "", byteOffset := 0 } rfl
 have h1 : DataW.trod enc Tryz.prog w 0 sp held n 24 (([g, j, k, l, m, o, p, q, r, t, u, v, y, z].drop 1).take (Tryz.prog.cellsOf 24)) = some I := f 1 { name := "Params", type := 24, offset := 1, embedded := false, tag := "", pkgPath := "", byteOffset := 16 } rfl
 have h2 : DataW.trod enc Tryz.prog w 0 sp held n 31 (([g, j, k, l, m, o, p, q, r, t, u, v, y, z].drop 2).take (Tryz.prog.cellsOf 31)) = some J := f 2 { name := "Body", type := 31, offset := 2, embedded := false, tag := "", pkgPath := "", byteOffset := 40 } rfl
 rw[show Tryz.prog.cellsOf 9=1 by kernel_rfl]at h0
 rw[show Tryz.prog.cellsOf 24=1 by kernel_rfl]at h1
 rw[show Tryz.prog.cellsOf 31=12 by kernel_rfl]at h2
 simp only[VD,Vv,T4,Uu]at h0 h1 h2
 simp only[Rows.uptoBulk,T8,Ue,Rows.uptoBulkAll]at hw⊢
 obtain⟨K,B,R⟩:=opens Tryz.underlying9 h0
 obtain⟨S,T,C,D,L,U⟩:=qR Tryz.underlying24 h1
 obtain⟨M,⟨O,P⟩,W⟩:=(E n Ac).1 _ _ h2 Ac
 simp only[Ve,and_true]at B D
 subst B D
 have X:V0.wt=1:=rfl
 have Y:=jY C
 refine⟨.mk ⟨#[]⟩ K V0 C [M] [] [],⟨.d Ac Ac (fun Z ht=>by have:=sG ht;omega) L O,.d P⟩,by simp only[N.wt,N.h9,show(⟨#[]⟩:ByteArray).size=0 from rfl];omega⟩
theorem tZ(c:Nat):(∀(b:List Value)(x:DataW Hd×List MemPlace),DataW.trod enc Tryz.prog w 0 sp held c 31 b=some x→Rows.uptoBulk x.1≤1048576→∃n,(RN w (fun d=>d<w.heap.size) 0 n b.toArray∧Can 0 n)∧n.wt≤Rows.uptoBulk x.1)∧(∀(b:List Value)(x:DataW Hd×List MemPlace),DataW.trod enc Tryz.prog w 0 sp held c 59 b=some x→Rows.uptoBulk x.1≤1048576→∃n,(RN w (fun d=>d<w.heap.size) 1 n b.toArray∧Can 1 n)∧n.wt≤Rows.uptoBulk x.1)∧∀(b:List Value)(x:DataW Hd×List MemPlace),DataW.trod enc Tryz.prog w 0 sp held c 61 b=some x→Rows.uptoBulk x.1≤1048576→∃n,(RN w (fun d=>d<w.heap.size) 2 n b.toArray∧Can 2 n)∧n.wt≤Rows.uptoBulk x.1:=by
 induction c using Nat.strongRecOn with
 |_ c f=>exact⟨Kr f,K7 f,Kb f⟩
end
theorem Kk : Tryz.prog.globalNamed "unicode/utf8.first" = some 0 := by kernel_rfl
theorem Gi : Tryz.prog.globalNamed "unicode/utf8.acceptRanges" = some 1 := by kernel_rfl
theorem JC:(Tryz.prog.globals[0]?).map (·.type)=some 150:=by kernel_rfl
theorem GK:(Tryz.prog.globals[1]?).map (·.type)=some 153:=by kernel_rfl
theorem IH:Tryz.prog.cellsOf 150=256:=by kernel_rfl
theorem wZ:Tryz.prog.cellsOf 152=2:=by kernel_rfl
theorem JF:Tryz.prog.underlying 150=some (.array 256 5):=by kernel_rfl
theorem On:Tryz.prog.underlying 5=some (.int .u8):=by kernel_rfl
theorem Pz:Tryz.prog.cellsOf 5=1:=by kernel_rfl
theorem OJ:Tryz.prog.underlying 153=some (.array 16 152):=by kernel_rfl
theorem tq{j : World}{l : List (String × DataW Unit)}(h : laidMet Tryz.prog l j)(h1 : ("unicode/utf8.first", Lib.firstData) ∈ l)(h2 : ("unicode/utf8.acceptRanges", Lib.acceptData) ∈ l) : ij j := by
 have r:=Lib.laidMet.reads h h1
 have t:=Lib.laidMet.reads h h2
 refine⟨fun u hc=>?_,fun i hi=>?_⟩
 ·obtain⟨v,y,z,A,B,b,f,c,g⟩:=r
  obtain rfl:=Up (Kk.symm.trans b)
  obtain rfl:=Up (JC.symm.trans f)
  have d:=Lib.cells_of_tab JF On Pz IH g
  have:=World.var?_cell b c u
  rw[this,←VF,d]
  simp[Lib.firstTab,hc]
 obtain⟨v,y,z,A,B,b,f,c,g⟩:=t
 obtain rfl:=Up (Gi.symm.trans b)
 obtain rfl:=Up (GK.symm.trans f)
 obtain⟨C,D,E,k,m⟩:=Lib.array_elem OJ g i hi
 simp only[List.getElem?_map,List.getElem?_range hi,Vd,UD]at k
 subst k
 rw[wZ]at m
 have d:=Lib.ints_of_struct Tryz.underlying152 (fun o F hj=>by
  match o,hj with
  |0,hj=>simp at hj;subst hj;exact⟨On,rfl,Pz⟩
  |1,hj=>simp at hj;subst hj;exact⟨On,rfl,Pz⟩
  |o+2,hj=>simp at hj) (by rw[wZ];rfl) m
 have p:=TR (·[0]?) d
 have q:=TR (·[1]?) d
 simp only[Vz,List.getElem?_drop]at p q
 constructor
 ·rw[World.var?_cell b c (2*i),←VF]
  simpa[Vq]using p
 rw[World.var?_cell b c (2*i+1),←VF]
 simpa[Vq]using q
theorem O9 : Tryz.prog.globalNamed "internal/strconv.uint64pow10" = some 2 := by kernel_rfl
theorem N8:(Tryz.prog.globals[2]?).map (·.type)=some 236:=by kernel_rfl
theorem Pm:Tryz.prog.underlying 236=some (.array 20 188):=by kernel_rfl
theorem OZ:Tryz.prog.underlying 188=some (.int .u64):=by kernel_rfl
theorem Og:Tryz.prog.cellsOf 188=1:=by kernel_rfl
theorem N6:Tryz.prog.cellsOf 236=20:=by kernel_rfl
theorem vO{b : World}{l : List (String × DataW Unit)}(h : laidMet Tryz.prog l b)(h1 : ("internal/strconv.uint64pow10", Lib.tabData .u64 Lib.pow10Tab) ∈ l) : TB b := by
 obtain⟨j,k,m,o,p,c,d,f,g⟩:=Lib.laidMet.reads h h1
 obtain rfl:=Up (O9.symm.trans c)
 obtain rfl:=Up (N8.symm.trans d)
 unfold TB Lib.TabIs
 rw[f,←Lib.cells_of_tab Pm OZ Og N6 g]
theorem ij.two{w:World}(h:ij w):2≤w.heap.size:=by
 have:=wN (h.2 0 Ah).1
 exact this
end Go.Proofs.YtlojelcoibpphaaGreatDoor
namespace Go.Proofs.YtlojelcoibpphaaGreatDoor
open Go Go.RowKit D Go.Deep Go.Proofs
def NU:List (ByteArray×Nat×Nat):=[(CE,0,0),(CL,0,0),(Cr,0,0),(Cz,0,0),(CC,0,0),(Cx,0,0),(Cp,0,20),(Cm,0,20),(Cw,0,20),(Cv,0,1),(Cu,1,1),(CK,1,1),(CH,1,1),(CG,1,1),(CD,1,1),(Cs,1,1),(CB,1,2),(Co,3,3),(Ct,3,3),(Ck,3,4),(CA,2,21)]
def Nx(op:ByteArray)(lo hi:Nat):Bool:=NU.any (fun x=>decide (op=x.1)&&Nat.beq x.2.1 lo&&Nat.beq x.2.2 hi)
theorem yV(c:ByteArray)(g:World):Calls Tryz.prog 25 #[.string c] g (hH g [] fun I _=>∃(d hi:Nat)(j:Bool),I=.tuple #[.int .i64 d,.int .i64 hi,.bool j]∧(j=true→Nx c d hi=true∨c∈yc∧d=2∧hi=2)):=by
 refine cY Tryz.func25 fun b=>ac 15<|jS rfl rfl (fun k=>?_) (fun k=>?_)
 ·subst k
  exact au 12 ⟨[_,_,_],⟨rfl,rfl,rfl,trivial⟩,hH.mk b ⟨0,0,true,rfl,fun _=>Ts rfl⟩⟩
 refine au 5<|jS rfl rfl (fun l=>?_) (fun l=>?_)
 ·subst l
  exact au 12 ⟨[_,_,_],⟨rfl,rfl,rfl,trivial⟩,hH.mk b ⟨0,0,true,rfl,fun _=>Ts rfl⟩⟩
 refine au 5<|jS rfl rfl (fun m=>?_) (fun m=>?_)
 ·subst m
  exact au 12 ⟨[_,_,_],⟨rfl,rfl,rfl,trivial⟩,hH.mk b ⟨0,0,true,rfl,fun _=>Ts rfl⟩⟩
 refine au 5<|jS rfl rfl (fun o=>?_) (fun o=>?_)
 ·subst o
  exact au 12 ⟨[_,_,_],⟨rfl,rfl,rfl,trivial⟩,hH.mk b ⟨0,0,true,rfl,fun _=>Ts rfl⟩⟩
 refine au 5<|jS rfl rfl (fun p=>?_) (fun p=>?_)
 ·subst p
  exact au 12 ⟨[_,_,_],⟨rfl,rfl,rfl,trivial⟩,hH.mk b ⟨0,0,true,rfl,fun _=>Ts rfl⟩⟩
 refine au 4<|jS rfl rfl (fun q=>?_) (fun q=>?_)
 ·subst q
  exact au 10 ⟨[_,_,_],⟨rfl,rfl,rfl,trivial⟩,hH.mk b ⟨0,0,true,rfl,fun _=>Ts rfl⟩⟩
 refine au 6<|jS rfl rfl (fun r=>?_) (fun r=>?_)
 ·subst r
  exact au 12 ⟨[_,_,_],⟨rfl,rfl,rfl,trivial⟩,hH.mk b ⟨0,20,true,rfl,fun _=>Ts rfl⟩⟩
 refine au 5<|jS rfl rfl (fun t=>?_) (fun t=>?_)
 ·subst t
  exact au 12 ⟨[_,_,_],⟨rfl,rfl,rfl,trivial⟩,hH.mk b ⟨0,20,true,rfl,fun _=>Ts rfl⟩⟩
 refine au 4<|jS rfl rfl (fun u=>?_) (fun u=>?_)
 ·subst u
  exact au 10 ⟨[_,_,_],⟨rfl,rfl,rfl,trivial⟩,hH.mk b ⟨0,20,true,rfl,fun _=>Ts rfl⟩⟩
 refine au 5<|jS rfl rfl (fun v=>?_) (fun v=>?_)
 ·subst v
  exact au 10 ⟨[_,_,_],⟨rfl,rfl,rfl,trivial⟩,hH.mk b ⟨0,1,true,rfl,fun _=>Ts rfl⟩⟩
 refine au 6<|jS rfl rfl (fun w=>?_) (fun w=>?_)
 ·subst w
  exact au 12 ⟨[_,_,_],⟨rfl,rfl,rfl,trivial⟩,hH.mk b ⟨1,1,true,rfl,fun _=>Ts rfl⟩⟩
 refine au 5<|jS rfl rfl (fun y=>?_) (fun y=>?_)
 ·subst y
  exact au 12 ⟨[_,_,_],⟨rfl,rfl,rfl,trivial⟩,hH.mk b ⟨1,1,true,rfl,fun _=>Ts rfl⟩⟩
 refine au 5<|jS rfl rfl (fun z=>?_) (fun z=>?_)
 ·subst z
  exact au 12 ⟨[_,_,_],⟨rfl,rfl,rfl,trivial⟩,hH.mk b ⟨1,1,true,rfl,fun _=>Ts rfl⟩⟩
 refine au 5<|jS rfl rfl (fun A=>?_) (fun A=>?_)
 ·subst A
  exact au 12 ⟨[_,_,_],⟨rfl,rfl,rfl,trivial⟩,hH.mk b ⟨1,1,true,rfl,fun _=>Ts rfl⟩⟩
 refine au 5<|jS rfl rfl (fun B=>?_) (fun B=>?_)
 ·subst B
  exact au 12 ⟨[_,_,_],⟨rfl,rfl,rfl,trivial⟩,hH.mk b ⟨1,1,true,rfl,fun _=>Ts rfl⟩⟩
 refine au 4<|jS rfl rfl (fun C=>?_) (fun C=>?_)
 ·subst C
  exact au 10 ⟨[_,_,_],⟨rfl,rfl,rfl,trivial⟩,hH.mk b ⟨1,1,true,rfl,fun _=>Ts rfl⟩⟩
 refine au 5<|jS rfl rfl (fun D=>?_) (fun D=>?_)
 ·subst D
  exact au 10 ⟨[_,_,_],⟨rfl,rfl,rfl,trivial⟩,hH.mk b ⟨1,2,true,rfl,fun _=>Ts rfl⟩⟩
 refine au 6<|jS rfl rfl (fun E=>?_) (fun E=>?_)
 ·subst E
  exact au 12 ⟨[_,_,_],⟨rfl,rfl,rfl,trivial⟩,hH.mk b ⟨3,3,true,rfl,fun _=>Ts rfl⟩⟩
 refine au 4<|jS rfl rfl (fun F=>?_) (fun F=>?_)
 ·subst F
  exact au 10 ⟨[_,_,_],⟨rfl,rfl,rfl,trivial⟩,hH.mk b ⟨3,3,true,rfl,fun _=>Ts rfl⟩⟩
 refine au 5<|jS rfl rfl (fun G=>?_) (fun G=>?_)
 ·subst G
  exact au 10 ⟨[_,_,_],⟨rfl,rfl,rfl,trivial⟩,hH.mk b ⟨3,4,true,rfl,fun _=>Ts rfl⟩⟩
 refine au 5<|jS rfl rfl (fun H=>?_) (fun H=>?_)
 ·subst H
  exact au 10 ⟨[_,_,_],⟨rfl,rfl,rfl,trivial⟩,hH.mk b ⟨2,21,true,rfl,fun _=>Ts rfl⟩⟩
 refine au 6<|DL.jq (cs:=(yc.map Value.string).toArray) rfl rfl Tryz.underlying24 Au fun O P f Q R J=>have f:=Sp.mk f;have K:=ja J;have S:=f.size;au 1<|cX (iB yc _ _ Ah K) ?_
 rintro _ T U W ⟨L,rfl,M,_⟩
 exact au 5 ⟨[_,_,_],⟨rfl,rfl,rfl,trivial⟩,hH.mk b.g ⟨2,2,L,rfl,fun h=>Tk ⟨M h,rfl,rfl⟩⟩⟩
section
variable{P:Program}{n:Nat}{e:Env}{w:World}{ops rest:List Oper}{K:Env→World→Prop}{dst:Option Tmp}{ty:TypeId}{pos:String}{af:Array Edge}{g:Option (Nat×Bool)}
theorem D.Y.slice3{x c y:Operand}{t el f b d:Nat}{a:Option Addr}(ht:jT P t el f)(hx:ev e x=.slice a b d)(j:ev e c=.int .i64 (b:Int))(k:ev e y=.int .i64 (b:Int))(l:b≤d):
  Y P e ⟨dst,.slice t x none (some c) (some y),ty,pos,af,g⟩ w (.slice a b b):=by
 obtain⟨m,o⟩:=mL ht
 unfold Y
 have p:(a.map fun x=>x.add 0)=a:=by cases a with
  |none=>rfl
  |some a=>simp[Addr.add]
 simp[execOp,Instr.sliceAt,Instr.slice,run_underlying m,hx,j,k,Instr.sliceBounds,Instr.sliceBound,asIntOf,l,o,p]
theorem oK{b:List ByteArray}{i:Nat}(h:i<b.length):strCells b i=#[.string b[i]]:=by simp[strCells,h]
theorem ni{w:World}{d:Nat}{f:Value}{b:List ByteArray}{j:Nat}(o:j=b.length)(h:w.ownsRow d 9 1 f j (b.map Value.string)):∃a k,f=.slice a b.length k∧hT w (fun c=>d≤c∧c<w.heap.size) a b.length 1 (strCells b)∧b.length≤k:=by
 subst o
 obtain⟨a,l,rfl,hl,hc⟩:=kg h
 refine⟨a,l,rfl,fun i hi=>?_,?_⟩
 ·obtain⟨c,rfl,p,q,r⟩:=hc i hi
  refine⟨c,0,rfl,⟨p,q⟩,fun m hj=>?_,by rw[oK hi];rfl⟩
  rw[oK hi]at hj⊢
  have:m<1:=hj
  obtain rfl:m=0:=by omega
  have h1:=r 0 Ac
  rw[T9,h1]
  simp[hi]
 rcases h.2 with⟨h1,h2⟩|⟨g,l,u,h1,_,_,t,_⟩
 ·omega
 injection h1 with _ _ h2;subst h2;exact t
theorem hT.DA{k:Nat→Prop}{a:Addr}{b:List ByteArray}(h:hT w k (some a) b.length 1 (strCells b)):∀c d,(b.map Value.string)[c]? =some d→w.cell? (a.add c)=some d:=fun c d hj=>by
 have f:c<b.length:=by have:=(UK.1 hj).1;simpa using this
 obtain⟨l,m,h1,h2,j⟩:=h.str f
 cases h1
 rw[kt]
 rw[Vl]at j
 rw[j,←hj];simp[f]
theorem D.DL.ot{s x:Operand}{d r f:Nat}{a j:Option Addr}{c news:List ByteArray}{z O:Nat→Prop}(C:hU ops e g)(D:Nat.blt r n)(ht:lR P d 9 1 16)(hs:ev e s=.slice a c.length c.length)(hx:ev e x=.slice j news.length f)
  (hl:hT w z a c.length 1 (strCells c)) (A:hT w O j news.length 1 (strCells news)) (t:c.length+news.length≤1099511627776)
  (E:∀o p w',Fr [] w w'→hT w' (fun b=>z b∨(w.heap.size≤b∧b<w'.heap.size)) o (c++news).length 1 (strCells (c++news))→(c++news).length≤p→DL P n ops rest (jZ e r (.slice o (c++news).length p)) w' K):
  DL P n ops (⟨some r,.call ⟨.builtin .append,#[s,x],#[d,d]⟩,ty,pos,af,g⟩::rest) e w K:=by
 obtain⟨i,F,q,B,G,H,I,J,L,Z⟩:=kj ht
 have Q:∀u∈news.map Value.string,u.oneCell'=true:=fun u hu=>by obtain⟨aa,_,rfl⟩:=U3.1 hu;rfl
 have M:∀k w',(Builtin.append_ #[d,d] ty #[.slice a c.length c.length,.slice j news.length f]).run P w=.ok k w'→w'.ownsRow w.heap.size 9 1 k (c.length+news.length) (c.map Value.string++news.map Value.string)→Fr [] w w'→DL P n ops (⟨some r,.call ⟨.builtin .append,#[s,x],#[d,d]⟩,ty,pos,af,g⟩::rest) e w K:=fun k w' hrun m R=>by
  rw[←VX]at m
  obtain⟨o,p,rfl,h1,h2⟩:=ni Al m
  exact DL.run C D (v:=.slice o (c++news).length p) B0 (E o p w' R (h1.mono fun b t=>Tk t) h2)
 by_cases h0:news.length=0
 ·have S:news=[]:=Tn h0
  subst S
  have T:Src P i.size d (.slice j 0 f) 0 [] w:=by
   cases j with
   |none=>exact Src.ofNil w q f
   |some y=>exact Src.ofSlice w q y 0 f [] Al (fun ab u hj=>by simp at hj) (fun u hu=>by cases hu)
  have hrun:=run_append_nothing w d d ty 9 i q B a c.length c.length (Tv _) (.slice j 0 f) T
  refine DL.run C D (v:=.slice a c.length c.length) (w':=w) B0 ?_
  have:=E a c.length w (Fr.refl _ _)
  rw[T3]at this
  exact this (hl.mono fun b t=>Ts t) (Tv _)
 cases j with
 |none=>exfalso;obtain⟨b,U,h1,_⟩:=A 0 Ac;cases h1
 |some y=>
  cases a with
  |none=>
   have W:c.length=0:=by
    rcases Ur c.length with h|h
    ·exact h
    obtain⟨b,U,h1,_⟩:=hl 0 h;cases h1
   have X:c=[]:=Tn W
   subst X
   obtain⟨k,w',hrun,m,l,_,_⟩:=run_append_own_at (P:=P) w w.heap.size d ty 9 i F 1 16 q B I G H J L Zl 0 [] (World.ownsRow_nil _ _ _ _) y news.length f (news.map Value.string) Al A.DA Q Bx Ac (Tv _)
   exact M k w' hrun (by simpa using m) (by have:=mo l;simpa[hX,Value.ownBlock]using this)
  |some Y=>
   obtain⟨k,w',hrun,m,l⟩:=run_append_arg_grows (P:=P) w d ty 9 i F 1 16 q B I G H J L Y c.length c.length (c.map Value.string) Al hl.DA y news.length f (news.map Value.string) Al A.DA Ac Bx Ac
   exact M k w' hrun m ⟨l.os,l.tape,l.output,l.size,fun i hi _=>l.block i hi Al⟩
end
end Go.Proofs.YtlojelcoibpphaaGreatDoor
