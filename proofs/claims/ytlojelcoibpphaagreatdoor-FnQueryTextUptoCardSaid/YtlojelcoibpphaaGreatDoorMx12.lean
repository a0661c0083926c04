/- FnQueryText, second form: own texts, joined and made short by a program (part 12): for every argument of bulk at most 1048576 the law answers true. -/
import Derived.Test.YtlojelcoibpphaaGreatDoorMx01
import Derived.Test.YtlojelcoibpphaaGreatDoorMx03
import Derived.Test.YtlojelcoibpphaaGreatDoorMx02
import Derived.Test.YtlojelcoibpphaaGreatDoorMx11
import Derived.Test.YtlojelcoibpphaaGreatDoorMx05
import Derived.Test.YtlojelcoibpphaaGreatDoorMx09
set_option maxRecDepth 100000
set_option maxHeartbeats 2000000
set_option linter.unusedVariables false
set_option linter.unusedSimpArgs false
set_option linter.unusedSectionVars false
set_option linter.defProp false
namespace Go.Proofs.YtlojelcoibpphaaGreatDoor
open Go Go.RowKit D Go.Deep Go.Proofs
variable{L M:List UInt8}{m k nA:Nat}{w W:World}{t sA sB:ByteArray}{D:Nat→Prop}{c:Array Value}{q p:N}{Q:List N}{v u:Value}{S:List ByteArray}{lJ:List (List UInt8)}{bA bB:Bool}{gA gB:List G}{gH:G}{vH:V}
theorem E9.pat{a:G}{ps:List G}(b:ps.length≤1125899906842624)(hl:ps.length=lJ.length)(c:∀(i:Nat)(h1:i<ps.length)(h2:i<lJ.length),Pr 3 ps[i] lJ[i])(d:Pr 0 a L)(f:Pr 0 gH M):E9 nP (.p a) (.p gH) (.l ps) (.v (.int .i64 1)) (L++[32]++iR true lJ++[124,32]++M):=
 fun k l g j=>Pr.qP g j b hl c d f
theorem pb:∀ps:List Value,hS (ps.map fun b=>#[b])=ps
 |[]=>rfl
 |b::c=>by have:=pb c;simp only[hS]at this;simp[hS,this]
theorem jV.set:∀{c:List Fd}{b:List Value}(i:Nat){f:Fd}{v:Value},jV w D c b→HF w D f v→jV w D (c.set i f) (b.set i v)
 |[],b,i,f,v,h,_=>by unfold jV at h;subst h;exact .nil
 |g::c,b,0,f,v,h,d=>by
  unfold jV at h;obtain⟨j,k,rfl,h1,h2⟩:=h;exact .cons d h2
 |g::c,b,i+1,f,v,h,d=>by
  unfold jV at h;obtain⟨j,k,rfl,h1,h2⟩:=h;exact .cons h1 (jV.set i h2 d)
theorem HR.set{b:List Fd}{f:Fd}{v:Value}(h:HR w D (.mk b) c)(i:Nat)(d:HF w D f v):HR w D (.mk (b.set i f)) (c.setIfInBounds i v):=by
 unfold HR
 rw[VR]
 exact jV.set i h.Ko d
theorem js.KD{ps:List Value}{a:Option Addr}(h:js w D nA m k gB v ps)(J:k≤w.heap.size)(K:m≤k)(hD0:∀f,D f→f<m)(hL:HL w D a 0 gA)(g:Fr (hX v) w W)(l:W.ownsRow m nA 1 u (gB.length+gA.length) (hS (ps.map (fun o=>#[o])++(List.range gA.length).map (ld w a))))(B:u.ownBlock=v.ownBlock∨u.ownBlock=some w.heap.size):
  ∃C,js W D nA m W.heap.size (gB++gA) u C:=by
 have L:=g.size
 have E:∀b,b<w.heap.size→v.ownBlock≠some b→u.ownBlock≠some b:=fun b c F=>by
  rcases B with h1|h1
  ·rw[h1];exact F
  rw[h1];intro h2;cases h2;omega
 have hge:∀b,b∈hX v→m≤b∧b<k:=fun b c=>⟨(ik h.own b c).1,h.lt b (hF.1 c)⟩
 have p:=hL.zb.2
 have q:∀i,i<gA.length→(ld w a i).size=1:=fun i hi=>by obtain⟨r,h1,_⟩:=p i hi;rw[h1];rfl
 have hfl:hS (ps.map (fun o=>#[o])++(List.range gA.length).map (ld w a))=ps++hS ((List.range gA.length).map (ld w a)):=by
  have:=pb ps
  simp only[hS]at this
  simp only[hS,List.flatMap_append,this]
 have t:(hS ((List.range gA.length).map (ld w a))).length=gA.length:=by
  rw[ju (sz:=1) (fun f hc=>by obtain⟨i,hi,rfl⟩:=U3.1 hc;exact q i (UH.1 hi))];simp
 rw[hfl]at l
 refine⟨_,by simpa using l,fun b c=>(ik l b (hF.2 c)).2,by simp[h.len,t],fun i h1 h2=>?_⟩
 by_cases hi:i<gB.length
 ·have y:i<ps.length:=by rw[h.len];exact hi
  rw[TC hi,TC y]
  refine((h.el i y hi).fr g (fun b c d=>?_)).up (fun b c=>?_)
  ·have:=hge b d
   rcases c with c|c
   ·have:=hD0 b c;omega
   exact c.2.2 (hF.1 d)
  rcases c with c|c
  ·exact Ts c
  exact Tk ⟨c.1,Ac,E b Ac c.2.2⟩
 have hj:i - gB.length<gA.length:=by simp only[Tl]at h2;omega
 have hlen:=h.len
 rw[Tz Ac,Tz Ac]
 obtain⟨r,H,I⟩:=p _ hj
 have z:=jL (cl:=ld w a) (j:=0) q hj Ah
 rw[H,Vl,Va]at z
 have A:(hS ((List.range gA.length).map (ld w a)))[i - ps.length]? =some r:=by rw[hlen,z];rfl
 rw[TP (by rw[t,hlen];exact hj)]at A
 rw[Up A]
 exact(I.fr g (fun b c d=>by have:=hge b d;have:=hD0 b c;omega)).up (fun b c=>Ts c)
theorem uO:∀b:List (List UInt8),b.length≤(b.map (· ++[32])).flatten.length
 |[]=>Tv _
 |d::c=>by have:=uO c;simp only[T8,Vi,Tl,To,Tw];omega
theorem yz(h:t.data.toList=36::L)(d:jI L):2≤t.size∧t.data.toList[0]? =some 36∧jI ((t.extract ((1:Int).toNat) t.size).data.toList)=true:=by
 have hs:=hK t
 obtain⟨b,c,rfl⟩:∃b c,L=b::c:=by cases L with|nil=>cases d|cons b c=>exact⟨b,c,rfl⟩
 rw[h]at hs
 refine⟨by rw[hs];simp,by rw[h];rfl,?_⟩
 have:(t.extract ((1:Int).toNat) t.size).data.toList=b::c:=by
  rw[UI,UQ,h]
  simp[List.extract,hs]
 rw[this];exact d
def PT(d:N)(u:List UInt8):Prop:=∃(s:ByteArray)(ps:List ByteArray)(k:N)(t:List UInt8),d=.mk ⟨#[]⟩ s V0 ps [k] [] []∧jI s.data.toList=true∧(∀p∈ps,uZ p)∧CQ k t∧u=[100,101,102,32]++s.data.toList++oj ps++[58,32]++t++[59]
theorem Gg{s:ByteArray}{ps:List ByteArray}(h:RN w D 2 (.mk ⟨#[]⟩ s V0 ps [q] [] []) c):∃b y f g j k l m o p r t u v,c=#[.string s,.slice b ps.length y,f,g,j,k,l,m,o,p,r,t,u,v]∧s.size≤140737488351232∧ps.length≤140737488351232∧(∀z∈ps,z.size≤140737488351232)∧hT w D b ps.length 1 (strCells ps)∧RN w D 0 q #[f,g,j,k,l,m,o,p,r,t,u,v]:=by
 cases h with
 |d ht A B C E=>exact⟨_,_,_,_,_,_,_,_,_,_,_,_,_,_,rfl,ht,A,B,C,E⟩
theorem yM(A:CQ q L)(B:CQ p M)(ay:0<Q.length)(hl:Q.length=lJ.length)(C:K1 Q lJ):KO 36 (.mk Cy ⟨#[]⟩ V0 [] [q,p] Q []) (bx q L++[32]++iR true lJ++[124,32]++M):=by
 intro D g az d hD0 k hw
 obtain⟨a0,a1,a2,a3,a4,a5,a6,a7,a8,a9,aA,aB,aC,aD,rfl⟩:=d.hI
 obtain⟨aE,aF,aG,aH,aI,aJ⟩:=d.hV
 obtain⟨aK,aL,aM,E,aN,G,H,I⟩:=d.kF (i:=0) Al
 cases E
 have J:N.wt q≤1048576:=by simp only[N.wt,N.h9]at hw;omega
 obtain⟨aO,aP,aQ,K,aR,O,P,R⟩:=d.kF (i:=1) Al
 cases K
 have S:N.wt p≤1048576:=by simp only[N.wt,N.h9]at hw;omega
 have T:=kZ A
 obtain⟨U,W,X⟩:=d.wj
 have Y:N.h9 Q≤1048576:=by simp only[N.wt]at hw;omega
 have hlen:=N.iw Q
 refine cY Tryz.func36 fun b=>ac 2<|bX rfl fun aS Z aT aU aV f=>au 7<|lD f rfl rfl<|au 4<|lD f rfl rfl<|au 1<|iF Ac rfl rfl<|au 7<|lD f rfl rfl<|iX F.iI Al rfl rfl rfl<|lA (G.fr b.g Al) H rfl ?_
 obtain⟨aW,l⟩:=nm Z
 have aX:=b.g.le l
 refine cX (T _ g _ (I.fr b.g Az) (fun c hc=>Tj (hD0 c hc) b.g.size) (k.at b.g) J) ?_
 rintro _ o aY aZ ⟨aa,rfl,ab,ba,r,ad⟩
 obtain⟨ae,af,bb⟩:=nl o
 rw[←l,←af]at r
 rw[←l]at ab
 refine au 9<|lD (Gb f) rfl rfl<|iX F.iI Al rfl rfl rfl<|lA (O.fr b.g Al) P rfl ?_
 obtain⟨ag,j⟩:=nm o
 have bc:=b.g.le j
 have bd:ae≤ag:=by rw[j];exact Ac
 refine cX (B _ g _ (R.fr b.g Az) (fun c hc=>Tj (hD0 c hc) b.g.size) (k.at b.g) S) ?_
 rintro _ t be bf ⟨ah,rfl,u,ai,aj⟩
 obtain⟨bg,v,ak⟩:=aj.hf (Tk ⟨u,ai⟩)
 obtain⟨al,am,bh⟩:=nl t
 rw[←j,←am]at v
 rw[←j]at u
 refine au 9<|lD (Gb f) rfl rfl ?_
 obtain⟨an,m⟩:=nm t
 have bi:=b.g.le m
 have bj:al≤an:=by rw[m];exact Ac
 refine cX (C _ g _ _ U (W.fr b.g Az) (fun i h=>(X i h).fr b.g Az) (fun c hc=>Tj (hD0 c hc) b.g.size) (k.at b.g) Y) ?_
 rintro _ ao bk bl ⟨ap,aq,bm,rfl,hgz,w,ar⟩
 obtain⟨bn,av,bo⟩:=nl ao
 rw[←m,←av]at w
 refine au 11<|bD #[Zp,Zl,Zl,Zp,Pt aa,Pt ah,.slice ap Q.length aq,.int .i64 1]<|bX rfl fun y z bp bq br aw=>au 11 ?_
 have ax:Qy z (fun c=>Dm g D.heap.size z.heap.size c∧c≠y) (.mk Cy ⟨#[]⟩ V0 [] [q,p] Q []) (bx q L++[32]++iR true lJ++[124,32]++M) y:=
  ⟨_,aw,⟨[],_,_,_,_,_,[],_,HR.c (.cons .vv (.cons .vv (.cons .l0 (.cons .vv (.cons (r.g.up (Dm.y7 hD0 Ac Ac Ac Ac)) (.cons (v.g.up (Dm.y7 hD0 Ac Ac Ac Ac)) (.cons (by rw[←hgz];exact .lh (w.g.up (Dm.y7 hD0 Ac Ac Ac Ac))) (.cons .vv .nil)))))))),rfl,fun i h=>by simp at h,E9.pat Ac Ac ar ad ak,by simp⟩,fun h=>Tu h (by rw[sV (n:=(.mk Cy ⟨#[]⟩ V0 [] [q,p] Q [])) (show nL.any (fun x=>decide ((Cy:ByteArray)=x))=false by decide) (show(Cy:ByteArray)≠iL by decide)];decide)⟩
 exact hD.ia rfl rfl (hH.mk b.g ⟨_,rfl,Ac,Ac,ax⟩)
set_option maxHeartbeats 1000000 in
theorem tG(ck:0<Q.length)(hl:Q.length=lJ.length)(l:∀(i:Nat)(h1:i<Q.length)(h2:i<lJ.length),PT Q[i] lJ[i])(aP:CQ q L)(aQ:L.length≤1099511627776):KO 37 (.mk Cs ⟨#[]⟩ V0 [] [q] [] Q) ((lJ.map (· ++[32])).flatten++L):=by
 intro J C aR U hD0 ay hw
 obtain⟨cl,cm,cn,co,cp,cq,aS,ad,cr,cs,ct,cu,cv,cw,rfl⟩:=U.hI
 obtain⟨cx,cy,cz,c0,c1,c2⟩:=U.hV
 obtain⟨c3,c4,c5,aT,c6,aU,aV,aW⟩:=U.kF (i:=0) Al
 cases aT
 have aX:N.wt q≤1048576:=by simp only[N.wt,N.h9]at hw;omega
 have c7:N.h9 Q≤1048576:=by simp only[N.wt]at hw;omega
 have hlen:=N.iw Q
 refine cY Tryz.func37 fun c=>ac 2<|bX rfl fun c8 aY aZ c9 cA K=>have c:=c.jP aZ.f;au 7<|lD K rfl rfl<|au 4<|lD K rfl rfl<|au 1<|iF Ac rfl rfl<|au 7<|lD K rfl rfl<|iX F.iI Al rfl rfl rfl<|lA (aU.fr c Al) aV rfl ?_
 obtain⟨cB,ae⟩:=nm aY
 have cC:=c.le ae
 refine cX (aP _ C _ (aW.fr c Az) (fun b hc=>Tj (hD0 b hc) c.size) (ay.at c) aX) ?_
 rintro _ af az cD ⟨t,rfl,ba,bb,W⟩
 have c:=c.jP az.f
 have K:=az.il K
 obtain⟨bc,a0,cE⟩:=nl af
 rw[←ae,←a0]at W
 rw[←ae]at ba
 rw[←a0]at bb
 refine au 22<|lD K rfl rfl<|au 4 ?_
 obtain⟨r,a1,bd⟩:=nl af
 have cF:=c.le a1
 have cG:bc≤r:=by rw[a1];exact Ac
 have z:∀b,(fun b=>Dm C J.heap.size r b∧b≠t) b→b<r:=fun b hc=>by replace hc:=hc.1;rcases hc with hc|hc;(have:=hD0 _ hc;omega);exact hc.2
 refine lE [] af (σ:=Nat×List G×Value×List Value×Nat) [(2,3),(6,6),(8,10),(12,12),(36,91)] [(4,Pt t),(34,.slice aS Q.length ad),(35,.int .i64 (Q.length:Int))] (fun(i,j,u,ps,A)=>[(36,.int .i64 (i:Int)),(6,u)]) (fun(i,j,u,ps,A) ag=>i≤Q.length∧j.length=i∧js ag (fun b=>Dm C J.heap.size r b∧b≠t) 108 r A j u ps∧r≤A∧A≤ag.heap.size∧(∀(k:Nat)(h1:k<j.length)(h2:k<lJ.length),Pr 2 j[k] lJ[k])) (fun(i,j,u,ps,A)=>Q.length - i) ((0,[],Zl,[],r)) ?_ ?_
 ·exact⟨Fr.refl _ _,TE _,rfl,js.nil _ _ _ _ _,Tv _,bd,fun k h=>by simp at h⟩
 rintro a2 ⟨i,j,u,ps,A⟩ k be ⟨X,cH,a3,g,ah,aj,a4⟩
 have c:=c.jP X
 have cI:=X.size
 have W:=W.fr X (by first|(intro b hc;simp;done)|(intro b hc;exact Dm.mZ hD0 Ac Ac b hc.1)) Bj
 have B:=X
 have cJ:=Fr.refl [] be
 refine ac 2<|jX rfl rfl (fun bf=>?_) (fun bf=>?_)
 ·have hi:i<Q.length:=by omega
  have hit:i<lJ.length:=by omega
  obtain⟨a5,a6,cK,bg,cL,bh,a7,ak⟩:=U.NJ (i:=i) hi
  subst bg
  obtain⟨s,m,bi,cM,bj,hs,bk,bl,bm⟩:=l i hi hit
  have a8:=N.iP (l:=Q) hi
  rw[bj]at ak a8
  obtain⟨aA,aB,bn,bo,bp,bq,br,bs,bt,bu,bv,bw,bx,bz,rfl,cN,cO,b0,aC,b1⟩:=Gg ak
  have b2:N.wt bi≤1048576:=by simp only[N.wt,N.h9]at a8;omega
  refine au 8<|iX F.s9 (hi) rfl rfl rfl<|lA (bh.fr c Al) a7 rfl<|al F.NT rfl fun aD cP am cQ cR o=>have g:=g.fr am.f (by intro D d;first|(simp at d;done)|(simp only[Tt]at d;subst d;exact⟨fun l=>by have:=z _ l;omega,by first|(left;omega)|(right;omega)⟩));sA o rfl rfl rfl a7 ak.one fun b3 an cS o=>have c:=(c.jP am.f).oR an.f Ac;have B:=(B.jP am.f).oR an.f Ac;have g:=g.fr an.f (by intro D d;first|(simp at d;done)|(simp only[Tt]at d;subst d;exact⟨fun l=>by have:=z _ l;omega,by first|(left;omega)|(right;omega)⟩));au 4<|DL.y rfl rfl (Y.qW (sub:=#[bn,bo,bp,bq,br,bs,bt,bu,bv,bw,bx,bz]) rfl o rfl F.hN) ?_
  obtain⟨cT,ao⟩:=nm b3
  have cU:=c.le ao
  refine cX (bl _ C _ (b1.fr c Az) (fun b hc=>Tj (hD0 b hc) c.size) (ay.at c) b2) ?_
  rintro _ b4 Z cV ⟨ap,rfl,aE,b5,b6⟩
  have g:=g.fr Z.f (by intro D d;first|(simp at d;done)|(simp only[Tt]at d;subst d;exact⟨fun l=>by have:=z _ l;omega,by first|(left;omega)|(right;omega)⟩))
  have o:=Z.il o
  obtain⟨b7,w,aF⟩:=b6.hf (Tk ⟨aE,b5⟩)
  obtain⟨cW,b8,cZ⟩:=nl b4
  rw[←ao,←b8]at w
  rw[←ao]at aE
  refine au 13<|lD o rfl rfl<|cX (ig _ Ac _) ?_
  rintro _ b9 S da rfl
  have c:=(c.jP Z.f).jP S.f
  have B:=(B.jP Z.f).jP S.f
  have g:=g.fr S.f (by intro D d;first|(simp at d;done)|(simp only[Tt]at d;subst d;exact⟨fun l=>by have:=z _ l;omega,by first|(left;omega)|(right;omega)⟩))
  have o:=S.il o
  have w:=w.fr S.f Ba
  rw[hs]
  refine au 5<|DC.forget [(4,Pt t),(6,u),(8,Pt aD),(9,Pt ap),(34,.slice (some ⟨a5,a6,none⟩) Q.length ad),(35,.int .i64 (Q.length:Int)),(36,.int .i64 (i:Int))] ⟨rfl,rfl,rfl,rfl,rfl,rfl,rfl⟩ (fun a2=>?_)
  refine ac 4<|lD o rfl rfl<|au 4<|lE [] b9 (σ:=Nat) [(2,3),(12,12),(57,80)] [(4,Pt t),(6,u),(8,Pt aD),(9,Pt ap),(34,.slice (some ⟨a5,a6,none⟩) Q.length ad),(35,.int .i64 (Q.length:Int)),(36,.int .i64 (i:Int)),(55,.slice aA m.length aB),(56,.int .i64 (m.length:Int))] (fun k=>[(57,.int .i64 (k:Int))]) (fun k ag=>k≤m.length) (fun k=>m.length - k) (0) ?_ ?_
  ·exact⟨Fr.refl _ _,TE _⟩
  rintro a2 y k bA ⟨E,db⟩
  have c:=c.jP E
  have B:=B.jP E
  have dc:=E.size
  have g:=g.fr E (by intro D d;first|(simp at d;done)|(simp only[Tt]at d;subst d;exact⟨fun l=>by have:=z _ l;omega,by first|(left;omega)|(right;omega)⟩))
  have o:=E.il o
  have w:=w.fr E Ba
  have M:=E
  have dd:=Fr.refl [] bA
  refine ac 2<|jX rfl rfl (fun bB=>?_) (fun bB=>?_)
  ·have hj:y<m.length:=by omega
   have de:=b0 _ (T2 hj)
   obtain⟨df,dg,bC,dh,bE⟩:=aC.str hj
   subst bC
   refine au 8<|iX F.ku (hj) rfl rfl rfl<|lC (c.cell bE Al) rfl<|au 5<|cX (ig _ Ac _) ?_
   rintro _ di aG _ rfl
   have M:=M.jP aG.f
   have dj:=aG.size
   cases hb62:jI m[y].data.toList
   ·obtain⟨a9,bF,bG⟩:=(bk _ (T2 hj)).resolve_left (by rw[hb62];decide)
    obtain⟨dk,bH,bI⟩:=yz bF bG
    refine au 4<|DL.y rfl rfl (Y.xz (c:=false) rfl rfl (Ti Ac))<|au 2<|DL.y rfl rfl (Y.ma (i:=0) (b:=36) Tryz.underlying9 rfl rfl rfl bH)<|DL.y rfl rfl (Y.yL (c:=false) rfl rfl (rfl))<|au 3<|DL.y rfl rfl (Y.vw (l:=1) Tryz.underlying9 rfl rfl Ah Ac)<|cX (ig _ (by rw[ByteArray.size_extract];omega) _) ?_
    rintro _ dl aH _ rfl
    have M:=M.jP aH.f
    have dm:=aH.size
    rw[bI]
    exact au 7<|ai ((y+1:Nat):Int) rfl rfl<|au 2 ⟨y+1,⟨M,hj⟩,by show m.length - (y+1)<m.length - y;omega,rfl⟩
   exact au 21<|ai ((y+1:Nat):Int) rfl rfl<|au 2 ⟨y+1,⟨M,hj⟩,by show m.length - (y+1)<m.length - y;omega,rfl⟩
  refine au 4<|ac 3<|lD o rfl rfl<|au 1<|lD o rfl rfl<|au 1<|bD #[.string s,.slice aA m.length aB,Pt ap]<|bX rfl fun aI dn aa dp dq aq=>have g:=g.fr aa.f (by intro D d;first|(simp at d;done)|(simp only[Tt]at d;subst d;exact⟨fun l=>by have:=z _ l;omega,by first|(left;omega)|(right;omega)⟩));have w:=w.fr aa.f Ba;DL.iu (cs:=#[Pt aI]) rfl rfl (F.E7) rfl rfl rfl ?_
  intro dr aJ O ds dt bJ
  have c:=(c.jP aa.f).jP O
  have du:=O.size
  have g:=g.fr O (by intro D d;first|(simp at d;done)|(simp only[Tt]at d;subst d;exact⟨fun l=>by have:=z _ l;omega,by first|(left;omega)|(right;omega)⟩))
  have w:=w.fr O Ba
  have aq:=O.il aq
  have bK:HF aJ (fun b=>(fun b=>Dm C J.heap.size r b∧b≠t) b∨(A≤b∧b<aJ.heap.size)) (.p (.mk [.v (.string s),.s m,.p b7])) (Pt aI):=
   HF.ph (Tk ⟨Ac,Ac⟩) aq (HR.c (.cons .vv (.cons (.sh ((aC.fr c Al).mono (fun b hc=>Ts ⟨Ts hc,fun e=>by have:=hD0 _ hc;omega⟩))) (.cons (w.up (fun b hc=>by rcases hc with hc|hc;exact Ts ⟨Ts hc,fun e=>by have:=hD0 _ hc;omega⟩;exact Tk ⟨Ac,Ac⟩)) .nil))))
  refine DL.hJ rfl rfl F.E7 rfl rfl g.own (hB.hE bJ) rfl AQ Ac Ac Ac ?_
  intro dv aK ar bL bM
  have bN:A≤aK.heap.size:=by have:=ar.size;omega
  have hlo':∀x∈hX u,r≤x:=fun x p=>(ik g.own x p).1
  have dw:∀x∈hX u,x<A:=fun x p=>g.lt x (hF.1 p)
  have g:=g.snoc Ac ah (fun b hc=>by have:=z b hc;omega) bK ar bL bM
  have B:=((B.jP aa.f).jP O).put ar (fun x hx=>Tk A9)
  clear aj
  have aj:=Tv aK.heap.size
  refine au 3<|ai ((i+1:Nat):Int) rfl rfl<|au 2 ?_
  refine⟨(i+1,_,_,_,_),⟨B,hi,by simp[a3],g,Tq ah bN,Ac,fun k h1 h2=>?_⟩,by show Q.length - (i+1)<Q.length - i;omega,⟨rfl,rfl⟩⟩
  by_cases hj:k<j.length
  ·rw[TC hj];exact a4 k hj h2
  have bO:k=j.length:=by simp only[Tl,TG]at h1;omega
  subst bO
  rw[Tz (Tv _)]
  simp only[UF,TF]
  simp only[a3,bm]
  by_cases h0:m=[]
  ·subst h0;have:=Pr.PQ (s:=s) aF;simpa[oj]using this
  have:=Pr.Ql (s:=s) (UJ.2 h0) Ac aF;rw[oj,TI h0];simpa using this
 have dx:i=Q.length:=by omega
 refine au 4<|ac 7 ?_
 obtain⟨bP,P,⟨H,bQ,bR,bS,bT,bU,R,bV,I,dy,bW,bY,aL⟩,_⟩:=W
 have bZ:bP.size=8:=I.size
 obtain⟨dz,d0,ca,ab⟩:=I.l 2 (gs:=H) rfl
 have ab:=ab.up (D':=(fun b=>Dm C J.heap.size r b∧b≠t)) (fun b hc=>⟨Dm.mono Ac Ac b hc.1,hc.2⟩)
 have d1:R.length≤1099511627776:=by have:=uO R;rw[aL,Tl]at aQ;omega
 refine lD P rfl ca<|DL.nD (css:=ps.map (fun cb=>#[cb])) rfl rfl F.E7 rfl rfl (by rw[pb];exact g.own) ab.zb.1 Ac Ac Ac ?_
 intro d2 aM T cc cd
 have hlo':∀x∈hX u,r≤x:=fun x p=>(ik g.own x p).1
 obtain⟨d4,aN⟩:=g.KD aj ah z ab T cc cd
 clear g
 have c:=c.put T (fun x hx=>Tk A9)
 have P:=T.hO P (fun p=>by have:=hlo' _ p;omega)
 have I:=I.fr T (fun b hc p=>by have:=hlo' _ p;replace hc:=hc.1;rcases hc with hc|hc;(have:=hD0 _ hc;omega);omega)
 have d5:r≤aM.heap.size:=by have:=T.size;omega
 obtain⟨d6,ce,d7⟩:=nl aM
 rw[←ce]at aN
 obtain⟨cf,cg,rfl,av⟩:=aN.done
 have d8:(j++H).length=Q.length+R.length:=by rw[Tl];omega
 refine au 2<|sc P rfl rfl rfl (by rw[bZ];rfl) fun aw ax d9 P=>have c:=c.oR ax.f Ac;have I:=I.fr ax.f (by intro b hc p;rcases Tt.1 p with rfl;exact hc.2 rfl);have av:=av.fr ax.f (by intro b hc p;rcases Tt.1 p with rfl;rcases hc with hc|hc;exact hc.2 rfl;omega);au 8 ?_
 have ch:(j++H).length=(lJ++R).length:=by simp only[Tl];omega
 have ci:=(I.up (D':=fun b=>Dm C J.heap.size aw.heap.size b∧b≠t) (fun b hc=>⟨Dm.mono Ac Ac b hc.1,hc.2⟩)).set 2 (f:=.l (j++H)) (v:=.slice cf (j++H).length cg) (.lh (av.up (fun b hc=>by rcases hc with hc|hc;exact⟨Dm.mono Ac Ac b hc.1,hc.2⟩;exact⟨Tk ⟨Ac,Ac⟩,Ac⟩)))
 have cj:Qy aw (fun b=>Dm C J.heap.size aw.heap.size b∧b≠t) (.mk Cs ⟨#[]⟩ V0 [] [q] [] Q) ((lJ.map (· ++[32])).flatten++L) t:=by
  refine⟨_,P,⟨j++H,bQ,bR,bS,bT,bU,lJ++R,bV,ci,ch,fun i h1 h2=>?_,bY,by rw[aL];simp⟩,fun h=>Tu h (by rw[sV (n:=(.mk Cs ⟨#[]⟩ V0 [] [q] [] Q)) (show nL.any (fun x=>decide ((Cs:ByteArray)=x))=false by decide) (show(Cs:ByteArray)≠iL by decide)];decide)⟩
  by_cases hi:i<j.length
  ·have aO:i<lJ.length:=by omega
   rw[TC hi,TC aO];exact a4 i hi aO
  have dA:i - j.length<H.length:=by simp only[Tl]at h1;omega
  have dB:i - lJ.length<R.length:=by omega
  rw[Tz Ac,Tz Ac]
  have:=bW (i - j.length) Ac Ac
  simpa only[show i - j.length=i - lJ.length by omega]using this
 exact rZ c ⟨_,rfl,Ac,Ac,cj⟩
theorem Ln{D':Nat→Prop}{x:G}{s:List UInt8}(h:Sx w D m k x bA s)(b:∀c,D c→D' c):HF w D' (.p (.mk [.p x,.v (.bool false),.v (.bool false)])) (Pt m):=
 .ph (b _ h.1) h.2.1 (HR.c (.cons (h.2.2.1.up b) (.cons .vv (.cons .vv .nil))))
theorem Io{D':Nat→Prop}{s:List UInt8}(h:Sy w D m bA bB s)(c:∀b,D b→D' b):HF w D' (.p (.mk [nP,.v (.bool bA),.v (.bool bB)])) (Pt m):=
 .ph (c _ h.1) h.2.1 (HR.c (.cons .vv (.cons .vv (.cons .vv .nil))))
theorem y1{ks:List N}{s:List UInt8}(w:Lm t ks q L)(o:t≠iL)(y:t≠jn)(z:Ft (.mk t sA V0 [] (q::ks) [] []) bA s)(A:iz q=CE):km 70 (.mk t sA V0 [] (q::ks) [] []) (46::s) (kr (.mk t sA V0 [] (q::ks) [] [])):=by
 intro j f U c hD0 p hw
 obtain⟨W,X,Y,Z,aa,ab,ad,ae,af,ag,ah,ai,aj,ak,rfl⟩:=c.hI
 obtain⟨al,am,an,ao,ap,aq⟩:=c.hV
 obtain⟨ar,av,B,C,aw,E,ax,k⟩:=c.kF (i:=0) Al
 cases C
 have k:RN j f 0 q B:=k
 have G:N.wt q≤1048576:=by simp only[N.wt,N.h9]at hw;omega
 have H:=lb k
 refine cY Tryz.func70 fun b=>ac 2<|bX rfl fun ay I az a0 a1 g=>au 7<|lD g rfl rfl<|au 1<|iF AM rfl rfl<|au 5<|lw g rfl rfl ?_
 obtain⟨a2,r⟩:=nm I
 have a3:=b.g.le r
 refine cX (z _ f _ (c.fr b.g Az) (fun l hc=>Tj (hD0 l hc) b.g.size) (p.at b.g) hw) ?_
 rintro _ u a4 a5 ⟨a6,J,a7,rfl,d⟩
 obtain⟨K,M,a8⟩:=nl u
 rw[←r,←M]at d
 refine au 8<|lw (Gb g) rfl rfl ?_
 obtain⟨O,m⟩:=nm u
 have a9:=b.g.le m
 have aA:K≤O:=by rw[m];exact Ac
 refine cX (w _ f _ _ (c.fr b.g Az) (fun l hc=>Tj (hD0 l hc) b.g.size) (p.at b.g) G) ?_
 rintro _ P aB aC ⟨aD,rfl,Q⟩
 obtain⟨aE,R,aF⟩:=nl P
 rw[←m,←R]at Q
 refine au 22<|lD (Gb g) rfl rfl<|iX F.iI Al rfl rfl rfl<|au 1<|lC (jv (E.fr b.g Al) H) rfl<|sT A rfl rfl<|au 4<|lD d.g.2.1 rfl rfl<|au 9<|lD d.g.2.1 rfl rfl<|bD #[.int .i64 6,Pt J,Zp,Zp,Zp,Zs,Zp,Zs,Zp,Zp,Zp,Zp,Zp,Zp,Zs,Zp,Zl]<|bX rfl fun aG v aH aI aJ S=>au 4 ?_
 have T:=J0 (w:=v) (D:=Dm f j.heap.size v.heap.size) (Tk ⟨Ac,Ac⟩) S (d.g.2.2.1.up (Dm.mono Ac Ac)) d.g.2.2.2.1 Al
 exact hD.ia rfl rfl (hH.mk b.g ⟨_,rfl,trivial,T.up (fun _ h=>h) (fun aK aL hc=>⟨fun h=>Tu h o,fun h=>Tu h o,fun h=>Tu h y⟩)⟩)
theorem Kn{ks:List N}{s:List UInt8}(a4:Lm t ks q L)(af:t≠iL)(a5:t≠jn)(a6:Ft (.mk t sB V0 [] (q::ks) [] []) bA s)(S:¬iz q=CE)(ht:L.length≤1099511627776)(hu:(if bA then 46::s else s)≠[]):km 70 (.mk t sB V0 [] (q::ks) [] []) (ib L (bA,if bA then 46::s else s)) (kr (.mk t sB V0 [] (q::ks) [] [])):=by
 intro v r a7 J hD0 ag hw
 obtain⟨bi,bj,bk,bl,bm,bn,bo,bp,bq,br,bs,bt,bu,bv,rfl⟩:=J.hI
 obtain⟨bw,bx,bz,b0,b1,b2⟩:=J.hV
 obtain⟨b3,b4,a8,a9,b5,aA,b6,T⟩:=J.kF (i:=0) Al
 cases a9
 have T:RN v r 0 q a8:=T
 have aB:N.wt q≤1048576:=by simp only[N.wt,N.h9]at hw;omega
 have aC:=lb T
 refine cY Tryz.func70 fun d=>ac 2<|bX rfl fun b7 aD aE b8 b9 k=>have d:=d.jP aE.f;au 7<|lD k rfl rfl<|au 1<|iF AM rfl rfl<|au 5<|lw k rfl rfl ?_
 obtain⟨aF,ah⟩:=nm aD
 have aG:=d.le ah
 refine cX (a6 _ r _ (J.fr d Az) (fun b hc=>Tj (hD0 b hc) d.size) (ag.at d) hw) ?_
 rintro _ ai aj bB ⟨aH,bC,bD,rfl,f⟩
 have d:=d.jP aj.f
 have k:=aj.il k
 obtain⟨ak,aI,bE⟩:=nl ai
 rw[←ah,←aI]at f
 refine au 8<|lw k rfl rfl ?_
 obtain⟨aJ,U⟩:=nm ai
 have bF:=d.le U
 have bG:ak≤aJ:=by rw[U];exact Ac
 refine cX (a4 _ r _ _ (J.fr d Az) (fun b hc=>Tj (hD0 b hc) d.size) (ag.at d) aB) ?_
 rintro _ aK W bH ⟨bI,rfl,am⟩
 have d:=d.jP W.f
 have k:=W.il k
 have f:=f.fr W.f Ba
 obtain⟨aL,aM,bJ⟩:=nl aK
 rw[←U,←aM]at am
 refine au 22<|lD k rfl rfl<|iX F.iI Al rfl rfl rfl<|au 1<|lC (jv (aA.fr d Al) aC) rfl<|sX S rfl rfl<|au 14 ?_
 obtain⟨X,an,o,aN,aO,aP,D,g,hfl,aQ,aR,Y,bK⟩:=am
 have Z:aN.size=17:=by have:=g.size;rw[this];simp[hfl]
 obtain⟨P,bL,aS,p⟩:=g.l 16 (gs:=o) (by rw[Uy Ac,hfl];rfl)
 have bM:v.heap.size≤aF:=aG
 refine lw D rfl Z<|al F.KA rfl fun E bN G bO bP u=>have f:=f.fr G.f Ba;have g:=g.fr G.f Ba;have p:=p.fr G.f Ba;sA u rfl rfl rfl Z (g.zK Y) fun aT H bQ u=>have d:=(d.jP G.f).oR H.f Ac;have k:=H.jK (G.il k) Ac;have f:=f.fr H.f Ba;have D:=H.hO (G.hO D (by first|(simp;done)|(exact Dm.mZ hD0 Ac Ac _ X))) (by first|(simp;done)|(exact Dm.mZ hD0 Ac Ac _ X));have g:=g.fr H.f Ba;have p:=p.fr H.f Ba;au 3 ?_
 obtain⟨l,K⟩:=nm aT
 have bR:E<l:=by rw[K];exact Ac
 have bS:ak≤l:=by rw[K];exact Ac
 have bT:aL≤l:=by rw[K];exact Ac
 have bU:=d.le K
 refine DL.qV rfl rfl Tryz.underlying123 Au ?_
 intro aU M w aV bV aW
 rw[←K]at aV
 have bW:=w.size
 have f:=f.fr w Ba
 have D:=w.hO D (by first|(simp;done)|(exact Dm.mZ hD0 Ac Ac _ X))
 have g:=g.fr w Ba
 have p:=p.fr w Ba
 have Q:l≤M.heap.size:=Nat.le_of_lt (VS Ac Ac)
 refine au 3<|lD D rfl (by rw[T9];exact aS) ?_
 have bY:=Y.O2
 have ao:=p.zb
 refine DL.nD (css:=[]) rfl rfl F.oB rfl rfl (o0 aW Ac) ao.1 Ac Ac Q ?_
 intro ap R y aa _
 have m:∀x∈hX (.slice (some ⟨aU,0,none⟩) 0 0:Value),l≤x:=fun x hx=>by simp[hX,Value.ownBlock]at hx;omega
 have aq:∀(i:Nat)(hi:i<o.length),∃z,ld M P i=#[z]∧HF R (fun b=>Dm r v.heap.size l b∧b≠E) (.p o[i]) z:=fun i hi=>by obtain⟨z,h1,h2⟩:=ao.2 i hi;exact⟨z,h1,(h2.fr y (fun b hc c=>by have:=m _ c;rcases hc with hc|hc;(have:=hD0 _ hc;omega);omega)).up (Dm.y7 hD0 Ac Ac Ac Ac)⟩
 obtain⟨ps,ab⟩:∃ps:List Value,ps=hS ([]++(List.range o.length).map (ld M P)):=⟨_,rfl⟩
 rw[←ab,T9]at aa
 have ar:ps.length=o.length∧∀(i:Nat)(h1:i<ps.length)(h2:i<o.length),HF R (fun b=>Dm r v.heap.size l b∧b≠E) (.p o[i]) ps[i]:=by
  have av:∀i,i<o.length→(ld M P i).size=1:=fun i hi=>by obtain⟨z,h1,_⟩:=aq i hi;rw[h1];rfl
  have hl:ps.length=o.length:=by rw[ab,TN,ju (sz:=1) (fun b hc=>by obtain⟨i,hi,rfl⟩:=U3.1 hc;exact av i (UH.1 hi))];simp
  refine⟨hl,fun i h1 h2=>?_⟩
  obtain⟨z,aX,aY⟩:=aq i h2
  have aw:=jL (cl:=ld M P) (j:=0) av h2 Ah
  rw[aX,Vl,Va]at aw
  have ax:ps[i]? =some z:=by rw[ab,TN,aw];rfl
  rw[TP h1]at ax
  rw[Up ax];exact aY
 have d:=(d.jP w).put y (fun x hx=>Tk (by have:=m x hx;omega))
 have k:=y.hO (w.il k) (fun c=>by have:=m _ c;omega)
 have f:=f.fr y (fun b hc c=>by have:=m _ c;rcases hc with hc|hc;(have:=hD0 _ hc;omega);omega)
 have g:=g.fr y (fun b hc c=>by have:=m _ c;rcases hc with hc|hc;(have:=hD0 _ hc;omega);omega)
 have p:=p.fr y (fun b hc c=>by have:=m _ c;rcases hc with hc|hc;(have:=hD0 _ hc;omega);omega)
 have u:=y.hO (w.il u) (fun c=>by have:=m _ c;omega)
 have Q:=Tq Q y.size
 obtain⟨ad,ay,bZ⟩:=nl R
 have C:js R (fun b=>Dm r v.heap.size l b∧b≠E) 167 l ad o ap ps:=⟨aa,fun az O=>by rw[ay];exact(ik aa az (hF.2 O)).2,ar.1,fun i h1 h2=>(ar.2 i h1 h2).up (fun b hc=>Ts hc)⟩
 have a0:l≤ad:=by rw[ay];exact Tq Q (Tv _)
 have a1:∀b,(fun b=>Dm r v.heap.size l b∧b≠E) b→b<l:=fun b hc=>by replace hc:=hc.1;rcases hc with hc|hc;(have:=hD0 _ hc;omega);omega
 refine au 1<|DL.iu (cs:=#[Pt aH]) rfl rfl (F.oB) rfl rfl rfl fun ca aZ A cb ba bb=>have cc:=A.size;have f:=f.fr A Ba;have g:=g.fr A Ba;have p:=p.fr A Ba;have C:=C.fr A (by intro az O;first|(simp at O;done)|(simp only[Tt]at O;subst O;exact⟨fun S=>by have:=a1 _ S;omega,by first|(left;omega)|(right;omega)⟩));have bc:=f.2.2.2.2;have bd:=Ln f (D':=fun b=>(fun b=>Dm r v.heap.size l b∧b≠E) b∨(ad≤b∧b<aZ.heap.size)) (fun b hc=>Ts (Dm.y7 hD0 Ac Ac Ac Ac b hc));DL.hJ rfl rfl F.oB rfl rfl C.own (hB.hE bb) rfl AQ Ac Ac (Tq a0 Ac) ?_
 intro cd ce B be bf
 have m:∀x∈hX ap,l≤x:=fun x c=>(ik C.own x c).1
 have C:=C.snoc Ac a0 a1 bd B be bf
 have u:=B.hO (A.il u) (fun c=>by have:=m _ c;omega)
 have ba:=Tj Ac B.size
 obtain⟨bg,bh,rfl,ae⟩:=C.done
 refine au 1<|sc u rfl rfl rfl (by rw[Z];rfl) ?_
 intro a2 I cf u
 have d:=((d.jP A).put B (fun x hx=>Tk (by have:=m x hx;omega))).oR I.f Ac
 have k:=I.jK (B.hO (A.il k) (fun c=>by have:=m _ c;omega)) Ac
 have f:=(f.fr B (fun b hc c=>by have:=m _ c;rcases hc with hc|hc;(have:=hD0 _ hc;omega);omega)).fr I.f Ba
 have g:=(g.fr B (fun b hc c=>by have:=m _ c;rcases hc with hc|hc;(have:=hD0 _ hc;omega);omega)).fr I.f Ba
 have p:=(p.fr B (fun b hc c=>by have:=m _ c;rcases hc with hc|hc;(have:=hD0 _ hc;omega);omega)).fr I.f Ba
 have ae:=ae.fr I.f (by first|(intro b hc;simp;done)|(intro b hc c;rcases Tt.1 c with rfl;rcases hc with hc|hc;exact hc.2 rfl;omega))
 refine au 7 ?_
 have a3:=g.last (w':=a2) (D':=Dm r v.heap.size a2.heap.size) (gs':=o++[_]) (v:=.slice bg (o++[_]).length bh) (fun cg h=>jV.mono (Dm.mono Ac Ac) an _ h) (.lh (ae.up (fun b hc=>by rcases hc with hc|hc;exact Dm.mono (Tv _) Ac b hc.1;exact Tk ⟨Ac,Ac⟩)))
 rw[hfl]at a3
 exact rZ d ⟨_,rfl,trivial,⟨Tk ⟨Ac,Ac⟩,an,_,_,aO,aP,u,a3,hfl,aQ,aR,Pr.Ow Y hu bc,⟨fun h=>Tu h af,fun h=>Tu h af,fun h=>Tu h a5⟩⟩⟩
theorem KN{ks:List N}{s:List UInt8}(bd:Lm t ks q L)(az:t≠iL)(aR:t≠jn)(be:N1 (.mk t sB V0 [] (q::ks) [] []) bA bB s)(ht:L.length≤1099511627776)(hu:s≠[]):km 70 (.mk t sB V0 [] (q::ks) [] []) (ib L (false,s)) (kr (.mk t sB V0 [] (q::ks) [] [])):=by
 intro v w aS af hD0 aT hw
 obtain⟨bF,bG,bH,bI,bJ,bK,bL,bM,bN,bO,bP,bQ,bR,bS,rfl⟩:=af.hI
 obtain⟨bT,bU,bV,bW,bY,bZ⟩:=af.hV
 obtain⟨ca,cb,bf,bg,cc,bh,cd,a2⟩:=af.kF (i:=0) Al
 cases bg
 have a2:RN v w 0 q bf:=a2
 have bi:N.wt q≤1048576:=by simp only[N.wt,N.h9]at hw;omega
 have bj:=lb a2
 refine cY Tryz.func70 fun g=>ac 2<|bX rfl fun ce bk bl cf cg p=>have g:=g.jP bl.f;au 7<|lD p rfl rfl<|au 1<|iF AM rfl rfl<|au 5<|lw p rfl rfl ?_
 obtain⟨aU,aV⟩:=nm bk
 have aW:=g.le aV
 refine cX (be _ w _ (af.fr g Az) (fun b hc=>Tj (hD0 b hc) g.size) (aT.at g) hw) ?_
 rintro _ aX aY ch ⟨aZ,rfl,f⟩
 have g:=g.jP aY.f
 have p:=aY.il p
 obtain⟨a3,bm,ci⟩:=nl aX
 rw[←aV,←bm]at f
 refine au 8<|lw p rfl rfl ?_
 obtain⟨bn,a4⟩:=nm aX
 have cj:=g.le a4
 have ck:a3≤bn:=by rw[a4];exact Ac
 refine cX (bd _ w _ _ (af.fr g Az) (fun b hc=>Tj (hD0 b hc) g.size) (aT.at g) bi) ?_
 rintro _ bo a5 cm ⟨cn,rfl,a6⟩
 have g:=g.jP a5.f
 have p:=a5.il p
 have f:=f.fr a5.f Ba
 obtain⟨ba,bp,co⟩:=nl bo
 rw[←a4,←bp]at a6
 refine au 22<|lD p rfl rfl<|iX F.iI Al rfl rfl rfl<|au 1<|lC (jv (bh.fr g Al) bj) rfl<|jS rfl rfl (fun bq=>?_) (fun bq=>?_)
 ·refine au 4<|lD f.2.1 rfl rfl<|au 9 ?_
  obtain⟨Q,ag,m,a7,a8,a9,z,d,hfl,aA,aB,R,br⟩:=a6
  have S:a7.size=17:=by have:=d.size;rw[this];simp[hfl]
  obtain⟨D,bs,aC,o⟩:=d.l 16 (gs:=m) (by rw[Uy Ac,hfl];rfl)
  have bt:v.heap.size≤aU:=aW
  refine lw z rfl S<|al F.KA rfl fun A cp Y bu bv r=>have f:=f.fr Y.f Ba;have d:=d.fr Y.f Ba;have o:=o.fr Y.f Ba;sA r rfl rfl rfl S (d.zK R) fun bw Z cq r=>have g:=(g.jP Y.f).oR Z.f Ac;have p:=Z.jK (Y.il p) Ac;have f:=f.fr Z.f Ba;have z:=Z.hO (Y.hO z (by first|(simp;done)|(exact Dm.mZ hD0 Ac Ac _ Q))) (by first|(simp;done)|(exact Dm.mZ hD0 Ac Ac _ Q));have d:=d.fr Z.f Ba;have o:=o.fr Z.f Ba;au 3 ?_
  obtain⟨k,B⟩:=nm bw
  have bx:A<k:=by rw[B];exact Ac
  have bz:a3≤k:=by rw[B];exact Ac
  have b0:ba≤k:=by rw[B];exact Ac
  have b1:=g.le B
  refine DL.qV rfl rfl Tryz.underlying123 Au ?_
  intro aD ah G aE b2 aF
  rw[←B]at aE
  have cr:=G.size
  have f:=f.fr G Ba
  have z:=G.hO z (by first|(simp;done)|(exact Dm.mZ hD0 Ac Ac _ Q))
  have d:=d.fr G Ba
  have o:=o.fr G Ba
  have E:k≤ah.heap.size:=Nat.le_of_lt (VS Ac Ac)
  refine au 3<|lD z rfl (by rw[T9];exact aC) ?_
  have b3:=R.O2
  have ai:=o.zb
  refine DL.nD (css:=[]) rfl rfl F.oB rfl rfl (o0 aF Ac) ai.1 Ac Ac E ?_
  intro aj a0 H T _
  have l:∀x∈hX (.slice (some ⟨aD,0,none⟩) 0 0:Value),k≤x:=fun x hx=>by simp[hX,Value.ownBlock]at hx;omega
  have ak:∀(i:Nat)(hi:i<m.length),∃u,ld ah D i=#[u]∧HF a0 (fun b=>Dm w v.heap.size k b∧b≠A) (.p m[i]) u:=fun i hi=>by obtain⟨u,h1,h2⟩:=ai.2 i hi;exact⟨u,h1,(h2.fr H (fun b hc c=>by have:=l _ c;rcases hc with hc|hc;(have:=hD0 _ hc;omega);omega)).up (Dm.y7 hD0 Ac Ac Ac Ac)⟩
  obtain⟨ps,U⟩:∃ps:List Value,ps=hS ([]++(List.range m.length).map (ld ah D)):=⟨_,rfl⟩
  rw[←U,T9]at T
  have am:ps.length=m.length∧∀(i:Nat)(h1:i<ps.length)(h2:i<m.length),HF a0 (fun b=>Dm w v.heap.size k b∧b≠A) (.p m[i]) ps[i]:=by
   have an:∀i,i<m.length→(ld ah D i).size=1:=fun i hi=>by obtain⟨u,h1,_⟩:=ak i hi;rw[h1];rfl
   have hl:ps.length=m.length:=by rw[U,TN,ju (sz:=1) (fun b hc=>by obtain⟨i,hi,rfl⟩:=U3.1 hc;exact an i (UH.1 hi))];simp
   refine⟨hl,fun i h1 h2=>?_⟩
   obtain⟨u,aG,aH⟩:=ak i h2
   have ao:=jL (cl:=ld ah D) (j:=0) an h2 Ah
   rw[aG,Vl,Va]at ao
   have ap:ps[i]? =some u:=by rw[U,TN,ao];rfl
   rw[TP h1]at ap
   rw[Up ap];exact aH
  have g:=(g.jP G).put H (fun x hx=>Tk (by have:=l x hx;omega))
  have p:=H.hO (G.il p) (fun c=>by have:=l _ c;omega)
  have f:=f.fr H (fun b hc c=>by have:=l _ c;rcases hc with hc|hc;(have:=hD0 _ hc;omega);omega)
  have d:=d.fr H (fun b hc c=>by have:=l _ c;rcases hc with hc|hc;(have:=hD0 _ hc;omega);omega)
  have o:=o.fr H (fun b hc c=>by have:=l _ c;rcases hc with hc|hc;(have:=hD0 _ hc;omega);omega)
  have r:=H.hO (G.il r) (fun c=>by have:=l _ c;omega)
  have E:=Tq E H.size
  obtain⟨W,aq,b4⟩:=nl a0
  have y:js a0 (fun b=>Dm w v.heap.size k b∧b≠A) 167 k W m aj ps:=⟨T,fun ar C=>by rw[aq];exact(ik T ar (hF.2 C)).2,am.1,fun i h1 h2=>(am.2 i h1 h2).up (fun b hc=>Ts hc)⟩
  have av:k≤W:=by rw[aq];exact Tq E (Tv _)
  have aw:∀b,(fun b=>Dm w v.heap.size k b∧b≠A) b→b<k:=fun b hc=>by replace hc:=hc.1;rcases hc with hc|hc;(have:=hD0 _ hc;omega);omega
  refine au 1<|DL.iu (cs:=#[Pt aZ]) rfl rfl (F.oB) rfl rfl rfl fun b5 b6 I b7 aI aJ=>have cs:=I.size;have f:=f.fr I Ba;have d:=d.fr I Ba;have o:=o.fr I Ba;have y:=y.fr I (by intro ar C;first|(simp at C;done)|(simp only[Tt]at C;subst C;exact⟨fun aK=>by have:=aw _ aK;omega,by first|(left;omega)|(right;omega)⟩));have aL:Pr (cond false 20 11) _ s:=f.2.2;have aM:=Io f (D':=fun b=>(fun b=>Dm w v.heap.size k b∧b≠A) b∨(W≤b∧b<b6.heap.size)) (fun b hc=>Ts (Dm.y7 hD0 Ac Ac Ac Ac b hc));DL.hJ rfl rfl F.oB rfl rfl y.own (hB.hE aJ) rfl AQ Ac Ac (Tq av Ac) ?_
  intro b8 ct J aN aO
  have l:∀x∈hX aj,k≤x:=fun x c=>(ik y.own x c).1
  have y:=y.snoc Ac av aw aM J aN aO
  have r:=J.hO (I.il r) (fun c=>by have:=l _ c;omega)
  have aI:=Tj Ac J.size
  obtain⟨aP,aQ,rfl,X⟩:=y.done
  refine au 1<|sc r rfl rfl rfl (by rw[S];rfl) ?_
  intro bb aa cu b9
  have g:=((g.jP I).put J (fun x hx=>Tk (by have:=l x hx;omega))).oR aa.f Ac
  have p:=aa.jK (J.hO (I.il p) (fun c=>by have:=l _ c;omega)) Ac
  have f:=(f.fr J (fun b hc c=>by have:=l _ c;rcases hc with hc|hc;(have:=hD0 _ hc;omega);omega)).fr aa.f Ba
  have d:=(d.fr J (fun b hc c=>by have:=l _ c;rcases hc with hc|hc;(have:=hD0 _ hc;omega);omega)).fr aa.f Ba
  have o:=(o.fr J (fun b hc c=>by have:=l _ c;rcases hc with hc|hc;(have:=hD0 _ hc;omega);omega)).fr aa.f Ba
  have X:=X.fr aa.f (by first|(intro b hc;simp;done)|(intro b hc c;rcases Tt.1 c with rfl;rcases hc with hc|hc;exact hc.2 rfl;omega))
  have r:=b9
  refine au 7 ?_
  have ax:=d.last (w':=bb) (D':=Dm w v.heap.size bb.heap.size) (gs':=m++[_]) (v:=.slice aP (m++[_]).length aQ) (fun bC h=>jV.mono (Dm.mono Ac Ac) ag _ h) (.lh (X.up (fun b hc=>by rcases hc with hc|hc;exact Dm.mono (Tv _) Ac b hc.1;exact Tk ⟨Ac,Ac⟩)))
  rw[hfl]at ax
  exact rZ g ⟨_,rfl,trivial,⟨Tk ⟨Ac,Ac⟩,ag,_,_,a8,a9,r,ax,hfl,aA,aB,Pr.Ow R hu aL,⟨fun h=>Tu h az,fun h=>Tu h az,fun h=>Tu h aR⟩⟩⟩
 refine au 14 ?_
 obtain⟨Q,ag,m,a7,a8,a9,z,d,hfl,aA,aB,R,br⟩:=a6
 have S:a7.size=17:=by have:=d.size;rw[this];simp[hfl]
 obtain⟨D,bs,aC,o⟩:=d.l 16 (gs:=m) (by rw[Uy Ac,hfl];rfl)
 have bt:v.heap.size≤aU:=aW
 refine lw z rfl S<|al F.KA rfl fun A cv ab bu bv r=>have f:=f.fr ab.f Ba;have d:=d.fr ab.f Ba;have o:=o.fr ab.f Ba;sA r rfl rfl rfl S (d.zK R) fun bD ad cw r=>have g:=(g.jP ab.f).oR ad.f Ac;have p:=ad.jK (ab.il p) Ac;have f:=f.fr ad.f Ba;have z:=ad.hO (ab.hO z (by first|(simp;done)|(exact Dm.mZ hD0 Ac Ac _ Q))) (by first|(simp;done)|(exact Dm.mZ hD0 Ac Ac _ Q));have d:=d.fr ad.f Ba;have o:=o.fr ad.f Ba;au 3 ?_
 obtain⟨k,B⟩:=nm bD
 have bx:A<k:=by rw[B];exact Ac
 have bz:a3≤k:=by rw[B];exact Ac
 have b0:ba≤k:=by rw[B];exact Ac
 have b1:=g.le B
 refine DL.qV rfl rfl Tryz.underlying123 Au ?_
 intro aD ay K aE b2 aF
 rw[←B]at aE
 have cx:=K.size
 have f:=f.fr K Ba
 have z:=K.hO z (by first|(simp;done)|(exact Dm.mZ hD0 Ac Ac _ Q))
 have d:=d.fr K Ba
 have o:=o.fr K Ba
 have E:k≤ay.heap.size:=Nat.le_of_lt (VS Ac Ac)
 refine au 3<|lD z rfl (by rw[T9];exact aC) ?_
 have b3:=R.O2
 have ai:=o.zb
 refine DL.nD (css:=[]) rfl rfl F.oB rfl rfl (o0 aF Ac) ai.1 Ac Ac E ?_
 intro aj a1 M T _
 have l:∀x∈hX (.slice (some ⟨aD,0,none⟩) 0 0:Value),k≤x:=fun x hx=>by simp[hX,Value.ownBlock]at hx;omega
 have ak:∀(i:Nat)(hi:i<m.length),∃u,ld ay D i=#[u]∧HF a1 (fun b=>Dm w v.heap.size k b∧b≠A) (.p m[i]) u:=fun i hi=>by obtain⟨u,h1,h2⟩:=ai.2 i hi;exact⟨u,h1,(h2.fr M (fun b hc c=>by have:=l _ c;rcases hc with hc|hc;(have:=hD0 _ hc;omega);omega)).up (Dm.y7 hD0 Ac Ac Ac Ac)⟩
 obtain⟨ps,U⟩:∃ps:List Value,ps=hS ([]++(List.range m.length).map (ld ay D)):=⟨_,rfl⟩
 rw[←U,T9]at T
 have am:ps.length=m.length∧∀(i:Nat)(h1:i<ps.length)(h2:i<m.length),HF a1 (fun b=>Dm w v.heap.size k b∧b≠A) (.p m[i]) ps[i]:=by
  have an:∀i,i<m.length→(ld ay D i).size=1:=fun i hi=>by obtain⟨u,h1,_⟩:=ak i hi;rw[h1];rfl
  have hl:ps.length=m.length:=by rw[U,TN,ju (sz:=1) (fun b hc=>by obtain⟨i,hi,rfl⟩:=U3.1 hc;exact an i (UH.1 hi))];simp
  refine⟨hl,fun i h1 h2=>?_⟩
  obtain⟨u,aG,aH⟩:=ak i h2
  have ao:=jL (cl:=ld ay D) (j:=0) an h2 Ah
  rw[aG,Vl,Va]at ao
  have ap:ps[i]? =some u:=by rw[U,TN,ao];rfl
  rw[TP h1]at ap
  rw[Up ap];exact aH
 have g:=(g.jP K).put M (fun x hx=>Tk (by have:=l x hx;omega))
 have p:=M.hO (K.il p) (fun c=>by have:=l _ c;omega)
 have f:=f.fr M (fun b hc c=>by have:=l _ c;rcases hc with hc|hc;(have:=hD0 _ hc;omega);omega)
 have d:=d.fr M (fun b hc c=>by have:=l _ c;rcases hc with hc|hc;(have:=hD0 _ hc;omega);omega)
 have o:=o.fr M (fun b hc c=>by have:=l _ c;rcases hc with hc|hc;(have:=hD0 _ hc;omega);omega)
 have r:=M.hO (K.il r) (fun c=>by have:=l _ c;omega)
 have E:=Tq E M.size
 obtain⟨W,aq,b4⟩:=nl a1
 have y:js a1 (fun b=>Dm w v.heap.size k b∧b≠A) 167 k W m aj ps:=⟨T,fun ar C=>by rw[aq];exact(ik T ar (hF.2 C)).2,am.1,fun i h1 h2=>(am.2 i h1 h2).up (fun b hc=>Ts hc)⟩
 have av:k≤W:=by rw[aq];exact Tq E (Tv _)
 have aw:∀b,(fun b=>Dm w v.heap.size k b∧b≠A) b→b<k:=fun b hc=>by replace hc:=hc.1;rcases hc with hc|hc;(have:=hD0 _ hc;omega);omega
 refine au 1<|DL.iu (cs:=#[Pt aZ]) rfl rfl (F.oB) rfl rfl rfl fun b5 bE O b7 aI aJ=>have cy:=O.size;have f:=f.fr O Ba;have d:=d.fr O Ba;have o:=o.fr O Ba;have y:=y.fr O (by intro ar C;first|(simp at C;done)|(simp only[Tt]at C;subst C;exact⟨fun aK=>by have:=aw _ aK;omega,by first|(left;omega)|(right;omega)⟩));have aL:Pr (cond false 20 11) _ s:=f.2.2;have aM:=Io f (D':=fun b=>(fun b=>Dm w v.heap.size k b∧b≠A) b∨(W≤b∧b<bE.heap.size)) (fun b hc=>Ts (Dm.y7 hD0 Ac Ac Ac Ac b hc));DL.hJ rfl rfl F.oB rfl rfl y.own (hB.hE aJ) rfl AQ Ac Ac (Tq av Ac) ?_
 intro b8 cz P aN aO
 have l:∀x∈hX aj,k≤x:=fun x c=>(ik y.own x c).1
 have y:=y.snoc Ac av aw aM P aN aO
 have r:=P.hO (O.il r) (fun c=>by have:=l _ c;omega)
 have aI:=Tj Ac P.size
 obtain⟨aP,aQ,rfl,X⟩:=y.done
 refine au 1<|sc r rfl rfl rfl (by rw[S];rfl) ?_
 intro bc ae c0 r
 have g:=((g.jP O).put P (fun x hx=>Tk (by have:=l x hx;omega))).oR ae.f Ac
 have p:=ae.jK (P.hO (O.il p) (fun c=>by have:=l _ c;omega)) Ac
 have f:=(f.fr P (fun b hc c=>by have:=l _ c;rcases hc with hc|hc;(have:=hD0 _ hc;omega);omega)).fr ae.f Ba
 have d:=(d.fr P (fun b hc c=>by have:=l _ c;rcases hc with hc|hc;(have:=hD0 _ hc;omega);omega)).fr ae.f Ba
 have o:=(o.fr P (fun b hc c=>by have:=l _ c;rcases hc with hc|hc;(have:=hD0 _ hc;omega);omega)).fr ae.f Ba
 have X:=X.fr ae.f (by first|(intro b hc;simp;done)|(intro b hc c;rcases Tt.1 c with rfl;rcases hc with hc|hc;exact hc.2 rfl;omega))
 refine au 7 ?_
 have ax:=d.last (w':=bc) (D':=Dm w v.heap.size bc.heap.size) (gs':=m++[_]) (v:=.slice aP (m++[_]).length aQ) (fun bC h=>jV.mono (Dm.mono Ac Ac) ag _ h) (.lh (X.up (fun b hc=>by rcases hc with hc|hc;exact Dm.mono (Tv _) Ac b hc.1;exact Tk ⟨Ac,Ac⟩)))
 rw[hfl]at ax
 exact rZ g ⟨_,rfl,trivial,⟨Tk ⟨Ac,Ac⟩,ag,_,_,a8,a9,r,ax,hfl,aA,aB,Pr.Ow R hu aL,⟨fun h=>Tu h az,fun h=>Tu h az,fun h=>Tu h aR⟩⟩⟩
def j2(ts:List (List UInt8)):Nat:=(ts.map List.length).sum
theorem k5(b:List UInt8):∀c:List (List UInt8),(ih b c).length≤j2 c+b.length*c.length
 |[]=>by simp[ih]
 |[d]=>by simp[ih,j2]
 |d::f::g=>by
  have:=k5 b (f::g)
  simp only[ih,j2,T8,Ui,Tl,To,VM]at this⊢
  omega
theorem k3{c:Nat}:∀{ks:List N}{ts:List (List UInt8)},ks.length=ts.length→(∀(i:Nat)(h1:i<ks.length)(h2:i<ts.length),ts[i].length+c≤64*ks[i].wt)→j2 ts+c*ts.length≤64*N.h9 ks
 |[],[],_,_=>by simp[j2]
 |[],_::_,h,_=>by simp at h
 |_::_,[],h,_=>by simp at h
 |b::ks,d::ts,h,hi=>by
  have h0:=hi 0 Al Al
  have:=k3 (c:=c) (ks:=ks) (ts:=ts) AU (fun i h1 h2=>hi (i+1) AW A4)
  simp only[TF]at h0
  simp only[j2,T8,Ui,To,VM,N.h9]at this⊢
  omega
theorem pB{c:Nat}:∀{ks:List V}{ts:List (List UInt8)},ks.length=ts.length→(∀(i:Nat)(h1:i<ks.length)(h2:i<ts.length),ts[i].length+c≤64*ks[i].wt)→j2 ts+c*ts.length≤64*V.h9 ks
 |[],[],_,_=>by simp[j2]
 |[],_::_,h,_=>by simp at h
 |_::_,[],h,_=>by simp at h
 |b::ks,d::ts,h,hi=>by
  have h0:=hi 0 Al Al
  have:=pB (c:=c) (ks:=ks) (ts:=ts) AU (fun i h1 h2=>hi (i+1) AW A4)
  simp only[TF]at h0
  simp only[j2,T8,Ui,To,VM,V.h9]at this⊢
  omega
theorem tI:∀{ks:List N}{ts:List (List UInt8)}(hl:ks.length=2*ts.length),(∀(i:Nat)(h1:2*i+1<ks.length)(h2:i<ts.length),ts[i].length+40≤64*((ks[2*i]'(TW h1)).wt+ks[2*i+1].wt))→j2 ts+40*ts.length≤64*N.h9 ks
 |ks,[],_,_=>by simp[j2]
 |[],_::_,h,_=>by simp only[Tw,To]at h;omega
 |[_],_::_,h,_=>by simp only[Tw,To]at h;omega
 |b::c::ks,d::ts,h,hi=>by
  have h0:=hi 0 Al Al
  have hl:ks.length=2*ts.length:=by simp only[To]at h;omega
  have:=tI (ks:=ks) (ts:=ts) hl (fun i h1 h2=>hi (i+1) AM A4)
  simp only[Nat.mul_zero,TF,T9,TZ]at h0
  simp only[j2,T8,Ui,To,VM,N.h9]at this⊢
  omega
theorem xF:∀{ks ps:List N}{ts:List (List UInt8)},ks.length=ps.length→ps.length=ts.length→(∀(i:Nat)(h0:i<ks.length)(h1:i<ps.length)(h2:i<ts.length),ts[i].length+40≤64*(ks[i].wt+ps[i].wt))→j2 ts+40*ts.length≤64*(N.h9 ks+N.h9 ps)
 |ks,ps,[],_,_,_=>by simp[j2]
 |[],ps,_::_,h,b,_=>by simp only[Tw,To]at h b;omega
 |_::_,[],_::_,h,b,_=>by simp only[Tw,To]at h b;omega
 |d::ks,f::ps,g::ts,h,b,hi=>by
  have h0:=hi 0 Al Al Al
  have:=xF (ks:=ks) (ps:=ps) (ts:=ts) AU (by simpa using b) (fun i h1 h2 c=>hi (i+1) AW A4 (by simpa using c))
  simp only[TF]at h0
  simp only[j2,T8,Ui,To,VM,N.h9]at this⊢
  omega
theorem xD:∀b:List (List UInt8),(og b).length≤j2 b+12*b.length
 |[]=>by simp[og]
 |[c]=>by simp[og,j2]
 |f::c::d=>by
  have:=xD d
  simp only[og,j2,T8,Ui,Tl,To,Tw]at this⊢
  omega
theorem qj(s:ByteArray):(qL s.data.toList).length≤6*s.size+2:=by
 have:=lS s.data.toList
 rw[←hK]at this
 simp only[qL,To,Tl,Tw];omega
def pj(ns:List ByteArray):Nat:=(ns.map fun k=>k.size+1).sum
theorem th:∀(c:List ByteArray)(b:List (List UInt8)),(lj c b).length≤6*pj c+j2 b+3*b.length
 |[],b=>by simp[lj]
 |n::c,[]=>by
  have:=lS n.data.toList
  rw[←hK]at this
  simp only[lj,pj,T8,Ui,j2,Ue,Ut,Tw];omega
 |n::c,d::b=>by
  have:=lS n.data.toList
  rw[←hK]at this
  have h2:=th c b
  simp only[lj,pj,j2,T8,Ui,Tl,To,Tw]at h2⊢;omega
theorem rJ:∀(b:Bool)(c:List (List UInt8)),(iR b c).length≤j2 c+5*c.length
 |_,[]=>by simp[iR]
 |b,f::d=>by
  have:=rJ false d
  have g:(if b then[97,115,32]else[63,47,47,32]:List UInt8).length≤4:=by cases b<;>decide
  simp only[iR,j2,T8,Ui,Tl,To,Tw]at this⊢;omega
theorem tJ:∀b:List (List UInt8),((b.map (· ++[32])).flatten).length≤j2 b+b.length
 |[]=>by simp[j2]
 |d::c=>by
  have:=tJ c
  simp only[j2,T8,Ui,Vi,Tl,To,Tw]at this⊢;omega
theorem EP(ps:List ByteArray):(oj ps).length≤2*pj ps+2:=by
 unfold oj
 split
 ·simp
 have h1:=k5 [59,32] (ps.map fun b=>b.data.toList)
 have h2:j2 (ps.map fun b=>b.data.toList)+ps.length=pj ps:=by
  clear h1
  induction ps with
  |nil=>rfl
  |cons b d f=>
   by_cases c:d=[]
   ·subst c;simp only[j2,pj,T8,Ue,Ui,Ut,To,Tw,hK];omega
   have:=f c
   simp only[j2,pj,T8,Ui,To,hK]at this⊢;omega
 simp only[List.length_map,To,Tw]at h1
 simp only[Tl,To,Tw];omega
theorem u0{h:Nat}(b:h≤18014398509481984):(mi h).length≤18:=by
 have:=oJ 15 (h/2) Ac
 unfold mi
 rw[Tl]
 split<;>simp only[To,Tw]<;>omega
theorem F8{j:V}{d:List UInt8}(h:sk j d):d.length+20≤64*j.wt:=by
 induction h with
 |null=>simp only[V.wt,V.h9];decide
 |vQ=>simp only[V.wt,V.h9];decide
 |IA=>simp only[V.wt,V.h9];decide
 |num f=>have:=u0 f;simp only[V.wt];omega
 |neg h0 f=>have:=u0 f;simp only[V.wt,To];omega
 | @text s k=>have:=qj s;simp only[V.wt];omega
 | @list o b hl h c=>
  have h1:=pB hl c
  have h2:=k5 [44,32] b
  simp only[V.wt,Tl,To,Tw]at h2⊢;omega
 | @map ks p b hk hl k h c=>
  have h1:=pB hl c
  have l:∀(ks:List ByteArray)(b:List (List UInt8)),(ih [44,32] (List.zipWith (fun g d=>qL g.data.toList++[58,32]++d) ks b)).length≤6*pj ks+j2 b+6*b.length:=by
   intro ks b
   refine Tq (k5 _ _) ?_
   clear h1 hk hl k h c
   induction ks generalizing b with
   |nil=>simp[j2]
   |cons g ks c=>
    cases b with
    |nil=>simp[j2]
    |cons d b=>
     have m:=c b
     have q:=qj g
     simp only[List.zipWith_cons_cons,j2,pj,T8,Ui,Tl,To,Tw]at m⊢;omega
  have h2:=l ks b
  unfold tB
  simp only[V.wt]
  split
  ·simp only[To,Tw];omega
  simp only[Tl,To,Tw];unfold pj at h2;omega
theorem iV:V0.wt=1:=rfl
theorem lp(n:N)(b:List UInt8):(bx n b).length≤b.length+2:=by unfold bx;split<;>simp
theorem ny(c:Bool)(n:N)(b:List UInt8):(n4 c n b).length≤b.length+2:=by
 unfold n4;split
 ·simp
 exact lp n b
theorem oG(h:List UInt8)(s:Bool×List UInt8):(ib h s).length≤h.length+1+s.2.length:=by
 unfold ib
 rw[Tl,Tl]
 split<;>simp
theorem zi(n:N)(b s:List UInt8):(tH n b s).length≤b.length+s.length+4:=by
 unfold tH;split
 ·simp only[To];omega
 have:=oG (n4 false n b) (true,46::s);have:=ny false n b;simp only[To]at*;omega
theorem oO(n:N)(b s:List UInt8):(qz n b s).length≤b.length+s.length+4:=by
 unfold qz;split
 ·simp only[To];omega
 have:=oG (n4 false n b) (false,s);have:=ny false n b;have e:((false,s):Bool×List UInt8).2.length=s.length:=rfl;omega
theorem vE(s:ByteArray):(iq s).length≤6*s.size+2:=by
 unfold iq;split
 ·rw[←hK];omega
 exact qj s
theorem zX(s:ByteArray):(uz s).length≤s.size+1:=by
 unfold uz;split
 ·simp
 rw[Tl,←hK];simp
theorem GH:∀b:Nat,1≤b∧b≤24→(mI b).length≤3:=by
 have:∀b:Fin 25,1≤b.val→(mI b.val).length≤3:=by decide+kernel
 intro b c;exact this ⟨b,Ac⟩ c.1
def iC:Nat→Nat
 |0|1|2=>100
 |_=>168
theorem K8{b:Nat}{n:N}{c:List UInt8}(h:Gd b n c):c.length+iC b≤64*n.wt:=by
 induction h with
 |dot|LM|zO=>simp only[iC,N.wt,iV,N.h9,Ue,Ut,To,Tw];omega
 |val r=>have:=F8 r;have e:(⟨#[118,97,108]⟩:ByteArray).size=3:=rfl;simp only[iC,N.wt,Ue,Ut];omega
 |fmt hs=>simp only[iC,N.wt,iV,←hK];omega
 |za hs=>simp only[iC,N.wt,iV,Tl,To,Tw,←hK];omega
 |var hs=>simp only[iC,N.wt,iV,To,←hK];omega
 | @Lg D y ks m J E r hl h d=>
  have h1:=k3 hl d
  have h2:=th y m
  have z:=zX D
  simp only[iC,N.wt,iV,Tl,To,Tw];unfold pj at h2
  simp only[iC]at*;omega
 | @zH b c h d=>simp only[iC,N.wt,iV,N.h9,Tl,To,Tw];simp only[iC]at*;omega
 | @obj ks m hl h d=>
  have h1:=tI hl (fun i h1 h2=>by have:=d i h1 h2;simp only[iC,N.wt,iV,N.h9,Ue,Ut,show(⟨#[]⟩:ByteArray).size=0 from rfl,iC]at this;omega)
  have h2:=k5 [44,32] m
  simp only[iC,N.wt,iV,iC]
  split
  ·simp only[To,Tw];omega
  simp only[Tl,To,Tw]at h2⊢;omega
 | @call s ks m hs hl h d=>
  have h1:=k3 hl d
  have h2:=k5 [59,32] m
  simp only[iC,N.wt,iV,iC,Tl,←hK]at*
  split
  ·simp only[Tw];omega
  simp only[Tl,To,Tw]at h2⊢;omega
 | @FP s b c r h d=>have h1:=zi b c (iq s);have h2:=vE s;simp only[iC,N.wt,iV,N.h9,iC]at*;omega
 | @idx b g c f h j d k=>have h1:=oO b c ([91]++f++[93]);simp only[iC,N.wt,iV,N.h9,iC,Tl,To,Tw]at*;omega
 | @LD b g t c f o h j u F G d k v=>have h1:=oO b c ([91]++f++[58]++o++[93]);simp only[iC,N.wt,iV,N.h9,iC,Tl,To,Tw]at*;omega
 | @LW b g c f h j F d k=>have h1:=oO b c ([91]++f++[58]++[93]);simp only[iC,N.wt,iV,N.h9,iC,Tl,To,Tw]at*;omega
 | @slt b t c o h u G d v=>have h1:=oO b c ([91]++[58]++o++[93]);simp only[iC,N.wt,iV,N.h9,iC,Tl,To,Tw]at*;omega
 | @each b c h d=>have h1:=oG (n4 false b c) (false,[91,93]);have h2:=ny false b c;simp only[iC,N.wt,iV,N.h9,iC,Tl,To,Tw]at*;omega
 | @opt b c h d=>have h1:=oG (n4 true b c) (false,[63]);have h2:=ny true b c;simp only[iC,N.wt,iV,N.h9,iC,Tl,To,Tw]at*;omega
 | @neg b c h d=>have h2:=lp b c;simp only[iC,N.wt,iV,N.h9,iC,Tl,To,Tw]at*;omega
 | @HZ s b c hs h d=>simp only[iC,N.wt,iV,N.h9,iC,Tl,To,Tw,←hK]at*;omega
 | @vF K q b c A hl L h H d=>
  have h1:=k3 hl H
  have h2:=tJ q
  simp only[iC,N.wt,iV,N.h9,iC,iC,Tl]at*;omega
 | @u4 b c h d=>have h2:=lp b c;simp only[iC,N.wt,iV,N.h9,iC,Tl,To,Tw]at*;omega
 | @ur b g c f h j d k=>have h2:=lp b c;have z:=lp g f;simp only[iC,N.wt,iV,N.h9,iC,Tl,To,Tw]at*;omega
 | @red b g t w c f o B h p j u d l k v=>have h2:=lp b c;simp only[iC,N.wt,iV,N.h9,iC,iC,Tl,To,Tw]at*;omega
 | @uh b g t w c f o B h p j u d l k v=>have h2:=lp b c;simp only[iC,N.wt,iV,N.h9,iC,iC,Tl,To,Tw]at*;omega
 | @uI b g t x w c f o M B h p j u hx d l k v O=>have h2:=lp b c;simp only[iC,N.wt,iV,N.h9,iC,iC,Tl,To,Tw]at*;omega
 | @MW b g c f ks m h0 j hl h P k d=>
  have h1:=k3 hl d
  have h2:=xD m
  simp only[iC,N.wt,iV,N.h9,iC,Tl,To,Tw]at*;omega
 | @Nn b g c f ps q h j A hl p d k l=>
  have h1:=k3 hl l
  have h2:=rJ true q
  have z:=lp b c
  simp only[iC,N.wt,iV,N.h9,iC,iC,Tl,To,Tw]at*;omega
 | @bin C b g c f I h j d k=>
  have h1:=GH C I
  have h2:=lp b c
  have z:=lp g f
  have Q:(if C=2 then[]else[32]:List UInt8).length≤1:=by split<;>decide
  simp only[iC,N.wt,iV,N.h9,iC,Tl,To,Tw]at*;omega
 |pV hs=>simp only[iC,N.wt,iV,N.h9,iC,Ue,Ut,To,←hK];omega
 |pN hs=>simp only[iC,N.wt,V.wt,iV,N.h9,iC,Ue,Ut,←hK];omega
 | @pT s hs r=>have:=qj s;simp only[iC,N.wt,V.wt,iV,N.h9,iC,Ue,Ut];omega
 | @pI y ks m E r hl h d=>
  have h1:=k3 hl d
  have h2:=th y m
  simp only[iC,N.wt,iV,N.h9,iC,iC,Tl,To,Tw]at*;unfold pj at h2;omega
 | @Nv b o c f h j R d k=>have h2:=lp o f;simp only[iC,N.wt,iV,N.h9,iC,iC,Tl,To,Tw]at*;omega
 |MV hs=>simp only[iC,N.wt,iV,iC,To,←hK];omega
 | @L9 ps q A hl p l=>
  have h1:=k3 hl l
  have h2:=k5 [44,32] q
  simp only[iC,N.wt,iV,N.h9,iC,Tl,To,Tw]at*;omega
 | @MU ks ps q A hk hl p l=>
  have h1:=xF hk hl (fun i h0 h1 h2=>by have:=l i h0 h1 h2;simp only[iC,N.wt,iV,N.h9,Ue,Ut,show(⟨#[]⟩:ByteArray).size=0 from rfl,iC]at this;omega)
  have h2:=k5 [44,32] q
  simp only[iC,N.wt,iV,iC,Tl,To,Tw]at*;omega
 |MR hs=>simp only[iC,N.wt,iV,N.h9,iC,Ue,Ut,To,←hK];omega
 | @DU s w f hs p l=>simp only[iC,N.wt,iV,N.h9,iC,iC,Ue,Ut,Tl,To,Tw,←hK]at*;omega
 | @EM s w f r p l=>have:=qj s;simp only[iC,N.wt,V.wt,iV,N.h9,iC,iC,Ue,Ut,Tl,To,Tw]at*;omega
 | @df s ps b c hs p h d=>have h1:=EP ps;unfold pj at h1;simp only[iC,N.wt,iV,N.h9,iC,iC,Tl,To,Tw,←hK]at*;omega
theorem sQ{n:N}{b:List UInt8}(h:Gd 0 n b):b.length≤64*n.wt:=by have:=K8 h;omega
def k6(op:ByteArray):Bool:=(List.range 25).all (fun k=>k==0||decide (op≠jQ k))&&decide (op≠Cy)&&decide (op≠Cs)
theorem iN{n:N}{t:List UInt8}(h:k6 (iz n))(b:km 38 n t (kr n)):CQ n t:=by
 unfold k6 at h
 simp only[Tx,TA,Uk,TO,Uh]at h
 exact F9 (fun k hk e=>(h.1.1 k (UH.2 Ac)).elim (fun h=>by omega) (fun h=>h e)) h.1.2 h.2 b
def PK:Nat→N→List UInt8→Prop
 |0,n,t=>CQ n t
 |1,n,t=>Fc n t
 |2,n,t=>PT n t
 |3,n,t=>match n with| .mk _ _ _ _ [k,v] _ _=>H9 k v t|_=>True
 |_,n,t=>match n with| .mk _ _ _ _ [k] [p] _=>Lo k p t|_=>True
theorem tC{k:Nat}{n:N}{t:List UInt8}(h:Gd k n t):(k=0→iz n≠CX∧iz n≠Cn)∧(k=1→iz n≠Cn):=by
 cases h with
 |bin c h d=>
  refine⟨fun _=>?_,fun h=>by cases h⟩
  have:∀b:Fin 25,1≤b.val→jQ b.val≠CX∧jQ b.val≠Cn:=by decide+kernel
  exact this ⟨_,Ac⟩ c.1
 |_=>all_goals exact⟨fun h=>by first|exact Tu h Ah|(refine⟨?_,?_⟩<;>(simp only[iz];decide)),fun h=>by first|exact Tu h Ah|(simp only[iz];decide)⟩
abbrev Pf:ByteArray:=CX
theorem vG{k:N}{t:List UInt8}{P:Prop}(h:Gd 0 k t){w:N}(hk:k.wt≤w.wt)(hw:w.wt≤1048576):t.length≤67108864:=by have:=sQ h;omega
theorem PF(b c:ByteArray)(d:V)(k:N)(ks:List N):k.wt≤N.wt (.mk b c d [] (k::ks) [] []):=by simp only[N.wt,N.h9];omega
theorem Ib{b:Nat}{n:N}{t:List UInt8}{c:Int→Fd→Prop}{L:Prop}(hL:n.wt≤1048576→L)(h:L→km b n t c):km b n t c:=fun d f g j hD0 l hw=>h (hL hw) d f g j hD0 l hw
theorem IF{b:Nat}{n:N}{t:List UInt8}{L:Prop}(hL:n.wt≤1048576→L)(h:L→KO b n t):KO b n t:=fun c d f g hD0 j hw=>h (hL hw) c d f g hD0 j hw
theorem HQ{b:ByteArray}{ks:List N}{k:N}{t:List UInt8}(c:Bool)(d:decide (b=CH)=c)(f:CQ k t)(g:iz k≠Pf):Lm b ks k (n4 c k t):=by subst d;exact EG f g
section
variable{k:N}{t:List UInt8}
theorem EA{b g:ByteArray}{ks:List N}{s:List UInt8}{d:Bool}(f:b≠CH∧b≠iL∧b≠jn)(j:Gd 0 k t)(o:CQ k t)(l:Ft (.mk b g V0 [] (k::ks) [] []) d s)(hs:s≠[]):km 70 (.mk b g V0 [] (k::ks) [] []) (if d then tH k t s else qz k t s) (kr (.mk b g V0 [] (k::ks) [] [])):=by
 have m:Lm b ks k (n4 false k t):=HQ false (Ti f.1) o ((tC j).1 rfl).1
 by_cases c:iz k=CE
 ·have h1:=y1 m f.2.1 f.2.2 l c
  cases d with
  |true=>rw[TU rfl,tH,TU c];exact h1
  |false=>rw[TI Ah,qz,TU c];exact h1
 refine Ib (L:=t.length≤67108864) (fun hw=>vG (P:=True) j (PF b g V0 k ks) hw) (fun ht=>?_)
 have h1:=Kn m f.2.1 f.2.2 l c (by have:=ny false k t;omega) (by cases d<;>simp[hs])
 cases d with
 |true=>rw[TU rfl,tH,TI c];exact h1
 |false=>rw[TI Ah,qz,TI c];exact h1
theorem Ly{b c:ByteArray}{ks:List N}{s:List UInt8}{j l:Bool}(d:Bool)(m:decide (b=CH)=d)(f:b≠iL∧b≠jn)(g:Gd 0 k t)(o:CQ k t)(p:N1 (.mk b c V0 [] (k::ks) [] []) j l s)(hs:s≠[]):km 70 (.mk b c V0 [] (k::ks) [] []) (ib (n4 d k t) (false,s)) (kr (.mk b c V0 [] (k::ks) [] [])):=
 Ib (L:=t.length≤67108864) (fun hw=>vG (P:=True) g (PF b c V0 k ks) hw) (fun ht=>KN (HQ d m o ((tC g).1 rfl).1) f.1 f.2 p (by have:=ny d k t;omega) hs)
end
theorem Ep{b:ByteArray}{l:List ByteArray}{ks:List N}{s:List UInt8}(F:b=⟨#[]⟩∨b∈ri)(hs:s≠[])(z:Oh b (.mk Cp b V0 l ks [] []) s):km 66 (.mk Cp b V0 l ks [] []) (uz b++s) (kr (.mk Cp b V0 l ks [] [])):=by
 intro g m A B hD0 C hw
 refine(z g m A B hD0 C hw).mono fun e c o=>?_
 obtain⟨r,d,rfl,f,p,q,rfl,u,v,w,y⟩:∃r:Fr [] g c,∃d,e=.returned d∧∃f p q,d=.tuple #[Pt f,.bool true]∧Dm m g.heap.size c.heap.size f∧c.heap[f]? =some (.cells (G1 b p) 125 (0,0))∧HF c (Dm m g.heap.size c.heap.size) (.p q) (Pt p)∧Pr 7 q s:=by
  cases e with
  |returned d=>exact⟨o.1,d,rfl,o.2⟩
  |_=>exact o.elim
 refine hH.mk r ⟨f,rfl,trivial,?_⟩
 have j:¬(Cp:ByteArray)=iL:=by decide
 by_cases h0:b=⟨#[]⟩
 ·subst h0
  have:=zM u (by simpa only[G1,TU]using v) w y hs
  rw[uz,TU rfl]
  exact this.up (fun _ h=>h) (fun D E hc=>⟨fun h=>Tu h j,fun h=>Tu h j,fun _=>by rw[hc.1];decide⟩)
 have:=GZ (s:=b) u (by simpa only[G1,TI h0]using v) w y
 rw[uz,TI h0]
 exact this.up (fun _ h=>h) (fun D E hc=>⟨fun h=>Tu h j,fun h=>Tu h j,fun _=>by rw[hc.1];decide⟩)
theorem zh{k:Nat}{n:N}{t:List UInt8}(h:Gd k n t):PK k n t:=by
 induction h with
 |dot=>exact iN B6 zz
 |LM=>exact iN B6 EY
 |val g=>exact iN (show k6 ⟨#[118,97,108]⟩=true by decide+kernel) (zf g)
 |fmt hs=>exact iN (show k6 ⟨#[102,111,114,109,97,116]⟩=true by decide+kernel) (EE hs)
 |za hs=>exact iN (show k6 ⟨#[98,114,101,97,107]⟩=true by decide+kernel) (AJ hs)
 |var hs=>exact iN (show k6 ⟨#[36]⟩=true by decide+kernel) (By hs)
 |Lg z m g hl h b=>exact iN (show k6 ⟨#[116,101,120,116]⟩=true by decide+kernel) (yQ rfl (Ep z Al (rb z m g hl b)))
 |zO=>exact iN (show k6 ⟨#[108,105,115,116]⟩=true by decide+kernel) (xl rfl y4)
 |zH h b=>exact iN (show k6 ⟨#[108,105,115,116]⟩=true by decide+kernel) (xl rfl (yr b))
 |obj hl h b=>exact iN (show k6 ⟨#[111,98,106,101,99,116]⟩=true by decide+kernel) (Gm rfl (uJ rfl (u9 hl b)))
 |call hs hl h b=>exact iN (show k6 ⟨#[99,97,108,108]⟩=true by decide+kernel) (yR hs.1 hl b)
 | @FP s k t g h b=>
  refine iN (show k6 Cu=true by decide+kernel) (Ff rfl ?_)
  have h0:iq s≠[]:=by unfold iq;split;(rename_i m;intro e;rw[e]at m;cases m);simp[qL]
  refine EA (d:=true) Ah h b ?_ h0
  unfold iq
  cases m:jI s.data.toList with
  |true=>exact z6 m
  |false=>exact Db m g
 |idx h l b c=>exact iN (show k6 ⟨#[105,110,100,101,120]⟩=true by decide+kernel) (F2 rfl (EA (d:=false) Ah h b (Gn c) Al))
 |LD h l r u v b c o=>exact iN (show k6 ⟨#[115,108,105,99,101]⟩=true by decide+kernel) (sy rfl (EA (d:=false) Ah h b (Gy c o u v) Al))
 |LW h l u b c=>exact iN (show k6 ⟨#[115,108,105,99,101]⟩=true by decide+kernel) (sy rfl (EA (d:=false) Ah h b (FC c u) Al))
 |slt h r v b o=>exact iN (show k6 ⟨#[115,108,105,99,101]⟩=true by decide+kernel) (sy rfl (EA (d:=false) Ah h b (FT o v) Al))
 |each h b=>exact iN (show k6 ⟨#[101,97,99,104]⟩=true by decide+kernel) (F7 rfl (Ly false Ah Ah h b D5 Al))
 |opt h b=>exact iN (show k6 ⟨#[63]⟩=true by decide+kernel) (GA rfl (Ly true Ah Ah h b F3 Al))
 |neg h b=>exact iN (show k6 ⟨#[110,101,103]⟩=true by decide+kernel) (DI b)
 |HZ hs h b=>exact iN (show k6 ⟨#[108,97,98,101,108]⟩=true by decide+kernel) (zS hs b)
 | @vF A F k t p hl G h B b=>
  refine yD rfl (fun y q=>?_) (IF (L:=t.length≤67108864) (fun hw=>vG (P:=True) h (w:=.mk Cs ⟨#[]⟩ V0 [] [k] [] A) (by simp only[N.wt,N.h9];omega) hw) (fun ht=>tG p hl B b Ac))
  exact fun e=>(oF y q).2.2.2 e.symm
 |u4 h b=>exact iN (show k6 ⟨#[116,114,121]⟩=true by decide+kernel) (xG rfl (x8 b))
 |ur h l b c=>exact iN (show k6 ⟨#[116,114,121]⟩=true by decide+kernel) (xG rfl (yZ b c))
 |red h j l r b f c o=>exact iN (show k6 ⟨#[114,101,100,117,99,101]⟩=true by decide+kernel) (FN rfl (uQ rfl (EH b f c o)))
 |uh h j l r b f c o=>exact iN (show k6 ⟨#[102,111,114,101,97,99,104]⟩=true by decide+kernel) (xa rfl (ou rfl (yj b f c o)))
 |uI h j l r hx b f c o C=>exact iN (show k6 ⟨#[102,111,114,101,97,99,104]⟩=true by decide+kernel) (xa rfl (ou rfl (y0 b f c o C)))
 |MW h0 l hl h D c b=>
  refine iN (show k6 CA=true by decide+kernel) (Gs rfl (Gk rfl (zq hl (fun i h1 h2=>?_))))
  match i,h1 with
  |0,_=>exact D
  |1,_=>exact c
  |i+2,h1=>exact b i AW A4
 |Nn h l p hl j b c f=>
  refine zj rfl (fun y q=>?_) (yM b c p hl (oD hl f))
  exact fun e=>(oF y q).2.2.1 e.symm
 |bin q h l b c=>exact y3 q rfl (vi q (kZ b) (kZ c))
 |pV hs=>exact Ts ⟨rfl,yY hs⟩
 |pN hs=>exact Ts ⟨rfl,Fj hs⟩
 |pT hs g=>exact Ts ⟨rfl,HC hs g⟩
 |pI m g hl h b=>exact Ts ⟨rfl,yK (rb (Ts rfl) m g hl b)⟩
 |Nv h l E b c=>exact Tk ⟨E,_,_,b,kZ c,rfl⟩
 |MV hs=>exact GL hs
 |L9 p hl j f=>exact Fw p hl (oD hl f)
 |MU p hk hl j f=>exact Hw p hk hl f
 |MR hs=>exact Nc hs
 |DU hs j f=>exact Jq hs ((tC j).2 rfl) f
 |EM g j f=>exact Ju g ((tC j).2 rfl) f
 |df hs j h b=>exact⟨_,_,_,_,rfl,hs,j,b,rfl⟩
theorem vV(f:HF w D (.p gH) (Pt m))(g:Pr 0 gH L)(j:∀b,D b→b<w.heap.size)(h2:2≤w.heap.size)(k:ij w)(ht:L.length≤17592186044416):Calls Tryz.prog 13 #[Pt m] w (hH w [] fun l _=>l=.string ⟨L.toArray⟩):=by
 refine cY Tryz.func13 fun c=>ac 6<|al F.PL rfl fun d o H I J p=>au 4 ?_
 obtain⟨K,q,r,t,u,y,z⟩:=f.ptr
 cases t
 have A:Wr w D 40 gH L:=writes g
 refine cX (A r z _ q u y o d d [] (Kp.of c.g (fun b hc=>by simp)) c.g.size (fun b hc=>Tj (j b hc) Ac) (Tq h2 Ac) (k.fr c.g (fun b hc=>by simp)) (Bf.new p) (by simpa using ht) rfl) fun M O B _ C=>au 3<|cX (BS C) ?_
 rintro _ P E _ ⟨rfl,_⟩
 have c:=(c.g.put B.f (fun i hi=>Tk (Tq Ac (kA.1 hi).1))).put E.f (fun i hi=>Tk (Tq Ac (kA.1 hi).1))
 exact au 3<|hD.jR (v:=.string ⟨([]++L).toArray⟩) rfl (hH.mk c (by rw[TN]))
theorem rF{n:N}(g:Gd 0 n L)(d:World)(f:Nat→Prop)(j:Array Value)(k:RN d f 0 n j)(hD0:∀b,f b→b<d.heap.size)(q:TB d)(r:ij d)(h2:2≤d.heap.size)(hw:n.wt≤1048576):Calls Tryz.prog 6 #[.agg j] d (hH d [] fun t _=>t=.tuple #[.string ⟨L.toArray⟩,.bool true]):=by
 have u:CQ n L:=zh g
 have hlen:=sQ g
 obtain⟨F,G,H,I,J,K,M⟩:=n
 obtain⟨O,P,Q,R,S,T,U,W,X,Y,Z,aa,ab,ad,rfl⟩:=k.hI
 refine cY Tryz.func6 fun c=>ac 2<|bX rfl fun ae v af ag ah w=>au 5<|lw w rfl rfl ?_
 obtain⟨y,l⟩:=nm v
 have ai:=c.g.le l
 refine cX (u _ f _ (k.fr c.g Az) (fun b hc=>Tj (hD0 b hc) c.g.size) (q.at c.g) hw) ?_
 rintro _ m aj ak ⟨al,rfl,z,A,B⟩
 obtain⟨am,o,C⟩:=B.hf (Tk ⟨z,A⟩)
 obtain⟨D,p⟩:=nm m
 rw[←l,←p]at o
 have E:∀b,Dm f y D b→b<m.heap.size:=fun b hc=>by rcases hc with hc|hc;exact Tj (hD0 b hc) c.g.size;rw[←p];exact hc.2
 refine au 17<|cX (vV o C E (Tq h2 c.g.size) (r.fr c.g (fun b hc=>by simp)) Ac) ?_
 rintro _ an ao ap rfl
 exact au 4<|hD.ia rfl rfl (hH.mk c.g rfl)
theorem N.wP:∀{l:List N}{i:Nat}(h:i+1<l.length),(l[i]'(TW h)).wt+l[i+1].wt≤N.h9 l
 |[],_,h=>by simp at h
 |b::c::l,0,_=>by simp only[TF,TZ,N.h9];omega
 |[b],0,h=>by simp at h
 |b::l,i+1,h=>by
  have:=N.wP (l:=l) (i:=i) AU
  simp only[TZ,N.h9];omega
theorem tR:∀(b:List (List UInt8))(ks:List N),ks.length=2*b.length→(∀(i:Nat)(h1:2*i+1<ks.length)(h2:i<b.length),∃d f,Xr 0 (ks[2*i]'(TW h1)) d∧Xr 0 ks[2*i+1] f∧Oe d f b[i])→
  ∃c:List N,ks.length=c.length∧(∀(i:Nat)(h1:i<ks.length)(h2:i<c.length),Xr 0 ks[i] c[i])∧∀(i:Nat)(h1:2*i+1<c.length)(h2:i<b.length),Oe (c[2*i]'(TW h1)) c[2*i+1] b[i]
 |[],ks,h,_=>by
  have:ks=[]:=Tn AU
  subst this
  exact⟨[],rfl,oW,fun i h=>by simp at h⟩
 |k::b,[],h,_=>by simp at h
 |k::b,[_],h,_=>by simp only[To,Tw]at h;omega
 |k::b,p::q::ks,h,l=>by
  obtain⟨c,hx,h1,h2⟩:=tR b ks (by simp only[To]at h;omega) (fun i h1 h2=>l (i+1) AM A4)
  obtain⟨d,f,hk,m,o⟩:=l 0 Al Al
  refine⟨d::f::c,by simp[hx],fun i g j=>?_,fun i g j=>?_⟩
  ·match i with
   |0=>exact hk
   |1=>exact m
   |i+2=>exact h1 i (by simpa using g) (by simpa using j)
  ·match i with
   |0=>exact o
   |i+1=>exact h2 i (by simp only[To]at g;omega) (by simpa using j)
def Mo(k:Nat)(n:N)(t:List UInt8):Prop:=match k with
 |0=>∃x,Rd n x t
 |1=>Pa n t
 |2=>∃d,Xr 2 n d∧Df d t∧∃u,t=[100,101,102]++32::u
 |3=>∃k v k' v',n=mR k v∧Xr 0 k k'∧Xr 0 v v'∧Oe k' v' t
 |_=>∃k p,n=wb k p∧Pe k p t
theorem nd{ks ps:List N}(h:t≠Cs):iz (.mk t sA vH S ks ps Q)≠Cs:=h
theorem l0:([]:List N).length=([]:List N).length∧∀(i:Nat)(h1:i<([]:List N).length)(h2:i<([]:List N).length),Xr 0 ([]:List N)[i] ([]:List N)[i]:=⟨rfl,fun i h=>by simp at h⟩
theorem Kl{f:Nat}{n:N}{b:List UInt8}(h:Gd f n b):n.wt≤1048576→Mo f n b:=by
 induction h with
 |dot=>intro _;exact⟨_,.mc (iK rfl Ah l0) zs (nd Ah)⟩
 |LM=>intro _;exact⟨_,.mc (iK rfl Ah l0) IP (nd Ah)⟩
 | @val m b h=>
  intro hw
  obtain⟨x,hx,E,ht⟩:=Ki h (by simp only[N.wt]at hw;omega)
  have r:Pq x b:=⟨E.st.s0,fun d hc=>q3 (E.u d (Tk hc)) hc (E.st.d d hc.nm)⟩
  refine⟨x,.val hx,r,fun hu=>ht ?_,fun _=>E.st.d,fun e=>Tu e (nd Ah)⟩
  unfold nN at hu
  rw[TO,Tx]at hu
  rcases hu with hu|hu
  ·exfalso;revert hu;simp[nL,iz]
  simpa using hu.2
 |fmt hs=>intro _;exact⟨_,.mc (iK rfl Ah l0) (Ji hs) (nd Ah)⟩
 | @za s hs=>intro hw;exact⟨_,.mc (iK rfl Ah l0) (Ku hs BO) (nd Ah)⟩
 | @var s hs=>intro hw;exact⟨_,.mc (iK rfl Ah l0) (Jo hs BO) (nd Ah)⟩
 | @Lg R y ks F S ac T hl h j=>
  intro hw
  simp only[N.wt]at hw
  obtain⟨t,hx,z⟩:=many (P:=Rd) (fun i h1 h2=>j i h1 h2 Bb) hl
  have U:∀x∈y,nG x:=fun s hs=>by obtain⟨i,hi,rfl⟩:=T0 hs;have:=lM hi;show _≤_;omega
  have W:y.length≤1048576:=by have:=jY y;omega
  have r:∀(i:Nat)(h1:i<t.length)(h2:i<F.length),Pq t[i] F[i]:=fun i h1 h2=>(z i Ac h1 h2).pq
  have aw:Te (xy R y t) (uz R++([34]++lj y F++[34])):=by
   rcases S with rfl|S
   ·exact GC Ac Ac r W U
   have:R≠⟨#[]⟩:=fun e=>by subst e;obtain⟨X,e,_⟩:=qf S;cases e
   rw[uz,TI this]
   exact FO S Ac Ac r W U
  refine⟨_,.mc ?_ aw (nd Ah)⟩
  by_cases h0:t.length=0∧R=⟨#[]⟩
  ·obtain⟨h1,rfl⟩:=h0
   have ad:t=[]:=Tn h1
   have ae:ks=[]:=Tn Ac
   subst ad;subst ae
   match y,ac with
   |[s],_=>exact .rm
  rw[xy,TI h0]
  exact .node rfl (fun _=>by
   by_cases h1:t.length=0
   ·exact Tk (fun e=>h0 ⟨h1,e⟩)
   left;omega) hx (fun i h1 h2=>(z i h1 h2 Ac).xr)
 |zO=>intro _;exact⟨_,.mc (iK rfl Ah l0) tw (nd Ah)⟩
 | @zH f b h j=>
  intro hw
  simp only[N.wt,N.h9]at hw
  obtain⟨x,hx⟩:=j Ac
  exact⟨_,.mc (iK rfl Ah (l1 hx.xr)) (xe hx.pq) (nd Ah)⟩
 | @obj ks F hl h j=>
  intro hw
  simp only[N.wt]at hw
  obtain⟨t,hx,h1,h2⟩:=tR F ks hl (fun i h1 h2=>by
   obtain⟨f,m,ax,ay,e,G⟩:=j i h1 h2 (by have:=N.wP h1;have aJ:(Cm:ByteArray).size=6:=rfl;have aK:(⟨#[]⟩:ByteArray).size=0:=rfl;have J:V0.wt=1:=rfl;simp only[N.wt,N.h9,Ue,Ut];omega)
   injection e with _ _ _ _ e _ _
   injection e with J e
   injection e with e2 _
   rw[J,e2]
   exact⟨ax,ay,G⟩)
  have:=N.iw ks
  exact⟨_,.mc (iK rfl Ah ⟨hx,h1⟩) (DY Ac h2 Ac) (nd Ah)⟩
 | @call s ks F hs hl h j=>
  intro hw
  simp only[N.wt]at hw
  obtain⟨t,hx,z⟩:=many (P:=Rd) (fun i h1 h2=>j i h1 h2 Bb) hl
  have:=N.iw ks
  exact⟨_,.mc (iK rfl Ah ⟨hx,fun i h1 h2=>(z i h1 h2 Ac).xr⟩) (FU hs BR Ac (fun i h1 h2=>(z i Ac h1 h2).pq) Ac) (nd Ah)⟩
 | @FP s f b T h j=>
  intro hw
  simp only[N.wt,N.h9]at hw
  obtain⟨x,hx⟩:=j Ac
  exact⟨_,.mc (iK rfl Ah (l1 hx.xr)) (Hg hx h BR) (nd Ah)⟩
 | @idx f u b k h C o p=>
  intro hw
  simp only[N.wt,N.h9]at hw
  obtain⟨x,hx⟩:=o Ac
  obtain⟨v,g⟩:=p Ac
  exact⟨_,.mc (iK rfl Ah (l2 hx.xr g.xr)) (by have:=p2 hx h (s:=k++[93]) (fun af d e=>by subst e;exact Jh g.pq d);simpa using this) (nd Ah)⟩
 | @LD f u G b k m h C E az a0 o p I=>
  intro hw
  simp only[N.wt,N.h9]at hw
  obtain⟨x,hx⟩:=o Ac
  obtain⟨v,g⟩:=p Ac
  obtain⟨ag,A⟩:=I Ac
  exact⟨_,.mc (iK rfl Ah (l3 hx.xr g.xr A.xr)) (by have:=p2 hx h (s:=k++[58]++m++[93]) (fun af d e=>by subst e;exact Ns g.pq A.pq d);simpa using this) (nd Ah)⟩
 | @LW f u b k h C az o p=>
  intro hw
  simp only[N.wt,N.h9]at hw
  obtain⟨x,hx⟩:=o Ac
  obtain⟨v,g⟩:=p Ac
  exact⟨_,.mc (iK rfl Ah (l3 hx.xr g.xr .none)) (by have:=p2 hx h (s:=k++[58]++[93]) (fun af d e=>by subst e;exact G2 g.pq d);simpa using this) (nd Ah)⟩
 | @slt f G b m h E a0 o p=>
  intro hw
  simp only[N.wt,N.h9]at hw
  obtain⟨x,hx⟩:=o Ac
  obtain⟨v,g⟩:=p Ac
  exact⟨_,.mc (iK rfl Ah (l3 hx.xr .none g.xr)) (by have:=p2 hx h (s:=[58]++m++[93]) (fun af d e=>by subst e;exact Mk g.pq d);simpa using this) (nd Ah)⟩
 | @each f b h j=>
  intro hw
  simp only[N.wt,N.h9]at hw
  obtain⟨x,hx⟩:=j Ac
  exact⟨_,.mc (iK rfl Ah (l1 hx.xr)) (xh (s:=[93]) (hx.bs false) (fun d=>HE d)) (nd Ah)⟩
 | @opt f b h j=>
  intro hw
  simp only[N.wt,N.h9]at hw
  obtain⟨x,hx⟩:=j Ac
  exact⟨_,.mc (iK rfl Ah (l1 hx.xr)) (JE (hx.bs true)) (nd Ah)⟩
 | @neg f b h j=>
  intro hw
  simp only[N.wt,N.h9]at hw
  obtain⟨x,hx⟩:=j Ac
  exact⟨_,.x9 (iK rfl Ah (l1 hx.xr)) (KK hx.bx) (tt (c:=45) (neg:=true) ⟨_,rfl⟩ rfl Ah (fun h=>by cases h)) (by rfl) (nd Ah)⟩
 | @HZ s f b hs h j=>
  intro hw
  simp only[N.wt,N.h9]at hw
  obtain⟨x,hx⟩:=j Ac
  have e:[108,97,98,101,108,32]++(36::s.data.toList)++[32,124,32]++b=[108,97,98,101,108]++32::(36::s.data.toList++[32,124,32]++b):=by simp
  rw[e]
  exact⟨_,.x9 (iK rfl Ah (l1 hx.xr)) (Du hs BR hx.pq) (tt (c:=108) (neg:=true) ⟨_,rfl⟩ rfl Ah (fun h=>by cases h)) (by rfl) (nd Ah)⟩
 | @vF ah q f b K hl aL h a1 j=>
  intro hw
  simp only[N.wt,N.h9]at hw
  obtain⟨x,hx⟩:=j Ac
  obtain⟨L,am,ai⟩:=many (P:=fun a2 an k=>Xr 2 a2 an∧Df an k∧∃m,k=[100,101,102]++32::m) (fun i h1 h2=>a1 i h1 h2 Bb) hl
  have hlen:=N.iw ah
  have ao:∀aj ak O,DS (32::aj) O ak→DS (32::((q.map (· ++[32])).flatten++aj)) (L++O) ak:=fun aj ak O h=>Iq h L q Ac (fun i h1 h2=>(ai i Ac h1 h2).2.1)
  have a3:∃m,(q.map (· ++[32])).flatten++b=[100,101,102]++32::m:=by
   cases q with
   |nil=>simp only[Tw]at hl;omega
   |cons k q=>
    obtain⟨m,e⟩:=(ai 0 Ac Ac Al).2.2
    simp only[TF]at e
    exact⟨m++[32]++(q.map (· ++[32])).flatten++b,by rw[e];simp⟩
  obtain⟨m,ap⟩:=a3
  have a4:S0 ((q.map (· ++[32])).flatten++b):=by rw[ap];exact⟨100,_,rfl,rfl,by decide,by decide,by decide⟩
  have aq:∀(Y:List N)(Z:N)(M:List UInt8),Y.length≤1048576→Pq Z M→(∀d,jt false (kM d)=false→DS (32::(((q.map (· ++[32])).flatten++b)++d)) Y (32::(M++d)))→Pq (nK Y Z) ((q.map (· ++[32])).flatten++b):=fun Y Z M a5 aa al=>⟨a4,fun d hc=>by
   have e:lx (((q.map (· ++[32])).flatten++b)++d)=(iY,Cs,32::m++d):=by rw[ap,Ty];exact kY (w:=[100,101,102]) (l:=32::m++d) rfl rfl
   exact Jx e (zw (L:=32::(((q.map (· ++[32])).flatten++b)++d)) (L1:=32::(M++d)) (al d hc.nm) a5 (aa.rd d hc))⟩
  have ar:∀(i:Nat)(h1:i<ah.length)(h2:i<L.length),Xr 2 ah[i] L[i]:=fun i h1 h2=>(ai i h1 h2 Ac).1
  by_cases hk:iz f=Cs
  ·obtain⟨O,Z,M,rfl,aM,aa,al⟩:=hx.df hk
   have Q:∀d,jt false (kM d)=false→DS (32::(((q.map (· ++[32])).flatten++b)++d)) (L++O) (32::(M++d)):=fun d hL=>by rw[Ty];exact ao _ _ _ (al d hL)
   exact⟨_,.sL hk am ar hx.xr,aq _ _ _ (by rw[Tl];omega) aa Q,(fun e=>by cases e),(fun e=>Tu rfl e),fun _=>⟨_,_,_,rfl,by rw[Tl];simp only[N.wt,N.h9];omega,aa,Q⟩⟩
  have Q:∀d,jt false (kM d)=false→DS (32::(((q.map (· ++[32])).flatten++b)++d)) L (32::(b++d)):=fun d hL=>by
   rw[Ty]
   have:=ao (b++d) _ _ (.nil (hx.st hk d hL))
   rwa[T3]at this
  exact⟨_,.vF hk am ar hx.xr,aq _ _ _ Ac hx.pq Q,(fun e=>by cases e),(fun e=>Tu rfl e),fun _=>⟨_,_,_,rfl,by simp only[N.wt,N.h9];omega,hx.pq,Q⟩⟩
 | @u4 f b h j=>
  intro hw
  simp only[N.wt,N.h9]at hw
  obtain⟨x,hx⟩:=j Ac
  exact⟨_,.x9 (iK rfl Ah (l1 hx.xr)) (Hy hx.bx) (tt (c:=116) (neg:=true) ⟨_,rfl⟩ rfl Ah (fun h=>by cases h)) (by rfl) (nd Ah)⟩
 | @ur f u b k h C o p=>
  intro hw
  simp only[N.wt,N.h9]at hw
  obtain⟨x,hx⟩:=o Ac
  obtain⟨v,g⟩:=p Ac
  have e:[116,114,121,32]++bx f b++[32,99,97,116,99,104,32]++bx u k=[116,114,121]++32::(bx f b++[32,99,97,116,99,104,32]++bx u k):=by simp
  rw[e]
  exact⟨_,.x9 (iK rfl Ah (l2 hx.xr g.xr)) (GV hx.bx g.bx) (tt (c:=116) (neg:=true) ⟨_,rfl⟩ rfl Ah (fun h=>by cases h)) (by rfl) (nd Ah)⟩
 | @red f u G D b k m H h r C E o B p I=>
  intro hw
  simp only[N.wt,N.h9]at hw
  obtain⟨x,hx⟩:=o Ac
  obtain⟨v,g⟩:=p Ac
  obtain⟨ag,A⟩:=I Ac
  have e:[114,101,100,117,99,101,32]++bx f b++[32,97,115,32]++H++[32,40]++k++[59,32]++m++[41]=[114,101,100,117,99,101]++(32::(bx f b++[32,97,115,32]++H++[32,40]++k++[59,32]++m++[41])):=by simp
  rw[e]
  exact⟨_,.mc (iK rfl Ah (l3 hx.xr g.xr A.xr)) (wM (Ts rfl) hx.bx (B Ac) g.pq A.pq) (nd Ah)⟩
 | @uh f u G D b k m H h r C E o B p I=>
  intro hw
  simp only[N.wt,N.h9]at hw
  obtain⟨x,hx⟩:=o Ac
  obtain⟨v,g⟩:=p Ac
  obtain⟨ag,A⟩:=I Ac
  have e:[102,111,114,101,97,99,104,32]++bx f b++[32,97,115,32]++H++[32,40]++k++[59,32]++m++[41]=[102,111,114,101,97,99,104]++(32::(bx f b++[32,97,115,32]++H++[32,40]++k++[59,32]++m++[41])):=by simp
  rw[e]
  exact⟨_,.mc (iK rfl Ah (l3 hx.xr g.xr A.xr)) (wM (Tk rfl) hx.bx (B Ac) g.pq A.pq) (nd Ah)⟩
 | @uI f u G a D b k m X H h r C E aN o B p I a6=>
  intro hw
  simp only[N.wt,N.h9]at hw
  obtain⟨x,hx⟩:=o Ac
  obtain⟨v,g⟩:=p Ac
  obtain⟨ag,A⟩:=I Ac
  obtain⟨aO,au⟩:=a6 Ac
  have e:[102,111,114,101,97,99,104,32]++bx f b++[32,97,115,32]++H++[32,40]++k++[59,32]++m++[59,32]++X++[41]=[102,111,114,101,97,99,104]++(32::(bx f b++[32,97,115,32]++H++[32,40]++k++[59,32]++m++[59,32]++X++[41])):=by simp
  rw[e]
  exact⟨_,.mc (iK rfl Ah (l4 hx.xr g.xr A.xr au.xr)) (DN hx.bx (B Ac) g.pq A.pq au.pq) (nd Ah)⟩
 | @MW f u b k ks F h0 C hl h o p j=>
  intro hw
  simp only[N.wt,N.h9]at hw
  obtain⟨x,hx⟩:=o Ac
  obtain⟨v,g⟩:=p Ac
  obtain⟨t,hxl,z⟩:=many (P:=Rd) (fun i h1 h2=>j i h1 h2 Bb) hl
  have:=N.iw ks
  have hk:=f.om
  have aP:=u.om
  refine⟨_,.mc (iK (xs:=x::v::t) rfl Ah ⟨by simp[hxl],fun i h1 h2=>?_⟩) (Lt hx.pq g.pq Ac (fun i h1 h2=>(z i Ac h1 h2).pq) AM) (nd Ah)⟩
  match i with
  |0=>exact hx.xr
  |1=>exact g.xr
  |i+2=>exact(z i AW A4 Bn).xr
 | @Nn f u b k ps q h C K hl r o p B=>
  intro hw
  simp only[N.wt,N.h9]at hw
  obtain⟨x,hx⟩:=o Ac
  obtain⟨v,g⟩:=p Ac
  have:=N.iw ps
  refine⟨_,.x9 (neg:=false) (iK rfl Ah (l2 hx.xr g.xr)) (M7 hx.bx g.pq K hl (fun i h1 h2=>B i h1 h2 Bb) Ac) ?_ (by rfl) (nd Ah)⟩
  have e:bx f b++[32]++iR true q++[124,32]++k=bx f b++32::(iR true q++[124,32]++k):=by simp
  rw[e]
  exact hx.bx.st.app (fun d _=>rfl)
 | @bin w f u b k a7 h C o p=>
  intro hw
  simp only[N.wt,N.h9]at hw
  obtain⟨x,hx⟩:=o Ac
  obtain⟨v,g⟩:=p Ac
  have a8:∀w,w<25→w=0∨(OO O4 (jQ w)=false∧jQ w≠Cp∧nL.any (fun x=>decide (jQ w=x))=false∧jQ w≠Cr∧jQ w≠Cs):=by decide
  obtain⟨a9,aA,aB,aC,aD⟩:=(a8 w Ac).resolve_left Ac
  refine⟨_,.x9 (neg:=true) (iK a9 aA (l2 hx.xr g.xr)) (I6 a7 hx.bx g.bx) (zB hx.bx) ?_ (nd aD)⟩
  have e:∀ab:N,iz ab=jQ w→nN ab=(nL.any (fun x=>decide (jQ w=x))||(decide (jQ w=Cr)&& !isNeg ab)):=fun ab aE=>by rw[←aE];rfl
  rw[e _ rfl,aB,Ti aC];rfl
 | @pV s hs=>intro hw;exact⟨_,_,_,_,rfl,iK rfl Ah l0,.none,OQ hs B5⟩
 | @pN s hs=>intro hw;exact⟨_,_,_,_,rfl,.val .text,.none,Pc hs BZ⟩
 | @pT s hs T=>intro hw;exact⟨_,_,_,_,rfl,.val .text,.none,OD BZ⟩
 | @pI y ks F ac T hl h j=>
  intro hw
  simp only[N.wt,N.h9]at hw
  obtain⟨t,hx,z⟩:=many (P:=Rd) (fun i h1 h2=>j i h1 h2 Bb) hl
  have U:∀x∈y,nG x:=fun s hs=>by obtain⟨i,hi,rfl⟩:=T0 hs;have:=lM hi;show _≤_;omega
  have W:y.length≤1048576:=by have:=jY y;omega
  refine⟨_,_,_,_,rfl,?_,.none,O5 Ac Ac (fun i h1 h2=>(z i Ac h1 h2).pq) W U⟩
  by_cases h0:t.length=0
  ·have ad:t=[]:=Tn h0
   have ae:ks=[]:=Tn Ac
   subst ad;subst ae
   match y,ac with
   |[s],_=>exact .rm
  rw[xy,TI (fun h=>h0 h.1)]
  exact .node rfl (fun _=>Ts Ac) hx (fun i h1 h2=>(z i h1 h2 Ac).xr)
 | @Nv f m b k h C aQ o p=>
  intro hw
  simp only[N.wt,N.h9]at hw
  obtain⟨x,hx⟩:=o Ac
  obtain⟨v,g⟩:=p Ac
  exact⟨_,_,_,_,rfl,hx.xr,g.xr,MB hx.pq g.bx⟩
 | @MV s hs=>intro hw;exact IX hs BO
 | @L9 ps q K hl r B=>
  intro hw
  simp only[N.wt]at hw
  have:=N.iw ps
  exact KE K hl (fun i h1 h2=>B i h1 h2 Bb) Ac
 | @MU ks ps q K hk hl r B=>
  intro hw
  simp only[N.wt]at hw
  have:=N.iw ps
  refine IW K hk hl (fun i h0 h1 h2=>?_) Ac
  obtain⟨f,D,e,G⟩:=B i h0 h1 h2 (by have:=N.iP h0;have:=N.iP h1;simp only[N.wt,N.h9,V.wt,V.h9,Ue,Ut];have aF:(CJ:ByteArray).size=1:=rfl;have aG:(⟨#[]⟩:ByteArray).size=0:=rfl;rw[aF]at hw;rw[aG]at hw⊢;simp only[V.wt,V.h9,Ue,Ut]at hw;omega)
  injection e with _ _ _ _ J e2 _
  injection J with J _
  injection e2 with e2 _
  rw[J,e2];exact G
 | @MR s hs=>intro hw;exact⟨_,_,rfl,OV hs B5⟩
 | @DU s D k hs r j=>intro hw;simp only[N.wt,N.h9]at hw;exact⟨_,_,rfl,MA hs BR (j Ac)⟩
 | @EM s D k T r j=>intro hw;simp only[N.wt,N.h9,V.wt]at hw;exact⟨_,_,rfl,Lx BR (j Ac)⟩
 | @df s ps f b hs r h j=>
  intro hw
  simp only[N.wt,N.h9]at hw
  obtain⟨x,hx⟩:=j Ac
  have aH:∀D∈ps,uZ D∧nG D:=fun D av=>⟨r D av,by obtain⟨i,hi,rfl⟩:=T0 av;have:=lM hi;show _≤_;omega⟩
  have aI:ps.length≤1048576:=by have:=jY ps;omega
  exact⟨_,.d hx.xr,M8 hs BR aH aI hx.pq,⟨_,by simp only[Ty];rfl⟩⟩
theorem xW{n:N}(h:Gd 0 n L)(hw:n.wt≤1048576):∃x,Xr 0 n x∧∀b:World,Calls Tryz.prog 7 #[.string ⟨L.toArray⟩] b (hH b [] fun f c=>∃d,f=.tuple #[.agg d,.bool true]∧RN c (Dn b.heap.size c.heap.size) 0 x d):=by
 obtain⟨x,hx⟩:=Kl h hw
 refine⟨x,hx.xr,fun b=>?_⟩
 have hl:=sQ h
 refine zr (L':=[]) ?_ ?_ rfl
 ·show L.toArray.size≤_
  simp only[List.size_toArray];omega
 have:=hx.pq.rd [] Kh
 rwa[T3]at this
end Go.Proofs.YtlojelcoibpphaaGreatDoor
namespace Go.Proofs.YtlojelcoibpphaaGreatDoor
open Go Go.RowKit D
theorem sign_zero(b:World):Calls Tryz.prog 85 #[Zi] b (hH b [] fun c _=>c=Zi):=by
 refine cY Tryz.func85 fun d=>ac 9<|jX rfl rfl (fun f=>?_) (fun f=>?_)
 ·exfalso;omega
 refine au 6<|jG rfl rfl (fun g=>?_) (fun g=>?_)
 ·exfalso;omega
 exact au 9<|rX d rfl
theorem qv(s:ByteArray)(b:World):Calls Tryz.prog 86 #[.string s,.string s] b (hH b [] fun f _=>f=Zi):=by
 refine cY Tryz.func86 fun g=>ac 10<|DL.u5 rfl rfl (Y.slt rfl rfl) (fun c=>?_) (fun c=>?_)
 ·exact Tu c (by rw[tK s.toList];simp)
 refine au 7<|DL.u5 rfl rfl (Y.Sc rfl rfl) (fun d=>?_) (fun d=>?_)
 ·exact Tu d Al
 exact au 9<|rX g rfl
theorem yB(d:List ByteArray)(a p:Option Addr)(u v q:Nat)(g:World)(k:Ei g q a d)(l:Ei g q p d)(G:d.length≤140737488351232):
  Calls Tryz.prog 88 #[.slice a d.length u,.slice p d.length v] g (hH g [] fun w _=>w=Zi):=by
 refine cY Tryz.func88 fun m=>ac 10<|DC.loop (σ:=Nat) [(4,30)] (fun b=>[(5,.int .i64 (b:Int))]) (fun y r=>Fr [] g r∧(fun b H=>b≤d.length) y r) (fun b=>d.length - b) (0) rfl ?_ ?_ ?_
 ·exact rfl
 ·exact⟨Fr.refl _ _,TE _⟩
 rintro b I z ⟨j,J⟩
 have m:=m.jP j
 have K:=j.size
 have k:=k.fr j AO
 have l:=l.fr j AO
 have o:=j
 have L:=Fr.refl [] z
 refine ac 6<|jX rfl rfl (fun A=>?_) (fun A=>?_)
 ·have hk:b<d.length:=by omega
  obtain⟨M,O,rfl,P,B,Q⟩:=k b hk
  obtain⟨R,S,rfl,T,C,U⟩:=l b hk
  refine au 4<|jX rfl rfl (fun D=>?_) (fun D=>?_)
  ·refine au 7<|DC.quiet F.mixed Au<|DQ.y rfl rfl (fun f c=>Y.move)<|DQ.y rfl rfl (fun f c=>Y.move)<|DQ.y rfl rfl (fun f c=>Y.index F.ku rfl rfl (rfl) (hk))<|DQ.y rfl rfl (fun f c=>Y.load F.oq rfl (c.cell B Al))<|DQ.y rfl rfl (fun f c=>Y.move)<|DQ.y rfl rfl (fun f c=>Y.move)<|DQ.y rfl rfl (fun f c=>Y.index F.ku rfl rfl (rfl) (hk))<|DQ.y rfl rfl (fun f c=>Y.load F.oq rfl (c.cell C Al))<|DQ.call rfl rfl F.OU rfl (fun f c=>qv _ f)<|DQ.y rfl rfl (fun f c=>Y.assign)<|DQ.nil fun W t=>have o:=o.jP t;have X:=t.size;ac 3<|jN rfl rfl (fun E=>?_) (fun E=>?_)
   ·exfalso;omega
   exact au 5<|ai ((b+1:Nat):Int) rfl rfl<|au 2 ⟨b+1,⟨o,hk⟩,by show d.length - (b+1)<d.length - b;omega,rfl⟩
  exfalso;omega
 exact au 9<|ac 6<|si 0 rfl rfl<|au 3<|rX m rfl
def Ga(m:Nat):Prop:=∀(v:V)(ca cb:Array Value)(B:Nat)(w:World),v.nodes≤m→RV w B v ca→RV w B v cb→
  Calls Tryz.prog 50 #[.agg ca,.agg cb] w (hH w [] fun r _=>r=Zi)
theorem qh(k:Nat)(v:Ga k)(c:List V)(a r:Option Addr)(w y l:Nat)(g:World)(Q:V.iy c≤k)(m:y5 g l a c)(o:y5 g l r c)(R:c.length≤140737488351232):
  Calls Tryz.prog 87 #[.slice a c.length w,.slice r c.length y] g (hH g [] fun z _=>z=Zi):=by
 refine cY Tryz.func87 fun p=>ac 10<|DC.loop (σ:=Nat) [(4,30)] (fun b=>[(5,.int .i64 (b:Int))]) (fun A t=>Fr [] g t∧(fun b S=>b≤c.length) A t) (fun b=>c.length - b) (0) rfl ?_ ?_ ?_
 ·exact rfl
 ·exact⟨Fr.refl _ _,TE _⟩
 rintro b T B ⟨j,U⟩
 have p:=p.jP j
 have W:=j.size
 have m:=m.fr j AO
 have o:=o.fr j AO
 have q:=j
 have X:=Fr.refl [] B
 refine ac 6<|jX rfl rfl (fun C=>?_) (fun C=>?_)
 ·have hk:b<c.length:=by omega
  obtain⟨Z,aa,D,rfl,ab,E,G,H⟩:=m b hk
  obtain⟨ad,ae,I,rfl,af,J,K,L⟩:=o b hk
  have M:c[b].nodes≤k:=by have:=jo hk;omega
  refine au 4<|jX rfl rfl (fun O=>?_) (fun O=>?_)
  ·refine au 7<|DC.quiet F.mixed Au<|DQ.y rfl rfl (fun f d=>Y.move)<|DQ.y rfl rfl (fun f d=>Y.move)<|DQ.y rfl rfl (fun f d=>Y.index F.s7 rfl rfl (rfl) (hk))<|DQ.y rfl rfl (fun f d=>Y.iU G F.rC rfl (E.fr d Al))<|DQ.y rfl rfl (fun f d=>Y.move)<|DQ.y rfl rfl (fun f d=>Y.move)<|DQ.y rfl rfl (fun f d=>Y.index F.s7 rfl rfl (rfl) (hk))<|DQ.y rfl rfl (fun f d=>Y.iU K F.rC rfl (J.fr d Al))<|DQ.call rfl rfl F.OB rfl (fun f d=>v c[b] D I l f M (H.fr d (by intro x hx;simp)) (L.fr d (by intro x hx;simp)))<|DQ.y rfl rfl (fun f d=>Y.assign)<|DQ.nil fun ag u=>have q:=q.jP u;have ah:=u.size;ac 3<|jN rfl rfl (fun P=>?_) (fun P=>?_)
   ·exfalso;omega
   exact au 5<|ai ((b+1:Nat):Int) rfl rfl<|au 2 ⟨b+1,⟨q,hk⟩,by show c.length - (b+1)<c.length - b;omega,rfl⟩
  exfalso;omega
 exact au 9<|ac 6<|si 0 rfl rfl<|au 3<|rX p rfl
set_option maxHeartbeats 1000000 in
theorem E0(c:Nat)(l:Ga c):Ga (c+1):=by
 intro r E F k G m f j
 obtain⟨H,I,J,o,t,p⟩:=r
 obtain⟨K,L,M,O,P,Q,rfl⟩:=f.shape
 obtain⟨R,S,T,U,W,X,rfl⟩:=j.shape
 obtain⟨Y,u,v,w,Z,aa⟩:=f.bounds
 have hl:V.iy o≤c:=by simp only[V.nodes]at m;omega
 have y:V.iy p≤c:=by simp only[V.nodes]at m;omega
 refine cY Tryz.func50 fun g=>ac 2<|bX rfl fun ab ad ae af ag b=>bX rfl fun ah ai aj ak al d=>au 7<|lD (Gb b) rfl rfl<|au 1<|lD d rfl rfl<|jN rfl rfl (fun q=>?_) (fun q=>?_)
 ·exact Tu rfl q
 refine au 6<|lD (Gb b) rfl rfl<|jE rfl rfl (fun z=>?_) (fun z=>?_)
 ·refine au 6<|lD (Gb b) rfl rfl<|au 1<|lD d rfl rfl<|si 0 rfl rfl<|cX (sign_zero _) ?_
  rintro _ am an ao rfl
  exact au 3<|rX g.g rfl
 refine au 6<|lD (Gb b) rfl rfl<|jE rfl rfl (fun A=>?_) (fun A=>?_)
 ·refine au 6<|lD (Gb b) rfl rfl<|au 1<|lD d rfl rfl<|cX (qv _ _) ?_
  rintro _ ap aq ar rfl
  exact au 3<|rX g.g rfl
 refine au 6<|lD (Gb b) rfl rfl<|jE rfl rfl (fun B=>?_) (fun B=>?_)
 ·refine au 6<|lD (Gb b) rfl rfl<|au 1<|lD d rfl rfl<|cX (qh c l o _ _ _ _ k _ hl f.g.lists j.g.lists u) ?_
  rintro _ av aw ax rfl
  refine cX (sign_zero _) ?_
  rintro _ ay az a0 rfl
  exact au 3<|rX g.g rfl
 refine au 6<|lD (Gb b) rfl rfl<|jE rfl rfl (fun C=>?_) (fun C=>?_)
 ·refine au 7<|lD (Gb b) rfl rfl<|au 1<|lD d rfl rfl<|cX (yB t _ _ _ _ k _ f.g.keys j.g.keys v) ?_
  rintro _ a1 a2 a3 rfl
  refine au 5<|jN rfl rfl (fun D=>?_) (fun D=>?_)
  ·exfalso;omega
  refine au 6<|lD (Gb b) rfl rfl<|au 1<|lD (Gb d) rfl rfl<|cX (qh c l p _ _ _ _ k _ y f.g.Ik j.g.Ik w) ?_
  rintro _ a4 a5 a6 rfl
  refine cX (sign_zero _) ?_
  rintro _ a7 a8 a9 rfl
  exact au 3<|rX g.g rfl
 exact au 9<|rX g.g rfl
theorem wV:∀b,Ga b
 |0=>fun c d f g j k=>by have:=kh c;omega
 |b+1=>E0 b (wV b)
theorem Ek(c:V)(j k:Array Value)(d:Nat)(b:World)(f:RV b d c j)(g:RV b d c k):Calls Tryz.prog 16 #[.agg j,.agg k] b (hH b [] fun l _=>l=.bool true):=by
 have r:=f.size
 have t:=g.size
 obtain⟨u,v,w,y,z,A⟩:=c
 obtain⟨B,C,D,E,F,G,rfl⟩:=f.shape
 obtain⟨H,I,J,K,L,M,rfl⟩:=g.shape
 refine cY Tryz.func16 fun m=>ac 2<|bX rfl fun O P Q R S o=>bX rfl fun T U W X Y p=>au 4<|lw (Gb o) rfl rfl<|lw p rfl rfl<|cX (wV _ _ _ _ d _ (Tv _) f.g g.g) ?_
 rintro _ Z aa ab rfl
 refine jE rfl rfl (fun q=>?_) (fun q=>?_)
 ·exact au 3<|rX m.g rfl
 exfalso;omega
end Go.Proofs.YtlojelcoibpphaaGreatDoor
namespace Go.Proofs.YtlojelcoibpphaaGreatDoor
open Go Go.RowKit D Go.Deep Go.Proofs
variable{m k:Nat}{D X:Nat→Prop}{c cA:Array Value}{q:N}
theorem qU(b:List ByteArray)(a l:Option Addr)(v w:Nat)(j:World)(m:hT j D a b.length 1 (strCells b))(o:hT j X l b.length 1 (strCells b))(H:b.length≤140737488351232):
  Calls Tryz.prog 18 #[.slice a b.length v,.slice l b.length w] j (hH j [] fun y _=>y=.bool true):=by
 refine cY Tryz.func18 fun p=>ac 11<|jN rfl rfl (fun r=>?_) (fun r=>?_)
 ·exact Tu rfl r
 refine au 9<|DC.loop (σ:=Nat) [(4,5),(11,25)] (fun d=>[(5,.int .i64 (d:Int))]) (fun z t=>Fr [] j t∧(fun d I=>d≤b.length) z t) (fun d=>b.length - d) (0) rfl ?_ ?_ ?_
 ·exact rfl
 ·exact⟨Fr.refl _ _,TE _⟩
 rintro d J A ⟨k,K⟩
 have p:=p.jP k
 have L:=k.size
 have m:=m.fr k (by intro l B;simp)
 have o:=o.fr k (by intro l B;simp)
 have q:=k
 have M:=Fr.refl [] A
 refine ac 6<|jX rfl rfl (fun C=>?_) (fun C=>?_)
 ·have hk:d<b.length:=by omega
  obtain⟨O,P,rfl,Q,E⟩:=m.str hk
  obtain⟨R,S,rfl,T,G⟩:=o.str hk
  exact au 6<|DC.quiet F.mixed Au<|DQ.y rfl rfl (fun g f=>Y.move)<|DQ.y rfl rfl (fun g f=>Y.move)<|DQ.y rfl rfl (fun g f=>Y.index F.ku rfl rfl (rfl) (hk))<|DQ.y rfl rfl (fun g f=>Y.load F.oq rfl (f.cell E Al))<|DQ.y rfl rfl (fun g f=>Y.move)<|DQ.y rfl rfl (fun g f=>Y.move)<|DQ.y rfl rfl (fun g f=>Y.index F.ku rfl rfl (rfl) (hk))<|DQ.y rfl rfl (fun g f=>Y.load F.oq rfl (f.cell G Al))<|DQ.y rfl rfl (fun g f=>Y.my (c:=false) rfl rfl Al)<|DQ.nil fun U u=>have q:=q.jP u;have W:=u.size;ac 4<|ai ((d+1:Nat):Int) rfl rfl<|au 2 ⟨d+1,⟨q,hk⟩,by show b.length - (d+1)<b.length - d;omega,rfl⟩
 exact au 3<|ac 5<|rX p rfl
theorem D.hB.sub{w:World}(h:hB w m k cA)(i:Nat)(hs:∀b,b<c.size→c[b]? =cA[i+b]?)(hl:i+c.size≤cA.size):hB w m (k+i) c:=by
 intro b hj
 have:=h (i+b) Ac
 rw[hs b hj,←this,Vx]
theorem yU{l m c d f g j k o p q r:Value}:∀b,b<(#[c,d,f,g,j,k]:Array Value).size→(#[c,d,f,g,j,k]:Array Value)[b]? =(#[l,m,c,d,f,g,j,k,o,p,q,r]:Array Value)[2+b]? :=fun b hj=>by
 have t:b<6:=hj
 match b,t with
 |0,_=>rfl
 |1,_=>rfl
 |2,_=>rfl
 |3,_=>rfl
 |4,_=>rfl
 |5,_=>rfl
theorem xQ{t u c d f g j k l m o p q r:Value}:∀b,b<(#[c,d,f,g,j,k,l,m,o,p,q,r]:Array Value).size→(#[c,d,f,g,j,k,l,m,o,p,q,r]:Array Value)[b]? =(#[t,u,c,d,f,g,j,k,l,m,o,p,q,r]:Array Value)[2+b]? :=fun b hj=>by
 have v:b<12:=hj
 match b,v with
 |0,_=>rfl
 |1,_=>rfl
 |2,_=>rfl
 |3,_=>rfl
 |4,_=>rfl
 |5,_=>rfl
 |6,_=>rfl
 |7,_=>rfl
 |8,_=>rfl
 |9,_=>rfl
 |10,_=>rfl
 |11,_=>rfl
def NH(m:Nat):Prop:=∀(v:N)(ca cb:Array Value)(D:Nat→Prop)(w:World),v.nodes≤m→(∀c,D c→c<w.heap.size)→RN w D 0 v ca→RN w D 0 v cb→Calls Tryz.prog 8 #[.agg ca,.agg cb] w (hH w [] fun r _=>r=.bool true)
def ND(m:Nat):Prop:=∀(v:N)(ca cb:Array Value)(D:Nat→Prop)(w:World),v.nodes≤m→(∀c,D c→c<w.heap.size)→RN w D 1 v ca→RN w D 1 v cb→Calls Tryz.prog 17 #[.agg ca,.agg cb] w (hH w [] fun r _=>r=.bool true)
theorem EZ(t:Nat)(S:NH t)(T:ND t):ND (t+1):=by
 intro U aq ar J av W j o u
 obtain⟨aw,ax,ay,az,l,m,a0⟩:=U
 obtain⟨a1,a2,a3,a4,rfl⟩:=o.lH
 obtain⟨a5,a6,a7,a8,rfl⟩:=u.lH
 have a9:N.iy l≤t∧N.iy m≤t:=by simp only[N.nodes]at W;omega
 have aA:l.length≤140737488351232∧m.length≤140737488351232:=by cases o with|p ck cp ho ht kn pn hk rk hp rp=>exact⟨kn,pn⟩
 refine cY Tryz.func17 fun v=>ac 2<|bX rfl fun K aB X aC aD g=>have j:=fun f hc=>Tj (j f hc) X.size;bX rfl fun L Z aa aE aF k=>have j:=fun f hc=>Tj (j f hc) aa.size;au 6<|lD (Gb g) rfl rfl<|au 1<|lD k rfl rfl<|DL.y rfl rfl (Y.my (c:=false) rfl rfl Al)<|au 2<|lD (Gb g) rfl rfl<|au 1<|lD k rfl rfl<|DL.y rfl rfl (Y.my (c:=false) rfl rfl Al)<|au 3<|lD (Gb g) rfl rfl<|au 2<|lD k rfl rfl<|au 1<|jN rfl rfl (fun M=>?_) (fun M=>?_)
 ·exact Tu rfl M
 refine au 3<|lD (Gb g) rfl rfl<|au 2<|lD k rfl rfl<|au 1<|jN rfl rfl (fun O=>?_) (fun O=>?_)
 ·exact Tu rfl O
 refine au 10<|lE [] Z (σ:=Nat) [(4,5),(37,55)] [(2,Pt K),(3,Pt L)] (fun c=>[(5,.int .i64 (c:Int))]) (fun c ab=>c≤l.length) (fun c=>l.length - c) (0) ?_ ?_
 ·exact⟨Fr.refl _ _,TE _⟩
 rintro ad c ae P ⟨q,af⟩
 have v:=v.g.jP q
 have aG:=q.size
 have o:=o.g.k9 q
 have u:=u.g.k9 q
 have j:=fun f hc=>Tj (j f hc) q.size
 have g:=q.il (Gb g)
 have k:=q.il k
 have w:=q
 have aH:=Fr.refl [] P
 refine ac 5<|lD g rfl rfl<|au 1<|jX rfl rfl (fun ag=>?_) (fun ag=>?_)
 ·have hk:c<l.length:=by omega
  obtain⟨ah,aj,y,rfl,ak,z,A,B⟩:=o.G9 hk
  obtain⟨al,am,C,rfl,an,D,E,G⟩:=u.G9 hk
  have H:l[c].nodes≤t:=by have:=N.jo hk;omega
  exact au 6<|DC.quiet F.mixed Au<|DQ.y rfl rfl (fun d b=>Y.field F.pe rfl)<|DQ.y rfl rfl (fun d b=>Y.hY F.mF rfl (b.il g) rfl)<|DQ.y rfl rfl (fun d b=>Y.move)<|DQ.y rfl rfl (fun d b=>Y.index F.iI rfl rfl (rfl) (hk))<|DQ.y rfl rfl (fun d b=>Y.iU A F.hN rfl (z.fr b Al))<|DQ.y rfl rfl (fun d b=>Y.field F.pe rfl)<|DQ.y rfl rfl (fun d b=>Y.hY F.mF rfl (b.il k) rfl)<|DQ.y rfl rfl (fun d b=>Y.move)<|DQ.y rfl rfl (fun d b=>Y.index F.iI rfl rfl (rfl) (hk))<|DQ.y rfl rfl (fun d b=>Y.iU E F.hN rfl (D.fr b Al))<|DQ.call rfl rfl F.Pj rfl (fun d b=>S l[c] y C J d H (fun f hc=>Tj (j f hc) b.size) (B.k9 b) (G.k9 b))<|DQ.y rfl rfl (fun d b=>Y.not rfl)<|DQ.nil fun aI Q=>have w:=w.jP Q;have aJ:=Q.size;ac 4<|ai ((c+1:Nat):Int) rfl rfl<|au 2 ⟨c+1,⟨w,hk⟩,by show l.length - (c+1)<l.length - c;omega,rfl⟩
 refine au 3<|ac 6<|lE [] P (σ:=Nat) [(4,4),(6,6),(56,74)] [(2,Pt K),(3,Pt L)] (fun c=>[(6,.int .i64 (c:Int))]) (fun c ab=>c≤m.length) (fun c=>m.length - c) (0) ?_ ?_
 ·exact⟨Fr.refl _ _,TE _⟩
 rintro ad c ae ao ⟨r,af⟩
 have v:=v.jP r
 have aK:=r.size
 have o:=o.k9 r
 have u:=u.k9 r
 have j:=fun f hc=>Tj (j f hc) r.size
 have g:=r.il g
 have k:=r.il k
 have I:=r
 have aL:=Fr.refl [] ao
 refine ac 5<|lD g rfl rfl<|au 1<|jX rfl rfl (fun ap=>?_) (fun ap=>?_)
 ·have hk:c<m.length:=by omega
  obtain⟨ah,aj,y,rfl,ak,z,A,B⟩:=o.Dz hk
  obtain⟨al,am,C,rfl,an,D,E,G⟩:=u.Dz hk
  have H:m[c].nodes≤t:=by have:=N.jo hk;omega
  exact au 6<|DC.quiet F.mixed Au<|DQ.y rfl rfl (fun d b=>Y.field F.n0 rfl)<|DQ.y rfl rfl (fun d b=>Y.hY F.pU rfl (b.il g) rfl)<|DQ.y rfl rfl (fun d b=>Y.move)<|DQ.y rfl rfl (fun d b=>Y.index F.pS rfl rfl (rfl) (hk))<|DQ.y rfl rfl (fun d b=>Y.iU A F.uU rfl (z.fr b Al))<|DQ.y rfl rfl (fun d b=>Y.field F.n0 rfl)<|DQ.y rfl rfl (fun d b=>Y.hY F.pU rfl (b.il k) rfl)<|DQ.y rfl rfl (fun d b=>Y.move)<|DQ.y rfl rfl (fun d b=>Y.index F.pS rfl rfl (rfl) (hk))<|DQ.y rfl rfl (fun d b=>Y.iU E F.uU rfl (D.fr b Al))<|DQ.call rfl rfl F.M4 rfl (fun d b=>T m[c] y C J d H (fun f hc=>Tj (j f hc) b.size) (B.k9 b) (G.k9 b))<|DQ.y rfl rfl (fun d b=>Y.not rfl)<|DQ.nil fun aM R=>have I:=I.jP R;have aN:=R.size;ac 4<|ai ((c+1:Nat):Int) rfl rfl<|au 2 ⟨c+1,⟨I,hk⟩,by show m.length - (c+1)<m.length - c;omega,rfl⟩
 exact au 3<|ac 5<|rX v rfl
theorem RN.tF{w:World}{D:Nat→Prop}(h:RN w D 2 q c):∃op text z names b pats defs f A g j k l m o p r t u v y,q=.mk op text z names [b] pats defs∧c=#[.string text,.slice f names.length A,g,j,k,l,m,o,p,r,t,u,v,y]∧hT w D f names.length 1 (strCells names)∧RN w D 0 b #[g,j,k,l,m,o,p,r,t,u,v,y]∧names.length≤140737488351232:=by
 cases h with
 |d ht B F C E=>exact⟨_,_,_,_,_,_,_,_,_,_,_,_,_,_,_,_,_,_,_,_,_,rfl,rfl,C,E,B⟩
theorem u7(o:Nat)(Q:NH o)(ar:ND o):NH (o+1):=by
 intro B bp bq J br av k l m
 obtain⟨bs,bt,aw,ax,p,q,v⟩:=B
 obtain⟨bu,bv,bw,bx,bz,b0,b1,b2,ay,az,a0,a1,a2,a3,rfl⟩:=l.hI
 obtain⟨b3,b4,b5,b6,b7,b8,b9,bA,a4,a5,a6,a7,a8,a9,rfl⟩:=m.hI
 have bB:N.iy p≤o∧N.iy q≤o∧N.iy v≤o:=by simp only[N.nodes]at av;omega
 obtain⟨R,aA,bC,aB,bD,bE⟩:=l.hV
 refine cY Tryz.func8 fun w=>ac 2<|bX rfl fun K bF aC bG bH f=>have k:=fun g hc=>Tj (k g hc) aC.size;bX rfl fun L bI aD bJ bK j=>have k:=fun g hc=>Tj (k g hc) aD.size;au 6<|lD (Gb f) rfl rfl<|au 1<|lD j rfl rfl<|DL.y rfl rfl (Y.my (c:=false) rfl rfl Al)<|au 2<|lD (Gb f) rfl rfl<|au 1<|lD j rfl rfl<|DL.y rfl rfl (Y.my (c:=false) rfl rfl Al)<|au 3<|lA (cs:=#[ay,az,a0,a1,a2,a3]) ((hB.hE (Gb f)).sub 2 yU (TM rfl)) rfl rfl<|au 1<|lA (cs:=#[a4,a5,a6,a7,a8,a9]) ((hB.hE j).sub 2 yU (TM rfl)) rfl rfl<|cX (Ek aw _ _ _ _ (l.g.oM.zU k) (m.g.oM.zU k)) ?_
 rintro _ aE aF bL rfl
 have k:=fun g hc=>Tj (k g hc) aF.size
 refine au 4<|lD (Gb f) rfl rfl<|au 2<|lD (Gb j) rfl rfl<|au 1<|jN rfl rfl (fun S=>?_) (fun S=>?_)
 ·exact Tu rfl S
 refine au 3<|lD (Gb f) rfl rfl<|au 2<|lD (Gb j) rfl rfl<|au 1<|jN rfl rfl (fun T=>?_) (fun T=>?_)
 ·exact Tu rfl T
 refine au 3<|lD (Gb f) rfl rfl<|au 2<|lD (Gb j) rfl rfl<|au 1<|jN rfl rfl (fun U=>?_) (fun U=>?_)
 ·exact Tu rfl U
 refine au 3<|lD (Gb f) rfl rfl<|au 2<|lD (Gb j) rfl rfl<|au 1<|jN rfl rfl (fun W=>?_) (fun W=>?_)
 ·exact Tu rfl W
 refine au 10<|lE [] aE (σ:=Nat) [(4,5),(64,82)] [(2,Pt K),(3,Pt L)] (fun d=>[(5,.int .i64 (d:Int))]) (fun d X=>d≤p.length) (fun d=>p.length - d) (0) ?_ ?_
 ·exact⟨Fr.refl _ _,TE _⟩
 rintro Z d aa ab ⟨r,ad⟩
 have w:=w.g.jP r
 have bM:=r.size
 have l:=l.g.k9 r
 have m:=m.g.k9 r
 have k:=fun g hc=>Tj (k g hc) r.size
 have f:=r.il (Gb f)
 have j:=r.il (Gb j)
 have M:=r
 have bN:=Fr.refl [] ab
 refine ac 5<|lD f rfl rfl<|au 1<|jX rfl rfl (fun aG=>?_) (fun aG=>?_)
 ·have hk:d<p.length:=by omega
  obtain⟨ae,af,E,rfl,ag,y,G,C⟩:=l.kF hk
  obtain⟨ah,aj,H,rfl,ak,z,I,D⟩:=m.kF hk
  have A:p[d].nodes≤o:=by have:=N.jo hk;omega
  exact au 6<|DC.quiet F.mixed Au<|DQ.y rfl rfl (fun c b=>Y.field F.o9 rfl)<|DQ.y rfl rfl (fun c b=>Y.hY F.mF rfl (b.il f) rfl)<|DQ.y rfl rfl (fun c b=>Y.move)<|DQ.y rfl rfl (fun c b=>Y.index F.iI rfl rfl (rfl) (hk))<|DQ.y rfl rfl (fun c b=>Y.iU G F.hN rfl (y.fr b Al))<|DQ.y rfl rfl (fun c b=>Y.field F.o9 rfl)<|DQ.y rfl rfl (fun c b=>Y.hY F.mF rfl (b.il j) rfl)<|DQ.y rfl rfl (fun c b=>Y.move)<|DQ.y rfl rfl (fun c b=>Y.index F.iI rfl rfl (rfl) (hk))<|DQ.y rfl rfl (fun c b=>Y.iU I F.hN rfl (z.fr b Al))<|DQ.call rfl rfl F.Pj rfl (fun c b=>Q p[d] E H J c A (fun g hc=>Tj (k g hc) b.size) (C.k9 b) (D.k9 b))<|DQ.y rfl rfl (fun c b=>Y.not rfl)<|DQ.nil fun bO al=>have M:=M.jP al;have bP:=al.size;ac 4<|ai ((d+1:Nat):Int) rfl rfl<|au 2 ⟨d+1,⟨M,hk⟩,by show p.length - (d+1)<p.length - d;omega,rfl⟩
 refine au 3<|ac 6<|lE [] ab (σ:=Nat) [(4,4),(6,6),(83,101)] [(2,Pt K),(3,Pt L)] (fun d=>[(6,.int .i64 (d:Int))]) (fun d X=>d≤q.length) (fun d=>q.length - d) (0) ?_ ?_
 ·exact⟨Fr.refl _ _,TE _⟩
 rintro Z d aa am ⟨t,ad⟩
 have w:=w.jP t
 have bQ:=t.size
 have l:=l.k9 t
 have m:=m.k9 t
 have k:=fun g hc=>Tj (k g hc) t.size
 have f:=t.il f
 have j:=t.il j
 have O:=t
 have bR:=Fr.refl [] am
 refine ac 5<|lD f rfl rfl<|au 1<|jX rfl rfl (fun aH=>?_) (fun aH=>?_)
 ·have hk:d<q.length:=by omega
  obtain⟨ae,af,E,rfl,ag,y,G,C⟩:=l.pat hk
  obtain⟨ah,aj,H,rfl,ak,z,I,D⟩:=m.pat hk
  have A:q[d].nodes≤o:=by have:=N.jo hk;omega
  exact au 6<|DC.quiet F.mixed Au<|DQ.y rfl rfl (fun c b=>Y.field F.sM rfl)<|DQ.y rfl rfl (fun c b=>Y.hY F.pU rfl (b.il f) rfl)<|DQ.y rfl rfl (fun c b=>Y.move)<|DQ.y rfl rfl (fun c b=>Y.index F.pS rfl rfl (rfl) (hk))<|DQ.y rfl rfl (fun c b=>Y.iU G F.uU rfl (y.fr b Al))<|DQ.y rfl rfl (fun c b=>Y.field F.sM rfl)<|DQ.y rfl rfl (fun c b=>Y.hY F.pU rfl (b.il j) rfl)<|DQ.y rfl rfl (fun c b=>Y.move)<|DQ.y rfl rfl (fun c b=>Y.index F.pS rfl rfl (rfl) (hk))<|DQ.y rfl rfl (fun c b=>Y.iU I F.uU rfl (z.fr b Al))<|DQ.call rfl rfl F.M4 rfl (fun c b=>ar q[d] E H J c A (fun g hc=>Tj (k g hc) b.size) (C.k9 b) (D.k9 b))<|DQ.y rfl rfl (fun c b=>Y.not rfl)<|DQ.nil fun bS an=>have O:=O.jP an;have bT:=an.size;ac 4<|ai ((d+1:Nat):Int) rfl rfl<|au 2 ⟨d+1,⟨O,hk⟩,by show q.length - (d+1)<q.length - d;omega,rfl⟩
 refine au 3<|ac 6<|lE [] am (σ:=Nat) [(4,4),(7,7),(102,153)] [(2,Pt K),(3,Pt L)] (fun d=>[(7,.int .i64 (d:Int))]) (fun d X=>d≤v.length) (fun d=>v.length - d) (0) ?_ ?_
 ·exact⟨Fr.refl _ _,TE _⟩
 rintro Z d aa aI ⟨u,ad⟩
 have w:=w.jP u
 have bU:=u.size
 have l:=l.k9 u
 have m:=m.k9 u
 have k:=fun g hc=>Tj (k g hc) u.size
 have f:=u.il f
 have j:=u.il j
 have P:=u
 have bV:=Fr.refl [] aI
 refine ac 5<|lD f rfl rfl<|au 1<|jX rfl rfl (fun aJ=>?_) (fun aJ=>?_)
 ·have hk:d<v.length:=by omega
  obtain⟨ae,af,E,rfl,ag,y,G,C⟩:=l.NJ hk
  obtain⟨ah,aj,H,rfl,ak,z,I,D⟩:=m.NJ hk
  have A:v[d].nodes≤o:=by have:=N.jo hk;omega
  obtain⟨bW,bY,bZ,aK,ao,ca,cb,cc,cd,aL,aM,aN,aO,aP,aQ,aR,aS,aT,aU,aV,aW,aX,rfl,aY,aZ,R⟩:=C.tF
  obtain⟨ce,cf,cg,ch,ci,cj,ck,cl,cm,ba,bb,bc,bd,be,bf,bg,bh,bi,bj,bk,bl,ap,rfl,bm,bn,aA⟩:=D.tF
  rw[aX]at ap A
  cases ap
  have bo:ao.nodes≤o:=by simp only[N.nodes,N.iy]at A;omega
  refine au 6<|DC.quiet F.mixed Au<|DQ.y rfl rfl (fun c b=>Y.field F.oc rfl)<|DQ.y rfl rfl (fun c b=>Y.hY F.uk rfl (b.il f) rfl)<|DQ.y rfl rfl (fun c b=>Y.move)<|DQ.y rfl rfl (fun c b=>Y.index F.s9 rfl rfl (rfl) (hk))<|DQ.y rfl rfl (fun c b=>Y.field F.D4 rfl)<|DQ.y rfl rfl (fun c b=>Y.load F.oq rfl (b.cell (y.cell 0 rfl) Al))<|DQ.y rfl rfl (fun c b=>Y.field F.oc rfl)<|DQ.y rfl rfl (fun c b=>Y.hY F.uk rfl (b.il j) rfl)<|DQ.y rfl rfl (fun c b=>Y.move)<|DQ.y rfl rfl (fun c b=>Y.index F.s9 rfl rfl (rfl) (hk))<|DQ.y rfl rfl (fun c b=>Y.field F.D4 rfl)<|DQ.y rfl rfl (fun c b=>Y.load F.oq rfl (b.cell (z.cell 0 rfl) Al))<|DQ.y rfl rfl (fun c b=>Y.my (c:=false) rfl rfl Al)<|DQ.y rfl rfl (fun c b=>Y.sf (v:=.bool false) rfl)<|DQ.y rfl rfl (fun c b=>Y.field F.oc rfl)<|DQ.y rfl rfl (fun c b=>Y.hY F.uk rfl (b.il f) rfl)<|DQ.y rfl rfl (fun c b=>Y.move)<|DQ.y rfl rfl (fun c b=>Y.index F.s9 rfl rfl (rfl) (hk))<|DQ.y rfl rfl (fun c b=>Y.field F.vN rfl)<|DQ.y rfl rfl (fun c b=>Y.load F.yb rfl (b.cell (y.cell 1 rfl) Al))<|DQ.y rfl rfl (fun c b=>Y.field F.oc rfl)<|DQ.y rfl rfl (fun c b=>Y.hY F.uk rfl (b.il j) rfl)<|DQ.y rfl rfl (fun c b=>Y.move)<|DQ.y rfl rfl (fun c b=>Y.index F.s9 rfl rfl (rfl) (hk)) ?_
  refine DQ.y rfl rfl (fun c b=>Y.field F.vN rfl)<|DQ.y rfl rfl (fun c b=>Y.load F.yb rfl (b.cell (z.cell 1 rfl) Al))<|DQ.call rfl rfl F.OG rfl (fun c b=>qU aK _ _ _ _ c (aY.fr b Al) (bm.fr b Al) R)<|DQ.y rfl rfl (fun c b=>Y.not rfl)<|DQ.y rfl rfl (fun c b=>Y.Ex (v:=.bool false) rfl rfl)<|DQ.y rfl rfl (fun c b=>Y.sf (v:=.bool false) rfl)<|DQ.y rfl rfl (fun c b=>Y.field F.oc rfl)<|DQ.y rfl rfl (fun c b=>Y.hY F.uk rfl (b.il f) rfl)<|DQ.y rfl rfl (fun c b=>Y.move)<|DQ.y rfl rfl (fun c b=>Y.index F.s9 rfl rfl (rfl) (hk))<|DQ.y rfl rfl (fun c b=>Y.field F.zp rfl)<|DQ.y rfl rfl (fun c b=>Y.iU (cs:=#[aL,aM,aN,aO,aP,aQ,aR,aS,aT,aU,aV,aW]) rfl F.hN rfl (((y.sub 2 xQ (Tv _))).fr b Al))<|DQ.y rfl rfl (fun c b=>Y.field F.oc rfl)<|DQ.y rfl rfl (fun c b=>Y.hY F.uk rfl (b.il j) rfl)<|DQ.y rfl rfl (fun c b=>Y.move)<|DQ.y rfl rfl (fun c b=>Y.index F.s9 rfl rfl (rfl) (hk))<|DQ.y rfl rfl (fun c b=>Y.field F.zp rfl)<|DQ.y rfl rfl (fun c b=>Y.iU (cs:=#[ba,bb,bc,bd,be,bf,bg,bh,bi,bj,bk,bl]) rfl F.hN rfl (((z.sub 2 xQ (Tv _))).fr b Al))<|DQ.call rfl rfl F.Pj rfl (fun c b=>Q ao _ _ J c bo (fun g hc=>Tj (k g hc) b.size) (aZ.k9 b) (bn.k9 b))<|DQ.y rfl rfl (fun c b=>Y.not rfl) ?_
  exact DQ.y rfl rfl (fun c b=>Y.Ex (v:=.bool false) rfl rfl)<|DQ.nil fun cn aq=>have P:=P.jP aq;have co:=aq.size;ac 4<|ai ((d+1:Nat):Int) rfl rfl<|au 2 ⟨d+1,⟨P,hk⟩,by show v.length - (d+1)<v.length - d;omega,rfl⟩
 refine au 3<|ac 3<|lD f rfl rfl<|au 1<|lD j rfl rfl<|cX (qU ax _ _ _ _ _ l.qp m.qp aB) ?_
 rintro _ cp cq cr rfl
 exact au 3<|rX w.g rfl
theorem mV:∀b,NH b∧ND b
 |0=>⟨fun c d f g j k=>by have:=N.kh c;omega,fun c d f g j k=>by have:=N.kh c;omega⟩
 |b+1=>⟨u7 b (mV b).1 (mV b).2,EZ b (mV b).1 (mV b).2⟩
end Go.Proofs.YtlojelcoibpphaaGreatDoor
