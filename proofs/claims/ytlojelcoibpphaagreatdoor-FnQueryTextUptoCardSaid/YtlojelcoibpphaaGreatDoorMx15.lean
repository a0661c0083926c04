/- FnQueryText, second form: own texts, joined and made short by a program (part 15): for every argument of bulk at most 1048576 the law answers true. -/
import Derived.Test.YtlojelcoibpphaaGreatDoorMx01
import Derived.Test.YtlojelcoibpphaaGreatDoorMx03
import Derived.Test.YtlojelcoibpphaaGreatDoorMx02
import Derived.Test.YtlojelcoibpphaaGreatDoorMx14
set_option maxRecDepth 100000
set_option maxHeartbeats 2000000
set_option linter.unusedVariables false
set_option linter.unusedSimpArgs false
set_option linter.unusedSectionVars false
set_option linter.defProp false
namespace Go.Proofs.YtlojelcoibpphaaGreatDoor
open Go Go.RowKit D Go.Deep Go.Proofs
variable{m k nA nB:Nat}{w W:World}{t sB:ByteArray}{D:Nat→Prop}{c cA:Array Value}{q:N}{Q:List N}{S:List ByteArray}{R:List Nat}{j:Int}{b:Option Addr}{bA:Bool}{cE:Nat→Array Value}{vH:V}
theorem x7{ks ps:List N}(b:Lk w m bA)(bn:2≤m)(bo:ij w)(eg:k≤67108864)(ar:RN w (fun av=>av<m) 0 (.mk sB t vH S ks ps Q) c)(cd:me w (AX D w) k bA cA)(ce:D m)(cf:sB=Co→ks.length=3):Calls Tryz.prog 30 #[Pt m,.agg c,.agg cA] w (hH w [m] fun _ cg=>∃bp,Lk cg m bp∧(bp=false→bA=false∧Ny sB t vH S ks ps Q)):=by
 have bq:=b.lt
 have br:∀av,av<2→av∉[m]:=A7
 obtain⟨aN,aO,aP,aQ,aR,aS,aT,aU,aC,aD,aE,aF,aG,aH,rfl⟩:=ar.hI
 obtain⟨eh,ch,ei,ej,ek,el⟩:=ar.hV
 obtain⟨aI,aJ,aL,aV,aW,aX,aY,aZ,ba,rfl,ci,cj,ck,⟨em,en,eo⟩,⟨ep,eq,er⟩,bb⟩:=cd
 have bc:∀av,AX D w av→av∉[m]:=fun av hc cl=>by rcases Tt.1 cl with rfl;exact hc.2 ce
 refine cY Tryz.func30 fun f=>ac 2<|bX rfl fun a8 es et eu bd d=>bX rfl fun a9 ev ew ex be C=>au 5<|lD (Gb d) rfl rfl<|DL.b rfl rfl (Y.seq rfl rfl) (fun ey I=>?_)
 refine au 1<|lD (Gb d) rfl rfl<|au 1<|DL.b rfl rfl (Y.gt rfl rfl) (fun ez J=>?_)
 refine DL.b rfl rfl (Y.beq Tryz.underlying4 rfl rfl) (fun G K=>?_)
 refine au 1<|DL.gY (p:=G) (by cases G<;>rfl) rfl (fun h=>by subst h;exact Y.field F.l7 rfl)<|DL.gY (p:=G) (by cases G<;>rfl) rfl (fun h=>by subst h;exact Y.hY F.oq rfl (Gb d) rfl)<|DL.gB (p:=G) (by cases G<;>rfl) rfl (fun h=>by subst h;exact Y.seq rfl rfl) (fun e0 L=>?_)
 refine DL.gY (p:=G) (by cases G<;>rfl) rfl (fun h=>by subst h;exact Y.field F.oc rfl)<|DL.gY (p:=G) (by cases G<;>rfl) rfl (fun h=>by subst h;exact Y.hY F.uk rfl (Gb d) rfl)<|DL.gY (p:=G) (by cases G<;>rfl) rfl (fun h=>by subst h;exact Y.mW Tryz.underlying29 rfl)<|DL.gB (p:=G) (by cases G<;>rfl) rfl (fun h=>by subst h;exact Y.gt rfl rfl) (fun e1 M=>?_)
 refine DL.gB (p:=G) (by cases G<;>rfl) rfl (fun h=>by subst h;exact Y.beq Tryz.underlying4 rfl rfl) (fun cm O=>?_)
 refine DL.b rfl rfl (Y.and (q:=cm) rfl oV rfl) (fun e2 P=>?_)
 refine cX (ix b.g _) fun _ e3 e4 e5 ⟨e6,b,R⟩=>au 5<|lD (Gb d) rfl rfl<|DL.b rfl rfl (Y.seq rfl rfl) (fun ax T=>?_)
 refine au 1<|DL.gY (p:=(!ax)) (by cases ax<;>rfl) rfl (fun h=>by cases ax<;>first|(cases h;done)|exact Y.field F.l7 rfl)<|DL.gY (p:=(!ax)) (by cases ax<;>rfl) rfl (fun h=>by cases ax<;>first|(cases h;done)|exact Y.hY F.oq rfl (Gb d) rfl)<|DL.gB (p:=(!ax)) (by cases ax<;>rfl) rfl (fun h=>by cases ax<;>first|(cases h;done)|exact Y.seq rfl rfl) (fun cn U=>?_)
 refine DL.b rfl rfl (Y.or (q:=cn) rfl rfl oV) (fun ay W=>?_)
 refine au 1<|DL.gY (p:=(!ay)) (by cases ay<;>rfl) rfl (fun h=>by cases ay<;>first|(cases h;done)|exact Y.field F.l7 rfl)<|DL.gY (p:=(!ay)) (by cases ay<;>rfl) rfl (fun h=>by cases ay<;>first|(cases h;done)|exact Y.hY F.oq rfl (Gb d) rfl)<|DL.gB (p:=(!ay)) (by cases ay<;>rfl) rfl (fun h=>by cases ay<;>first|(cases h;done)|exact Y.seq rfl rfl) (fun co X=>?_)
 refine DL.b rfl rfl (Y.or (q:=co) rfl rfl oV) (fun e7 Z=>?_)
 refine au 1<|lD (Gb d) rfl rfl<|au 1<|DL.b rfl rfl (Y.gt rfl rfl) (fun e8 aa=>?_)
 refine DL.b rfl rfl (Y.beq Tryz.underlying4 rfl rfl) (fun z ab=>?_)
 refine au 1<|DL.gY (p:=z) (by cases z<;>rfl) rfl (fun h=>by subst h;exact Y.field F.l7 rfl)<|DL.gY (p:=z) (by cases z<;>rfl) rfl (fun h=>by subst h;exact Y.hY F.oq rfl (Gb d) rfl)<|DL.gB (p:=z) (by cases z<;>rfl) rfl (fun h=>by subst h;exact Y.seq rfl rfl) (fun ad ae=>?_)
 refine DL.gY (p:=z) (by cases z<;>rfl) rfl (fun h=>by subst h;exact Y.move)<|DL.gY (p:=(z&& !ad)) (by cases z<;>cases ad<;>rfl) rfl (fun h=>by cases z<;>cases ad<;>first|(cases h;done)|exact Y.field F.sM rfl)<|DL.gY (p:=(z&& !ad)) (by cases z<;>cases ad<;>rfl) rfl (fun h=>by cases z<;>cases ad<;>first|(cases h;done)|exact Y.hY F.pU rfl (Gb d) rfl)<|DL.gY (p:=(z&& !ad)) (by cases z<;>cases ad<;>rfl) rfl (fun h=>by cases z<;>cases ad<;>first|(cases h;done)|exact Y.mW Tryz.underlying28 rfl)<|DL.gB (p:=(z&& !ad)) (by cases z<;>cases ad<;>rfl) rfl (fun h=>by cases z<;>cases ad<;>first|(cases h;done)|exact Y.le rfl rfl) (fun cp af=>?_)
 refine DL.gB (p:=z) (by cases z<;>rfl) rfl (fun h=>by subst h;exact Y.or (q:=cp) rfl rfl oV) (fun cq ag=>?_)
 refine DL.b rfl rfl (Y.and (q:=cq) rfl oV rfl) (fun a1 ah=>?_)
 refine au 1<|DL.gY (p:=a1) (by cases a1<;>rfl) rfl (fun h=>by subst h;exact Y.field F.sM rfl)<|DL.gY (p:=a1) (by cases a1<;>rfl) rfl (fun h=>by subst h;exact Y.hY F.pU rfl (Gb d) rfl)<|DL.gY (p:=a1) (by cases a1<;>rfl) rfl (fun h=>by subst h;exact Y.mW Tryz.underlying28 rfl)<|DL.gB (p:=a1) (by cases a1<;>rfl) rfl (fun h=>by subst h;exact Y.le rfl rfl) (fun cr aj=>?_)
 refine DL.b rfl rfl (Y.and (q:=cr) rfl oV rfl) (fun e9 ak=>?_)
 refine cX (ix b _) fun _ eA eB eC ⟨cs,b,am⟩=>au 4<|lD (Gb d) rfl rfl<|au 4<|jS rfl rfl (fun bs=>?_) (fun bs=>?_)
 ·subst bs
  refine au 7<|lD (Gb d) rfl rfl<|DL.b rfl rfl (Y.seq rfl rfl) (fun eD ct=>?_)
  refine cX (ix b _) fun _ eE eF eG ⟨eH,b,cu⟩=>au 5<|lA (cs:=#[aC,aD,aE,aF,aG,aH]) ((hB.hE (Gb d)).sub 2 yU (TM rfl)) rfl rfl<|cX (uS b bn (bo.fr f.g br) ((ar.oM.fr f.g A7).zU (fun av h=>h)) Ah Ah) fun _ eI eJ eK ⟨eL,b,cv⟩=>au 2<|hD.Hp (hH.mk f.g ⟨_,b,fun g=>?_⟩)
  obtain⟨o,cw⟩:=cv g
  obtain⟨r,cx⟩:=cu o
  obtain⟨v,j⟩:=am r
  obtain⟨a2,l⟩:=R v
  subst P O M L K J I ak aj ah ag af ae ab aa Z X W U T
  have a3:=T5 (ct▸cx)
  subst a3
  exact⟨a2,⟨(qa l).1,(qa l).2,(p9 j).1,(p9 j).2,.val cw⟩⟩
 refine au 5<|jS rfl rfl (fun bt=>?_) (fun bt=>?_)
 ·subst bt
  refine au 3<|DC.lG (σ:=Bool) (fun aA=>[(0,Pt m),(4,Pt a8),(5,Pt a9)]) (fun aA an=>Fr [m] w an∧an.heap[a8]? =some (.cells #[.string Cp,.string t,aC,aD,aE,aF,aG,aH,.slice aN ks.length aO,.slice aP S.length aQ,.slice aR ps.length aS,.slice aT Q.length aU] 31 (0,0))∧an.heap[a9]? =some (.cells #[.slice aV aI.length aY,.slice aW aJ.length aZ,.slice aX aL.length ba] 45 (0,0))∧Lk an m aA∧(aA=false→cs=false∧S.length=ks.length+1∧(t=⟨#[]⟩∨t∈ri))) ?_ ?_
  ·refine DC.mz [m] F.mixed fun cy bf eM=>have bf:=Sp.mk bf;have eN:=bf.size;have H:=Fr.refl [m] cy;aK [0,1]<|kT 2 rfl (fun a4 ao=>Y.hY F.yb rfl (ao.hO (Gb d) Ax) rfl)<|aK [3,4]<|kT 5 rfl (fun a4 ao=>Y.hY F.mF rfl (ao.hO (Gb d) Ax) rfl)<|aK [6]<|kT 7 rfl (fun a4 ao=>Y.mm (c:=((ks.length+1:Nat):Int)) rfl rfl Ac Ac Ac)<|DK.if 8 rfl Au Au Au rfl rfl (fun a4 ao=>Y.eq rfl rfl) (fun cz=>?_) (fun cz=>?_)
   ·refine aK [9,10]<|kT 11 rfl (fun a4 ao=>Y.hY F.oq rfl (ao.hO (Gb d) Ax) rfl)<|DK.if 12 rfl Au Au Au rfl rfl (fun a4 ao=>Y.seq rfl rfl) (fun bu=>?_) (fun bu=>?_)
    ·exact aK [13,15,16]<|kP 14<|au 1<|kN H<|kP 17<|au 1<|kN H<|aK [18,19]<|kP 20<|cX (ix b.g _) fun _ eO eP eQ ⟨bv,b,a5⟩=>kN H.g<|kD ⟨_,⟨rfl,rfl,rfl⟩,f.g,(Gb d),(Gb C),b,fun g=>by obtain⟨o,B⟩:=a5 g;exact⟨o,Ac,Ts bu⟩⟩
    refine aK [13,15]<|kT 16 rfl (fun a4 ao=>Y.hY F.oq rfl (ao.hO (Gb d) Ax) rfl)<|kP 14<|cX (pQ _) ?_
    rintro _ eR eS eT ⟨eU,rfl,eV,bg⟩
    refine kN H.g<|kP 17<|cX (iB ri _ _ Ah bg) ?_
    rintro _ eW eX eY ⟨eZ,rfl,c0,_⟩
    exact kN H.g<|aK [18,19]<|kP 20<|cX (ix b.g _) fun _ fa fb fc ⟨bv,b,a5⟩=>kN H.g<|kD ⟨_,⟨rfl,rfl,rfl⟩,f.g,(Gb d),(Gb C),b,fun g=>by obtain⟨o,B⟩:=a5 g;exact⟨o,Ac,Tk (c0 B)⟩⟩
   exact aK [9,10,11,12,13,15,16]<|kP 14<|au 1<|kN H<|kP 17<|au 1<|kN H<|aK [18,19]<|kP 20<|cX (ix b.g _) fun _ fd fe ff ⟨bv,b,a5⟩=>kN H.g<|kD ⟨_,⟨rfl,rfl,rfl⟩,f.g,(Gb d),(Gb C),b,fun g=>by obtain⟨o,B⟩:=a5 g;exact⟨o,Tu B Ah⟩⟩
  clear f d C b
  rintro aA B fg ⟨f,d,C,b,a5⟩
  have bd:=hC d;have be:=hC C;have bw:=f.size
  refine ac 5<|lE [m] w (σ:=Nat×Bool) [(6,6),(108,121)] [(4,Pt a8),(5,Pt a9),(0,Pt m)] (fun(i,_)=>[(6,.int .i64 (i:Int))]) (fun(i,a6) an=>i≤S.length∧an.heap[a8]? =some (.cells #[.string Cp,.string t,aC,aD,aE,aF,aG,aH,.slice aN ks.length aO,.slice aP S.length aQ,.slice aR ps.length aS,.slice aT Q.length aU] 31 (0,0))∧an.heap[a9]? =some (.cells #[.slice aV aI.length aY,.slice aW aJ.length aZ,.slice aX aL.length ba] 45 (0,0))∧Lk an m a6∧(a6=false→aA=false∧∀(ap:Nat)(h:ap<S.length),ap<i→Lib.validD S[ap].data.toList=true)) (fun(i,_)=>S.length - i) ((0,aA)) ?_ ?_
  ·exact⟨f,TE _,d,C,b,fun g=>⟨g,fun ap hj h=>Tu h Ac⟩⟩
  clear f d C b
  rintro B ⟨i,a6⟩ ap fh ⟨f,fi,d,C,b,bx⟩
  have bw:=f.size
  have bd:=hC d
  have be:=hC C
  have bq:=b.lt
  refine ac 5<|lD d rfl rfl<|au 1<|jX rfl rfl (fun c1=>?_) (fun c1=>?_)
  ·have bz:i<S.length:=by omega
   obtain⟨fj,fk,c2,fl,c3,c4⟩:=ar.name (i:=i) bz
   cases c2
   refine au 8<|lD d rfl rfl<|au 1<|iX F.ku (bz) rfl rfl rfl<|lC (f.cell c3 Bq) rfl<|cX (E4 b bn c4 (bo.fr f br)) fun _ fm fn fo ⟨fp,b,c5⟩=>au 3<|ai ((i+1:Nat):Int) rfl rfl<|au 2 ?_
   refine⟨(i+1,_),⟨f.g,Ac,(Gb d),(Gb C),b,fun g=>?_⟩,(by show S.length - (i+1)<S.length - i;omega),rfl⟩
   obtain⟨o,B⟩:=c5 g
   obtain⟨r,bh⟩:=bx o
   refine⟨r,fun ap hj fq=>?_⟩
   by_cases h:ap=i
   ·subst h;exact B
   exact bh ap hj Ac
  refine au 3<|hD.nf (hH.mk f ⟨_,b,fun g=>?_⟩)
  obtain⟨o,c6⟩:=bx g
  obtain⟨r,b0⟩:=a5 o
  obtain⟨v,j⟩:=am r
  obtain⟨a2,l⟩:=R v
  subst P O M L K J I ak aj ah ag af ae ab aa Z X W U T
  exact⟨a2,⟨(qa l).1,(qa l).2,(p9 j).1,(p9 j).2,.text b0.1 b0.2 (fun s hs=>by obtain⟨ap,hj,rfl⟩:=T0 hs;exact c6 ap hj Ac)⟩⟩
 refine au 5<|jS rfl rfl (fun b1=>?_) (fun b1=>?_)
 ·subst b1
  refine au 3<|DC.mz [m] F.mixed fun c7 bi fr=>have bi:=Sp.mk bi;have fs:=bi.size;have H:=Fr.refl [m] c7;aK [0,2]<|kT 3 rfl (fun a4 ao=>Y.hY F.oq rfl (ao.hO (Gb d) Ax) rfl)<|kP 1<|cX (pQ _) ?_
  rintro _ ft fu fv ⟨fw,rfl,fx,bg⟩
  refine kN H.g<|kP 4<|cX (iB ri _ _ Ah bg) ?_
  rintro _ fy fz f0 ⟨f1,rfl,c8,_⟩
  refine kN H.g<|kP 5<|cX (ix b.g _) fun _ f2 f3 f4 ⟨f5,b,c9⟩=>kN H.g<|kD<|hD.nf (hH.mk f.g ⟨_,b,fun g=>?_⟩)
  obtain⟨o,cB⟩:=c9 g
  obtain⟨r,j⟩:=am o
  obtain⟨v,l⟩:=R r
  subst P O M L K J I ak aj ah ag af ae ab aa Z X W U T
  exact⟨v,⟨(qa l).1,(qa l).2,(p9 j).1,(p9 j).2,.format (c8 cB)⟩⟩
 refine au 5<|jS rfl rfl (fun b2=>?_) (fun b2=>?_)
 ·subst b2
  refine au 7<|lD (Gb d) rfl rfl<|DL.b rfl rfl (Y.seq rfl rfl) (fun aw cC=>?_)
  refine au 1<|DL.gY (p:=aw) (by cases aw<;>rfl) rfl (fun h=>by subst h;exact Y.field F.o9 rfl)<|DL.gY (p:=aw) (by cases aw<;>rfl) rfl (fun h=>by subst h;exact Y.hY F.mF rfl (Gb d) rfl)<|DL.gY (p:=aw) (by cases aw<;>rfl) rfl (fun h=>by subst h;exact Y.mW Tryz.underlying27 rfl)<|DL.gY (p:=aw) (by cases aw<;>rfl) rfl (fun h=>by subst h;exact Y.rem rfl rfl Ah)<|DL.gB (p:=aw) (by cases aw<;>rfl) rfl (fun h=>by subst h;exact Y.eq rfl rfl) (fun cD cE=>?_)
  refine DL.b rfl rfl (Y.and (q:=cD) rfl oV rfl) (fun f6 cF=>?_)
  refine cX (ix b _) fun _ f7 f8 f9 ⟨b3,b,cG⟩=>au 6<|lE [m] w (σ:=Nat×Bool) [(7,8),(144,191)] [(4,Pt a8),(5,Pt a9),(0,Pt m)] (fun(A,_)=>[(7,.int .i64 ((2*A+1:Nat):Int))]) (fun(A,a6) an=>2*A≤ks.length+1∧an.heap[a8]? =some (.cells #[.string Cm,.string t,aC,aD,aE,aF,aG,aH,.slice aN ks.length aO,.slice aP S.length aQ,.slice aR ps.length aS,.slice aT Q.length aU] 31 (0,0))∧an.heap[a9]? =some (.cells #[.slice aV aI.length aY,.slice aW aJ.length aZ,.slice aX aL.length ba] 45 (0,0))∧Lk an m a6∧(a6=false→b3=false∧∀(i:Nat)(h:2*i+1<ks.length),i<A→(iz ks[2*i+1]≠Cn∨uj (ks[2*i]'(TW h))))) (fun(A,_)=>ks.length+2 - 2*A) ((0,b3)) ?_ ?_
  ·exact⟨f.g,Ac,(Gb d),(Gb C),b,fun g=>⟨g,fun ap hj h=>Tu h Ac⟩⟩
  clear f d C b
  rintro B ⟨A,a6⟩ ap fA ⟨f,fB,d,C,b,b4⟩
  have bw:=f.size
  have bd:=hC d
  have be:=hC C
  have bq:=b.lt
  refine ac 5<|lD d rfl rfl<|au 1<|jX rfl rfl (fun cH=>?_) (fun cH=>?_)
  ·have fC:2*A+1<ks.length:=by omega
   obtain⟨fD,fE,fF,cI,fG,cJ,cK,aB⟩:=ar.kF (i:=2*A) Ac
   cases cI
   obtain⟨cL,cM,cN,bj,cO,bk,cP,aM⟩:=ar.kF (i:=2*A+1) Ac
   cases bj
   generalize cQ:ks[2*A]=cR at aB
   generalize cS:ks[2*A+1]=cT at aM
   obtain⟨b5,b6,⟨b7,fH,fI,fJ,fK,fL⟩,b8,b9,bB,bC⟩:=cR
   obtain⟨bD,bE,bF,bG,bH,bI,bJ,bK,fM,bL,bM,bN,bO,bP,rfl⟩:=aB.hI
   obtain⟨cU,cV,cW,cZ,da,db,dc⟩:=cT
   obtain⟨dd,de,df,dg,dh,di,dj,dk,dl,dm,dn,dp,dq,dr,rfl⟩:=aM.hI
   have ds:=aB.oM.H6
   subst ds
   refine au 8<|lD d rfl rfl<|au 1<|si ((2*A:Nat):Int) rfl rfl<|iX F.iI Ac rfl rfl ((rfl:((2*A:Nat):Int)=((2*A:Nat):Int)))<|lA (cs:=#[.string b5,.string b6,.int .i64 b7,bL,bM,bN,bO,bP,.slice bD b9.length bE,.slice bF b8.length bG,.slice bH bB.length bI,.slice bJ bC.length bK]) (cJ.fr f Bq) cK rfl<|al F.z31 rfl fun fN fO fP fQ fR a7=>sA (cs:=#[.string b5,.string b6,.int .i64 b7,bL,bM,bN,bO,bP,.slice bD b9.length bE,.slice bF b8.length bG,.slice bH bB.length bI,.slice bJ bC.length bK]) a7 rfl rfl rfl aB.hA aB.one fun fS fT fU a7=>au 4<|lD (Gb d) rfl rfl<|au 1<|iX F.iI Ac rfl rfl ((rfl:((2*A+1:Nat):Int)=((2*A+1:Nat):Int)))<|au 1<|lC (f.g.cell (bk.cell 0 rfl) Bq) rfl<|DL.b rfl rfl (Y.vK rfl rfl) (fun u dt=>?_)
   refine au 1<|DL.gY (p:=(!u)) (by cases u<;>rfl) rfl (fun h=>by cases u<;>first|(cases h;done)|exact Y.field F.l7 rfl)<|DL.gY (p:=(!u)) (by cases u<;>rfl) rfl (fun h=>by cases u<;>first|(cases h;done)|exact Y.hY F.oq rfl a7 rfl)<|DL.gB (p:=(!u)) (by cases u<;>rfl) rfl (fun h=>by cases u<;>first|(cases h;done)|exact Y.seq rfl rfl) (fun aq du=>?_)
   refine DL.gY (p:=(!u)) (by cases u<;>rfl) rfl (fun h=>by cases u<;>first|(cases h;done)|exact Y.move)<|DL.gY (p:=(!u&&aq)) (by cases u<;>cases aq<;>rfl) rfl (fun h=>by cases u<;>cases aq<;>first|(cases h;done)|exact Y.field F.zv rfl)<|DL.gY (p:=(!u&&aq)) (by cases u<;>cases aq<;>rfl) rfl (fun h=>by cases u<;>cases aq<;>first|(cases h;done)|exact Y.field F.zF rfl)<|DL.gY (p:=(!u&&aq)) (by cases u<;>cases aq<;>rfl) rfl (fun h=>by cases u<;>cases aq<;>first|(cases h;done)|exact Y.hY F.Mv rfl a7 rfl)<|DL.gB (p:=(!u&&aq)) (by cases u<;>cases aq<;>rfl) rfl (fun h=>by cases u<;>cases aq<;>first|(cases h;done)|exact Y.eq rfl rfl) (fun dv dw=>?_)
   refine DL.gB (p:=(!u)) (by cases u<;>rfl) rfl (fun h=>by cases u<;>first|(cases h;done)|exact Y.and (q:=dv) rfl oV rfl) (fun dx dy=>?_)
   refine DL.b rfl rfl (Y.or (q:=dx) rfl rfl oV) (fun az dz=>?_)
   refine au 1<|DL.gY (p:=(!az)) (by cases az<;>rfl) rfl (fun h=>by cases az<;>first|(cases h;done)|exact Y.field F.l7 rfl)<|DL.gY (p:=(!az)) (by cases az<;>rfl) rfl (fun h=>by cases az<;>first|(cases h;done)|exact Y.hY F.oq rfl a7 rfl)<|DL.gB (p:=(!az)) (by cases az<;>rfl) rfl (fun h=>by cases az<;>first|(cases h;done)|exact Y.seq rfl rfl) (fun d0 d1=>?_)
   refine DL.b rfl rfl (Y.or (q:=d0) rfl rfl oV) (fun y d2=>?_)
   refine au 1<|DL.gY (p:=(!y)) (by cases y<;>rfl) rfl (fun h=>by cases y<;>first|(cases h;done)|exact Y.field F.l7 rfl)<|DL.gY (p:=(!y)) (by cases y<;>rfl) rfl (fun h=>by cases y<;>first|(cases h;done)|exact Y.hY F.oq rfl a7 rfl)<|DL.gB (p:=(!y)) (by cases y<;>rfl) rfl (fun h=>by cases y<;>first|(cases h;done)|exact Y.seq rfl rfl) (fun a0 d4=>?_)
   refine DL.gY (p:=(!y)) (by cases y<;>rfl) rfl (fun h=>by cases y<;>first|(cases h;done)|exact Y.move)<|DL.gY (p:=(!y&&a0)) (by cases y<;>cases a0<;>rfl) rfl (fun h=>by cases y<;>cases a0<;>first|(cases h;done)|exact Y.field F.Kc rfl)<|DL.gY (p:=(!y&&a0)) (by cases y<;>cases a0<;>rfl) rfl (fun h=>by cases y<;>cases a0<;>first|(cases h;done)|exact Y.hY F.oq rfl a7 rfl)<|DL.gB (p:=(!y&&a0)) (by cases y<;>cases a0<;>rfl) rfl (fun h=>by cases y<;>cases a0<;>first|(cases h;done)|exact Y.seq rfl rfl) (fun d5 d6=>?_)
   refine DL.gB (p:=(!y)) (by cases y<;>rfl) rfl (fun h=>by cases y<;>first|(cases h;done)|exact Y.and (q:=d5) rfl oV rfl) (fun d7 d8=>?_)
   refine DL.b rfl rfl (Y.or (q:=d7) rfl rfl oV) (fun fV d9=>?_)
   refine cX (ix b.g _) fun _ fW fX fY ⟨fZ,b,dA⟩=>au 3<|ai ((2*(A+1)+1:Nat):Int) rfl rfl<|au 2 ?_
   refine⟨(A+1,_),⟨f.g,Ac,(Gb d),(Gb C),b,fun g=>?_⟩,(by show ks.length+2 - 2*(A+1)<ks.length+2 - 2*A;omega),rfl⟩
   obtain⟨o,B⟩:=dA g
   obtain⟨r,bh⟩:=b4 o
   refine⟨r,fun i hi ga=>?_⟩
   by_cases h:i=A
   ·subst h
    simp only[d9,d8,d6,d4,d2,d1,dz,dy,dw,du,dt,TO,Tx,UR,TA,TJ]at B
    rw[cQ,cS]
    rcases B with((B|B)|B)|B
    ·exact Ts B
    ·exact Tk (Ts B)
    ·exact Tk (Tk (Ts B))
    exact Tk (Tk (Tk B))
   exact bh i hi Ac
  refine au 3<|hD.nf (hH.mk f ⟨_,b,fun g=>?_⟩)
  obtain⟨o,dB⟩:=b4 g
  obtain⟨r,bQ⟩:=cG o
  obtain⟨v,j⟩:=am r
  obtain⟨a2,l⟩:=R v
  subst P O M L K J I ak aj ah ag af ae ab aa Z X W U T
  simp only[cF,cE,cC,Tx,TA]at bQ
  obtain⟨a3,dC⟩:=bQ
  subst a3
  rw[Vm Ac]at dC
  exact⟨a2,⟨(qa l).1,(qa l).2,(p9 j).1,(p9 j).2,.object Ac (fun i hi=>dB i hi Ac)⟩⟩
 refine au 5<|jS rfl rfl (fun bR=>?_) (fun bR=>?_)
 ·subst bR
  obtain⟨gb,dD,dE,rfl⟩:=Od (cf rfl)
  obtain⟨cL,cM,cN,bj,cO,bk,cP,aM⟩:=ar.kF (i:=1) Al
  cases bj
  obtain⟨gc,gd,ge,dF,gf,dG,gg,dH⟩:=ar.kF (i:=2) Al
  cases dF
  obtain⟨cU,cV,cW,cZ,da,db,dc⟩:=dD
  obtain⟨dd,de,df,dg,dh,di,dj,dk,dl,dm,dn,dp,dq,dr,rfl⟩:=aM.hI
  obtain⟨gh,gi,gj,gk,gl,gm,gn⟩:=dE
  obtain⟨go,gp,gq,gr,gs,gt,gu,gv,gw,gx,gy,gz,g0,g1,rfl⟩:=dH.hI
  refine au 7<|lD (Gb d) rfl rfl<|DL.b rfl rfl (Y.seq rfl rfl) (fun g2 dI=>?_)
  refine cX (ix b _) fun _ g3 g4 g5 ⟨g6,b,dJ⟩=>au 4<|lD (Gb d) rfl rfl<|iX F.iI Al rfl rfl ((rfl:(1:Int)=((1:Nat):Int)))<|au 1<|lC (f.g.cell (bk.cell 0 rfl) Bq) rfl<|DL.b rfl rfl (Y.vK rfl rfl) (fun E dK=>?_)
  refine au 1<|DL.gY (p:=(!E)) (by cases E<;>rfl) rfl (fun h=>by cases E<;>first|(cases h;done)|exact Y.field F.o9 rfl)<|DL.gY (p:=(!E)) (by cases E<;>rfl) rfl (fun h=>by cases E<;>first|(cases h;done)|exact Y.hY F.mF rfl (Gb d) rfl)<|DL.gY (p:=(!E)) (by cases E<;>rfl) rfl (fun h=>by cases E<;>first|(cases h;done)|exact Y.index F.iI rfl rfl ((rfl:(2:Int)=((2:Nat):Int))) Al)<|DL.gY (p:=(!E)) (by cases E<;>rfl) rfl (fun h=>by cases E<;>first|(cases h;done)|exact Y.field F.l7 rfl)<|DL.gY (p:=(!E)) (by cases E<;>rfl) rfl (fun h=>by cases E<;>first|(cases h;done)|exact Y.load F.oq rfl (f.g.cell (dG.cell 0 rfl) Bq))<|DL.gB (p:=(!E)) (by cases E<;>rfl) rfl (fun h=>by cases E<;>first|(cases h;done)|exact Y.vK rfl rfl) (fun dL dM=>?_)
  refine DL.b rfl rfl (Y.or (q:=dL) rfl rfl oV) (fun g7 dN=>?_)
  refine cX (ix b _) fun _ g8 g9 gA ⟨gB,b,dO⟩=>au 1<|hD.nf (hH.mk f.g ⟨_,b,fun g=>?_⟩)
  obtain⟨o,bS⟩:=dO g
  obtain⟨r,dP⟩:=dJ o
  obtain⟨v,j⟩:=am r
  obtain⟨a2,l⟩:=R v
  subst P O M L K J I ak aj ah ag af ae ab aa Z X W U T
  have a3:=T5 (dI▸dP)
  subst a3
  simp only[dN,dM,dK,TO,UR,TJ]at bS
  exact⟨a2,⟨(qa l).1,(qa l).2,(p9 j).1,(p9 j).2,.slice bS⟩⟩
 refine au 5<|jS rfl rfl (fun bT=>?_) (fun bT=>?_)
 ·subst bT
  refine au 6<|lD (Gb d) rfl rfl<|cX (mM _ ch _) ?_
  rintro _ gC gD gE ⟨gF,rfl,dQ⟩
  refine cX (ix b.g _) fun _ gG gH gI ⟨gJ,b,dR⟩=>au 1<|hD.nf (hH.mk f.g ⟨_,b,fun g=>?_⟩)
  obtain⟨o,dS⟩:=dR g
  obtain⟨r,j⟩:=am o
  obtain⟨v,l⟩:=R r
  subst P O M L K J I ak aj ah ag af ae ab aa Z X W U T
  exact⟨v,⟨(qa l).1,(qa l).2,(p9 j).1,(p9 j).2,.label (dQ dS)⟩⟩
 refine au 5<|jS rfl rfl (fun bU=>?_) (fun bU=>?_)
 ·subst bU
  refine au 6<|lD (Gb C) rfl rfl<|au 1<|lD (Gb d) rfl rfl<|cX (iB aL _ _ Ac (ck.fr f.g bc)) ?_
  rintro _ gK gL gM ⟨gN,rfl,dT,_⟩
  refine cX (ix b.g _) fun _ gO gP gQ ⟨gR,b,dU⟩=>au 1<|hD.nf (hH.mk f.g ⟨_,b,fun g=>?_⟩)
  obtain⟨o,dV⟩:=dU g
  obtain⟨r,j⟩:=am o
  obtain⟨v,l⟩:=R r
  subst P O M L K J I ak aj ah ag af ae ab aa Z X W U T
  exact⟨v,⟨(qa l).1,(qa l).2,(p9 j).1,(p9 j).2,.za ((bb v).2.2 _ (dT dV))⟩⟩
 refine au 5<|jS rfl rfl (fun bV=>?_) (fun bV=>?_)
 ·subst bV
  refine au 6<|lD (Gb C) rfl rfl<|au 1<|lD (Gb d) rfl rfl<|cX (iB aI _ _ Ac (ci.fr f.g bc)) ?_
  rintro _ gS gT gU ⟨gV,rfl,dW,_⟩
  refine cX (ix b.g _) fun _ gW gX gY ⟨gZ,b,dX⟩=>au 1<|hD.nf (hH.mk f.g ⟨_,b,fun g=>?_⟩)
  obtain⟨o,dY⟩:=dX g
  obtain⟨r,j⟩:=am o
  obtain⟨v,l⟩:=R r
  subst P O M L K J I ak aj ah ag af ae ab aa Z X W U T
  exact⟨v,⟨(qa l).1,(qa l).2,(p9 j).1,(p9 j).2,.var ((bb v).1 _ (dW dY))⟩⟩
 refine au 5<|jS rfl rfl (fun bW=>?_) (fun bW=>?_)
 ·subst bW
  refine au 5<|lw (Gb d) rfl ar.hA<|cX (Hh _ _ _ (ar.fr f.g A7)) ?_
  rintro _ ha hb hd ⟨bY,rfl,bZ⟩
  refine au 5<|lD (Gb C) rfl rfl<|au 1<|cX (iB aJ _ _ Ac (cj.fr f.g bc)) ?_
  rintro _ he hf hg ⟨dZ,rfl,ea,_⟩
  refine(Ua dZ).elim (fun bl=>?_) (fun bl=>?_)
  ·subst bl
   refine au 4<|cX (ix b.g _) fun _ hh hm hn ⟨eb,b,bm⟩=>au 1<|hD.nf (hH.mk f.g ⟨_,b,fun g=>?_⟩)
   obtain⟨o,ca⟩:=bm g
   obtain⟨r,j⟩:=am o
   obtain⟨v,l⟩:=R r
   subst P O M L K J I ak aj ah ag af ae ab aa Z X W U T
   exact⟨v,⟨(qa l).1,(qa l).2,(p9 j).1,(p9 j).2,.call ⟨bY,bZ,Ts ((bb v).2.1 _ (ea rfl))⟩⟩⟩
  subst bl
  refine au 2<|cX (xZ _ _) ?_
  rintro _ ho hp hq ⟨hr,rfl,ec⟩
  refine au 1<|cX (ix b.g _) fun _ hv hy hz ⟨eb,b,bm⟩=>au 1<|hD.nf (hH.mk f.g ⟨_,b,fun g=>?_⟩)
  obtain⟨o,ca⟩:=bm g
  obtain⟨r,j⟩:=am o
  obtain⟨v,l⟩:=R r
  subst P O M L K J I ak aj ah ag af ae ab aa Z X W U T
  exact⟨v,⟨(qa l).1,(qa l).2,(p9 j).1,(p9 j).2,.call ⟨bY,bZ,Tk (ec ca)⟩⟩⟩
 refine au 5<|jS rfl rfl (fun cb=>?_) (fun cb=>?_)
 ·subst cb
  refine au 4<|hD.nf (hH.mk f.g ⟨_,b,fun g=>?_⟩)
  obtain⟨o,j⟩:=am g
  obtain⟨r,l⟩:=R o
  subst P O M L K J I ak aj ah ag af ae ab aa Z X W U T
  exact⟨r,⟨(qa l).1,(qa l).2,(p9 j).1,(p9 j).2,.field⟩⟩
 refine au 6<|lD (Gb d) rfl rfl<|DL.b rfl rfl (Y.seq rfl rfl) (fun h3 ed=>?_)
 refine cX (ix b _) fun _ h4 h5 h6 ⟨h7,b,ee⟩=>au 1<|hD.nf (hH.mk f.g ⟨_,b,fun g=>?_⟩)
 obtain⟨o,ef⟩:=ee g
 obtain⟨r,j⟩:=am o
 obtain⟨v,l⟩:=R r
 subst P O M L K J I ak aj ah ag af ae ab aa Z X W U T
 have a3:=T5 (ed▸ef)
 subst a3
 exact⟨v,⟨(qa l).1,(qa l).2,(p9 j).1,(p9 j).2,.De (by intro h8 cc;simp only[z8,Tr,Tp,TD]at cc;rcases cc with rfl|rfl|rfl|rfl|rfl|rfl|rfl|rfl|rfl|rfl<;>assumption)⟩⟩
structure MS(w:World)(B:Nat)(X:List Nat)(l:List ByteArray)(sl:Value):Prop where
 own:w.ownsRow B 9 1 sl l.length (l.map Value.string)
 ob:∀c,sl.ownBlock=some c→B≤c∧c<w.heap.size∧c∉X
section
variable{S:List Nat}{w w':World}{B d:Nat}{X:List Nat}{l:List ByteArray}{sl sl':Value}
theorem MS.mk'(h:w.ownsRow B 9 1 sl l.length (l.map Value.string)):MS w B [] l sl:=⟨h,fun b hc=>⟨(ik h b (hF.2 hc)).1,(ik h b (hF.2 hc)).2,by simp⟩⟩
theorem MS.fr(h:MS w B X l sl)(f:Fr S w w')(hs:∀b∈S,b∈X∨b<B∨w.heap.size≤b):MS w' B X l sl:=
 ⟨kX h.own f (fun b g j=>by have:=h.ob b j;rcases hs b g with h1|h1|h1;exact this.2.2 h1;omega;omega),fun c hc=>⟨(h.ob c hc).1,Tj (h.ob c hc).2.1 f.size,(h.ob c hc).2.2⟩⟩
theorem MS.g(h:MS w B X l sl)(b:MS w B X l sl→MS w' B X l sl:=by exact Gq):MS w' B X l sl:=b h
theorem MS.k9(h:MS w B X l sl)(b:Fr [] w w'):MS w' B X l sl:=h.fr b (fun f c=>by cases c)
theorem MS.n6(h:MS w B X l sl)(b:Fr [d] w w')(c:d∈X∨d<B∨w.heap.size≤d):MS w' B X l sl:=h.fr b (fun g f=>by rcases Tt.1 f with rfl;exact c)
theorem MS.xn(h:MS w B X l sl){f:Nat}(g:w.heap.size≤f):MS w B (f::X) l sl:=⟨h.own,fun b hc=>⟨(h.ob b hc).1,(h.ob b hc).2.1,fun c=>by rcases Tr.1 c with rfl|c;have:=(h.ob b hc).2.1;omega;exact(h.ob b hc).2.2 c⟩⟩
theorem MS.down{Y:List Nat}(h:MS w B X l sl)(c:∀b∈Y,b∈X):MS w B Y l sl:=⟨h.own,fun b hc=>⟨(h.ob b hc).1,(h.ob b hc).2.1,fun f=>(h.ob b hc).2.2 (c b f)⟩⟩
theorem MS.snoc{s:ByteArray}(h:MS w B X l sl)(k:B≤w.heap.size)(f:∀x∈X,x<w.heap.size)(b:w'.ownsRow B 9 1 sl' (l.length+1) (l.map Value.string++(#[Value.string s]:Array Value).toList))(g:sl'.ownBlock=sl.ownBlock∨sl'.ownBlock=some w.heap.size):MS w' B X (l++[s]) sl':=
 ⟨by simpa using b,fun c hc=>⟨(ik b c (hF.2 hc)).1,(ik b c (hF.2 hc)).2,by
  rcases g with h1|h1
  ·exact(h.ob c (h1▸hc)).2.2
  ·rw[h1]at hc;cases hc;intro j;have:=f _ j;omega⟩⟩
theorem MS.nx(h:MS w B X l sl){b:Nat}(hx:b∈X):b∉hX sl:=fun c=>(h.ob b (hF.1 c)).2.2 hx
theorem MS.row(h:MS w B X l sl):∃a b,sl=.slice a l.length b∧hT w (fun c=>B≤c∧c<w.heap.size) a l.length 1 (strCells l)∧l.length≤b:=ni rfl h.own
theorem MS.nil(w:World)(B:Nat)(X:List Nat):MS w B X [] Zl:=⟨World.ownsRow_nil _ _ _ _,fun b h=>by simp[Value.ownBlock]at h⟩
end
theorem qi{w:World}{B:Nat}{X:List Nat}{l:List ByteArray}{sl:Value}(h:MS w B X l sl)(hl:l.length≤140737488351232)(s:ByteArray):Calls Tryz.prog 52 #[sl,.string s] w (hH w [] fun c _=>∃b,c=.bool b∧(b=true→s∈l)∧(b=false→s∉l)):=by
 obtain⟨a,g,rfl,f,_⟩:=h.row
 exact iB l s w hl f
theorem N.j6{l:List N}{i:Nat}(h:i<l.length):N.h9 (l.take (i+1))=N.h9 (l.take i)+l[i].wt:=by
 induction l generalizing i with
 |nil=>cases h
 |cons c l b=>
  cases i with
  |zero=>simp[N.h9]
  |succ i=>have:=b (i:=i) AU;simp only[T4,N.h9,this,TZ];omega
theorem N.mD(l:List N)(i:Nat):N.h9 (l.take i)≤N.h9 l:=by
 induction l generalizing i with
 |nil=>simp
 |cons c l b=>
  cases i with
  |zero=>simp[N.h9]
  |succ i=>have:=b i;simp only[T4,N.h9];omega
theorem N.DF(l:List N)(i:Nat):N.h9 (l.take i)≤N.h9 (l.take (i+1)):=by
 by_cases h:i<l.length
 ·rw[N.j6 h];omega
 rw[TK Ac,TK Ac];exact Tv _
theorem nz{k:Nat}{l:List N}(h:∀(i:Nat)(h:i<l.length),∃b,Gd k l[i] b):∃c:List (List UInt8),l.length=c.length∧∀(i:Nat)(h1:i<l.length)(h2:i<c.length),Gd k l[i] c[i]:=by
 have f:∀i,∃b,∀h1:i<l.length,Gd k l[i] b:=fun i=>by
  by_cases hi:i<l.length
  ·obtain⟨b,ht⟩:=h i hi;exact⟨b,fun _=>ht⟩
  exact⟨[],fun h=>Tu h hi⟩
 refine⟨(List.range l.length).map (fun i=>Classical.choose (f i)),by simp,fun i h1 h2=>?_⟩
 simp only[Uw,Us]
 exact Uo (f i) h1
theorem ke.jI{s:ByteArray}(h:ke s):jI s.data.toList=true:=by
 have hc:∀b:UInt8,Jw b.toNat=true→jt false b=true:=fun b hc=>by
  simp only[Jw,TA]at hc
  simp only[jt,TO,Tx,TA,Uh,Bool.not_false,VH,T1]
  rcases hc with h|h|h
  ·exact Ts (Ts (Ts ⟨h.1,h.2⟩))
  ·exact Tk ⟨h.1,h.2⟩
  exact Ts (Tk (TV.1 h))
 have f:∀i (hi:i<s.data.toList.length),Jw s.data.toList[i].toNat=true:=fun i hi=>by
  have h1:i<s.size:=by rw[hK];exact hi
  rw[pA h1];exact h.chars i h1
 have k:=h.first (by have:=h.len.1;omega)
 have h0:0<s.size:=by have:=h.len.1;omega
 have c:∀h:0<s.data.toList.length,¬(48≤s.data.toList[0].toNat∧s.data.toList[0].toNat≤57):=fun h=>by rw[pA h0];exact k
 have hl:0<s.data.toList.length:=by rw[←hK];exact h0
 generalize s.data.toList=l at f c hl
 match l,hl with
 |b::j,_=>
  have g:=f 0 Al
  have c:=c Al
  simp only[TF]at g c
  have m:j.all (jt false)=true:=by
   rw[Uk]
   intro x hx
   obtain⟨i,hi,rfl⟩:=T0 hx
   exact hc _ (by have:=f (i+1) A3;simpa using this)
  show(jt true b&&j.all (jt false))=true
  rw[m,VG]
  simp only[Jw,TA]at g
  simp only[jt,TO,Tx,TA,Uh,Bool.not_true,VY,Bool.or_false,T1]
  rcases g with h|h|h
  ·exact Ts (Ts ⟨h.1,h.2⟩)
  ·exact Tu h c
  exact Tk (TV.1 h)
theorem RN.RB{w:World}{D:Nat→Prop}{op text b o:ByteArray}{c:V}{names:List ByteArray}{kids pats defs:List N}{a f g d e j k h i m:Value}(p:RN w D 0 (.mk op text c names kids pats defs) #[.string b,.string o,a,f,g,d,e,j,k,h,i,m]):RN w D 0 (.mk op ⟨#[]⟩ c names kids pats defs) #[.string b,Zs,a,f,g,d,e,j,k,h,i,m]:=by
 cases p with
 |q r t u v ht y z A C E F hk G H I J K L hkc=>exact .q r t u v Ah y z A C E F hk G H I J K L hkc
theorem RN.Rb{w:World}{D:Nat→Prop}{op text b c:ByteArray}{j:V}{names:List ByteArray}{kids pats defs:List N}{a k m d e o f h i g:Value}(p:RN w D 0 (.mk op text j names kids pats defs) #[.string b,.string c,a,k,m,d,e,o,f,h,i,g]):RN w D 0 (.mk op text V0 names kids pats defs) #[.string b,.string c,Zi,Zi,Zs,Zl,Zl,Zl,f,h,i,g]:=by
 cases p with
 |q r t u v ht L y z A C E hk F G H I J K hkc=>exact .q r t u v ht (j3.zero _ _) y z A C E hk F G H I J K hkc
theorem Good.Ml{b:Int}{c:ByteArray}{f g:List V}{j:List ByteArray}(h:Good (.mk 4 b c f j g)):b=0∧f=[]∧j=[]∧g=[]∧Lib.validD c.data.toList=true:=by
 cases h with
 |mk n hl k=>
  have h1:=n.HS.resolve_left Ah;have h2:=n.HY.resolve_left Ah;have m:=n.same
  exact⟨n.hzero.resolve_left Ah,Tn h1,Tn h2,Tn Ac,n.zA⟩
def Qz(op tx:ByteArray)(ks ps:List N):Prop:=(op=CN∧tx=⟨#[]⟩∧ks=[]∧0<ps.length)∨(op=CJ∧tx=⟨#[]⟩∧ks.length=ps.length∧0<ps.length)
def Nh(op:ByteArray)(ks:List N)(i:Nat):Prop:=op=CN∨(op=CJ∧∃h:i<ks.length,(∃s:ByteArray,jI s.data.toList=true∧ks[i]=mu s)∨∃s:ByteArray,Lib.validD s.data.toList=true∧ks[i]=jk s)
def EB(op:ByteArray)(ks ps:List N)(j:Nat):Prop:=(op=CN→∃(h:j<ps.length)(t:List UInt8),Gd 1 ps[j] t)∧(op=CJ→∃(h1:j<ks.length)(h2:j<ps.length)(t:List UInt8),Gd 4 (wb ks[j] ps[j]) t)
theorem EB.MZ{j:ByteArray}{ks ps:List N}{i:Nat}(h:Nh j ks i)(hi:i<ps.length)(b:∃c,Gd 1 ps[i] c):EB j ks ps i:=by
 obtain⟨c,b⟩:=b
 rcases h with h|⟨h,hk,h2⟩
 ·exact⟨fun _=>⟨hi,c,b⟩,fun e=>by subst h;exact Tu e Ah⟩
 refine⟨fun e=>by subst h;exact Tu e Ah,fun _=>?_⟩
 rcases h2 with⟨s,f,g⟩|⟨s,f,g⟩
 ·exact⟨hk,hi,_,by rw[g];exact .DU f b⟩
 exact⟨hk,hi,_,by rw[g];exact .EM f b⟩
theorem K2{c f:ByteArray}{ks ps:List N}(h:Qz c f ks ps)(g:∀j (h:j<ps.length),EB c ks ps j):∃b,Gd 1 (.mk c f V0 [] ks ps []) b:=by
 rcases h with⟨rfl,rfl,rfl,h0⟩|⟨rfl,rfl,hl,h0⟩
 ·obtain⟨o,h1,h2⟩:=nz (k:=1) (l:=ps) (fun i hi=>let⟨_,b,h⟩:=(g i hi).1 rfl;⟨b,h⟩)
  exact⟨_,.L9 h0 h1 h2⟩
 have m:∀i,∃b,∀(h1:i<ks.length)(h2:i<ps.length),Gd 4 (wb ks[i] ps[i]) b:=fun i=>by
  by_cases hi:i<ps.length
  ·obtain⟨_,_,b,ht⟩:=(g i hi).2 rfl;exact⟨b,fun _ _=>ht⟩
  exact⟨[],fun _ h=>Tu h hi⟩
 refine⟨_,.MU (us:=(List.range ps.length).map (fun i=>Classical.choose (m i))) h0 hl Al (fun i a p q=>?_)⟩
 simp only[Uw,Us]
 exact Uo (m i) a p
def OC(m:Nat):Prop:=∀(p:N)(cs:Array Value)(met:Value)(l:List ByteArray)(w:World)(b B:Nat)(bad:Bool)(d:Int),p.nodes≤m→RN w (fun c=>c<b) 1 p cs→Lk w b bad→2≤b→ij w→b<B→B≤w.heap.size→w.ownsRow B 9 1 met l.length (l.map Value.string)→l.length+p.wt≤67108864→0≤d→d≤1000→Can 1 p→
 Calls Tryz.prog 59 #[Pt b,.agg cs,met,.int .i64 d] w (hH w (b::hX met) fun r w'=>∃bad' l',Lk w' b bad'∧w'.ownsRow B 9 1 r (List.length l') (l'.map Value.string)∧(∀x∈hX r,x∈hX met∨w.heap.size≤x)∧l'.length≤l.length+p.wt∧(bad'=false→bad=false∧(∀s∈l',s∈l∨ke s)∧∃t,Gd 1 p t))
theorem uY(bZ:Nat)(cv:OC bZ):OC (bZ+1):=by
 intro g ak o O E m am ca ax p ay b cb cc B dR cw hlen h0 h1 cx
 obtain⟨J,P,cy,cz,ks,ps,c0⟩:=g
 obtain⟨dS,cd,rfl,rfl,rfl⟩:(∀(i:Nat)(h:i<ks.length),Can 0 ks[i])∧(∀(i:Nat)(h:i<ps.length),Can 1 ps[i])∧cy=V0∧cz=[]∧c0=[]:=by cases cx with|p hk hp=>exact⟨hk,hp,rfl,rfl,rfl⟩
 obtain⟨bc,az,a0,a1,rfl⟩:=ay.lH
 obtain⟨c1,c2,dT,dU⟩:=ay.nw
 have f:=MS.mk' cw
 have a2:=b.lt
 have bd:∀x∈hX o,x∈hX o∨E.heap.size≤x:=fun x hx=>Ts hx
 have Q:∀r,r<m→r∉m::hX o:=fun r hc p=>by rcases Tr.1 p with rfl|p;omega;have:=(f.ob r (hF.1 p)).1;omega
 have ce:∀r,r<2→r∉m::hX o:=fun r hc=>Q r Ac
 simp only[N.wt,N.h9]at hlen
 have dV:1≤J.size→J.size≤140737488351232:=fun _=>c1
 refine cY Tryz.func59 fun d=>ac 2<|bX rfl fun t dW b5 c3 a3 c=>have b:=b.k9 b5.f;au 7<|cX (xw b _) ?_
 rintro _ dX b6 dY ⟨c4,rfl,b,R⟩
 have d:=(d.jP b5.f).Ls b6.f Al
 have f:=((f.xn c3).k9 b5.f).n6 b6.f (Tk (Ts B))
 have c:=b6.jK c Ac
 refine(Ua c4).elim (fun R=>?_) (fun R=>?_)
 ·subst R
  refine au 4<|DC.lG (σ:=Bool) (fun ab=>[(0,Pt m),(3,.int .i64 ax),(5,Pt t),(2,o)]) (fun ab k=>Fr (m::hX o) E k∧k.heap[t]? =some (.cells #[.string J,.string P,.slice bc ks.length az,.slice a0 ps.length a1] 59 (0,0))∧Lk k m ab∧MS k am [t] O o∧(ab=false→ca=false∧Qz J P ks ps)) ?_ ?_
  ·refine ac 3<|lD c rfl rfl<|au 4<|jS rfl rfl (fun cf=>?_) (fun cf=>?_)
   ·subst cf
    refine au 3<|DC.lG (σ:=Bool) (fun K=>[(0,Pt m),(2,o),(5,Pt t)]) (fun K k=>Fr (m::hX o) E k∧k.heap[t]? =some (.cells #[.string Cx,.string P,.slice bc ks.length az,.slice a0 ps.length a1] 59 (0,0))∧Lk k m K∧MS k am [t] O o∧(K=false→ca=false∧ke P∧ks=[]∧ps=[])) ?_ ?_
    ·refine ac 3<|lD c rfl rfl<|cX (mM _ c2 _) ?_
     rintro _ dZ be ea ⟨c5,rfl,c6⟩
     have d:=d.jP be.f
     have f:=f.k9 be.f
     have c:=be.il c
     have b:=b.k9 be.f
     refine(Ua c5).elim (fun b7=>?_) (fun b7=>?_)
     ·subst b7
      refine au 3<|lD c rfl rfl<|cX (qi f Ac _) ?_
      rintro _ eb bf ec ⟨ed,rfl,_,_⟩
      have c:=bf.il c
      have b:=b.k9 bf.f
      refine DL.b rfl rfl (Y.not rfl) (fun u ee=>?_)
      refine au 2<|DL.gY (p:=u) (by cases u<;>rfl) rfl (fun h=>by subst h;exact Y.field F.pe rfl)<|DL.gY (p:=u) (by cases u<;>rfl) rfl (fun h=>by subst h;exact Y.hY F.mF rfl c rfl)<|DL.gY (p:=u) (by cases u<;>rfl) rfl (fun h=>by subst h;exact Y.mW Tryz.underlying27 rfl)<|DL.gY (p:=u) (by cases u<;>rfl) rfl (fun h=>by subst h;exact Y.field F.n0 rfl)<|DL.gY (p:=u) (by cases u<;>rfl) rfl (fun h=>by subst h;exact Y.hY F.pU rfl c rfl)<|DL.gY (p:=u) (by cases u<;>rfl) rfl (fun h=>by subst h;exact Y.mW Tryz.underlying28 rfl)<|DL.gY (p:=u) (by cases u<;>rfl) rfl (fun h=>by subst h;exact Y.mm (c:=((ks.length+ps.length:Nat):Int)) rfl rfl Ac Ac Ac)<|DL.gB (p:=u) (by cases u<;>rfl) rfl (fun h=>by subst h;exact Y.eq rfl rfl) (fun c7 c8=>?_)
      refine DL.b rfl rfl (Y.and (q:=c7) rfl oV rfl) (fun ef c9=>?_)
      exact cX (ix b _) fun _ eg b8 eh ⟨cA,b,b9⟩=>have d:=(d.jP bf.f).Ls b8.f Al;have f:=(f.k9 bf.f).n6 b8.f (Tk (Ts B));have c:=b8.jK c Ac;au 1 ⟨_,⟨rfl,rfl,rfl⟩,d,c,b,f,fun l=>by obtain⟨C,D⟩:=b9 l;simp only[c9,c8,Tx,TA]at D;exact⟨(R rfl).1,c6 rfl,Tn Ac,Tn Ac⟩⟩
     subst b7
     exact au 17<|cX (ix b _) fun _ ei bA ej ⟨cA,b,b9⟩=>have d:=d.Ls bA.f Al;have f:=f.n6 bA.f (Tk (Ts B));have c:=bA.jK c Ac;au 1 ⟨_,⟨rfl,rfl,rfl⟩,d,c,b,f,fun l=>Tu (b9 l).2 Ah⟩
    clear d f c b
    rintro K D ek ⟨d,c,b,f,cB⟩
    have a3:=hC c;have bg:=d.size;have a2:=b.lt
    refine ac 4<|lD c rfl rfl<|DL.iu rfl rfl (F.lT) rfl rfl rfl fun el em bh en eo cC=>have ep:=bh.size;have f:=f.k9 bh;DL.hJ (news:=#[.string P]) rfl rfl F.lT rfl rfl f.own (hB.hE cC) rfl AQ Ac Ac Ac ?_
    intro cD eq bB bC a4
    have bE:=f.snoc Ac Aj bC a4
    have G:∀x∈hX cD,x∈hX o∨E.heap.size≤x:=fun x hx=>by rcases a4 with e|e;exact bd x (hF.2 (e▸hF.1 hx));have y:=hF.1 hx;rw[e]at y;cases y;exact Tk Ac
    have d:=(d.jP bh).put bB (fun x hx=>(bd x hx).imp (Ux _) id)
    have er:=bB.size
    have b:=(b.k9 bh).fr bB (fun p=>by have:=(f.ob _ (hF.1 p)).1;omega)
    have f:=bE
    refine au 3<|rX d ⟨_,_,b,f.own,G,(by simp only[Tl,TG,N.wt];omega),fun l=>?_⟩
    obtain⟨C,L,rfl,rfl⟩:=cB l
    exact⟨C,fun s hs=>by rcases Uc.1 hs with hs|hs;exact Ts hs;rw[Tt.1 hs];exact Tk L,_,.MV L.jI⟩
   refine au 5<|jS rfl rfl (fun cg=>?_) (fun cg=>?_)
   ·refine au 6<|lD c rfl rfl<|DL.b rfl rfl (Y.seq rfl rfl) (fun S cE=>?_)
    refine au 1<|DL.gY (p:=S) (by cases S<;>rfl) rfl (fun h=>by subst h;exact Y.field F.pe rfl)<|DL.gY (p:=S) (by cases S<;>rfl) rfl (fun h=>by subst h;exact Y.hY F.mF rfl c rfl)<|DL.gY (p:=S) (by cases S<;>rfl) rfl (fun h=>by subst h;exact Y.mW Tryz.underlying27 rfl)<|DL.gB (p:=S) (by cases S<;>rfl) rfl (fun h=>by subst h;exact Y.eq rfl rfl) (fun cF cG=>?_)
    refine DL.b rfl rfl (Y.and (q:=cF) rfl oV rfl) (fun T cH=>?_)
    refine au 1<|DL.gY (p:=T) (by cases T<;>rfl) rfl (fun h=>by subst h;exact Y.field F.n0 rfl)<|DL.gY (p:=T) (by cases T<;>rfl) rfl (fun h=>by subst h;exact Y.hY F.pU rfl c rfl)<|DL.gY (p:=T) (by cases T<;>rfl) rfl (fun h=>by subst h;exact Y.mW Tryz.underlying28 rfl)<|DL.gB (p:=T) (by cases T<;>rfl) rfl (fun h=>by subst h;exact Y.gt rfl rfl) (fun cI cJ=>?_)
    refine DL.b rfl rfl (Y.and (q:=cI) rfl oV rfl) (fun es cK=>?_)
    refine cX (ix b _) fun _ et bF eu ⟨ev,b,cL⟩=>have d:=d.Ls bF.f Al;have f:=f.n6 bF.f (Tk (Ts B));have c:=bF.jK c Ac;au 1 ?_
    refine⟨_,⟨rfl,rfl,rfl,rfl⟩,d,c,b,f,fun l=>?_⟩
    obtain⟨C,D⟩:=cL l
    simp only[cK,cJ,cH,cG,cE,Tx,TA]at D
    exact⟨(R rfl).1,Ts ⟨cg,D.1.1,Tn Ac,Ac⟩⟩
   refine au 6<|lD c rfl rfl<|DL.b rfl rfl (Y.seq rfl rfl) (fun an cM=>?_)
   refine au 1<|DL.gY (p:=an) (by cases an<;>rfl) rfl (fun h=>by subst h;exact Y.field F.KZ rfl)<|DL.gY (p:=an) (by cases an<;>rfl) rfl (fun h=>by subst h;exact Y.hY F.oq rfl c rfl)<|DL.gB (p:=an) (by cases an<;>rfl) rfl (fun h=>by subst h;exact Y.seq rfl rfl) (fun cN cO=>?_)
   refine DL.b rfl rfl (Y.and (q:=cN) rfl oV rfl) (fun z cP=>?_)
   refine au 1<|DL.gY (p:=z) (by cases z<;>rfl) rfl (fun h=>by subst h;exact Y.field F.pe rfl)<|DL.gY (p:=z) (by cases z<;>rfl) rfl (fun h=>by subst h;exact Y.hY F.mF rfl c rfl)<|DL.gY (p:=z) (by cases z<;>rfl) rfl (fun h=>by subst h;exact Y.mW Tryz.underlying27 rfl)<|DL.gY (p:=z) (by cases z<;>rfl) rfl (fun h=>by subst h;exact Y.field F.n0 rfl)<|DL.gY (p:=z) (by cases z<;>rfl) rfl (fun h=>by subst h;exact Y.hY F.pU rfl c rfl)<|DL.gY (p:=z) (by cases z<;>rfl) rfl (fun h=>by subst h;exact Y.mW Tryz.underlying28 rfl)<|DL.gB (p:=z) (by cases z<;>rfl) rfl (fun h=>by subst h;exact Y.eq rfl rfl) (fun cQ cR=>?_)
   refine DL.b rfl rfl (Y.and (q:=cQ) rfl oV rfl) (fun U cS=>?_)
   refine au 1<|DL.gY (p:=U) (by cases U<;>rfl) rfl (fun h=>by subst h;exact Y.field F.n0 rfl)<|DL.gY (p:=U) (by cases U<;>rfl) rfl (fun h=>by subst h;exact Y.hY F.pU rfl c rfl)<|DL.gY (p:=U) (by cases U<;>rfl) rfl (fun h=>by subst h;exact Y.mW Tryz.underlying28 rfl)<|DL.gB (p:=U) (by cases U<;>rfl) rfl (fun h=>by subst h;exact Y.gt rfl rfl) (fun cT cU=>?_)
   refine DL.b rfl rfl (Y.and (q:=cT) rfl oV rfl) (fun ew cV=>?_)
   refine cX (ix b _) fun _ ex bG ey ⟨ez,b,cW⟩=>have d:=d.Ls bG.f Al;have f:=f.n6 bG.f (Tk (Ts B));have c:=bG.jK c Ac;au 1 ?_
   refine⟨_,⟨rfl,rfl,rfl,rfl⟩,d,c,b,f,fun l=>?_⟩
   obtain⟨C,D⟩:=cW l
   simp only[cV,cU,cS,cR,cP,cO,cM,Tx,TA]at D
   exact⟨(R rfl).1,Tk ⟨D.1.1.1,D.1.1.2,Ac,Ac⟩⟩
  clear d f c b
  rintro ab D e0 ⟨d,c,b,f,bH⟩
  have a3:=hC c;have bg:=d.size;have a2:=b.lt
  refine ac 6<|DC.jC (σ:=Nat×Bool×Value×List ByteArray) [(2,2),(9,11),(92,192)] [(5,Pt t),(0,Pt m),(3,.int .i64 ax)] (fun(i,_,ad,_)=>[(2,ad),(9,.int .i64 (i:Int))]) (fun cZ k=>Fr (m::hX o) E k∧(fun(i,K,ad,a5) k=>i≤ps.length∧k.heap[t]? =some (.cells #[.string J,.string P,.slice bc ks.length az,.slice a0 ps.length a1] 59 (0,0))∧Lk k m K∧MS k am [t] a5 ad∧(∀x∈hX ad,x∈hX o∨E.heap.size≤x)∧a5.length≤O.length+N.h9 (ks.take i)+N.h9 (ps.take i)∧(K=false→ab=false∧(∀s∈a5,s∈O∨ke s)∧∀(A:Nat)(h:A<ps.length),A<i→EB J ks ps A)) cZ k) (fun(i,_)=>ps.length - i) ((0,ab,o,O)) Au ?_ ?_ ?_ ?_
  ·exact⟨rfl,rfl,rfl⟩
  ·exact⟨rfl,rfl⟩
  ·exact⟨d,TE _,c,b,f,bd,by simp[N.h9],fun l=>⟨l,fun s hs=>Ts hs,fun A hj h=>Tu h Ac⟩⟩
  clear d c b f
  rintro D ⟨i,K,ad,a5⟩ A e1 ⟨d,e2,c,b,f,bi,e3,ch⟩
  have bg:=d.size
  have a3:=hC c
  have a2:=b.lt
  refine ac 5<|lD c rfl rfl<|au 1<|DL.b rfl rfl (Y.lt rfl rfl) (fun H ci=>?_)
  refine au 1 ?_
  obtain⟨e4,L,bI,_⟩:=id b
  refine DL.gY (p:=H) (by cases H<;>rfl) rfl (fun h=>by subst h;exact Y.sf (v:=Pt m) rfl)<|DL.gY (p:=H) (by cases H<;>rfl) rfl (fun h=>by subst h;exact Y.nil rfl)<|DL.gY (p:=H) (by cases H<;>rfl) rfl (fun h=>by subst h;exact Y.field F.EF rfl)<|DL.gY (p:=H) (by cases H<;>rfl) rfl (fun h=>by subst h;exact Y.hY F.LQ rfl bI rfl)<|DL.gB (p:=H) (by cases H<;>rfl) rfl (fun h=>by subst h;exact Y.not rfl) (fun da cj=>?_)
  refine DL.b rfl rfl (Y.and (q:=da) rfl oV rfl) (fun e5 ck=>?_)
  refine au 1<|DC.cond rfl (fun bJ=>?_) (fun bJ=>?_)
  ·obtain⟨hi,db⟩:i<ps.length∧K=false:=by simpa[ck,cj,ci]using bJ
   subst db
   obtain⟨C,ao,bj⟩:=ch rfl
   have cl:=(bH C).2
   have e6:=N.DF ks i;have e7:=N.mD ks (i+1);have e8:=N.j6 hi;have e9:=N.mD ps (i+1)
   have G:=bi
   refine ac 3<|DC.lG (σ:=Bool×Value×List ByteArray) (fun(bk,a6,a7)=>[(0,Pt m),(2,a6),(3,.int .i64 ax),(5,Pt t),(9,.int .i64 (i:Int))]) (fun(bk,a6,a7) k=>Fr (m::hX o) E k∧k.heap[t]? =some (.cells #[.string J,.string P,.slice bc ks.length az,.slice a0 ps.length a1] 59 (0,0))∧Lk k m bk∧MS k am [t] a7 a6∧(∀x∈hX a6,x∈hX o∨E.heap.size≤x)∧a7.length≤O.length+N.h9 (ks.take (i+1))+N.h9 (ps.take i)∧(bk=false→ab=false∧(∀s∈a7,s∈O∨ke s)∧Nh J ks i)) ?_ ?_
   ·refine ac 3<|lD c rfl rfl<|jS rfl rfl (fun ap=>?_) (fun ap=>?_)
    ·have eA:ks.length=ps.length:=cl.elim (fun h=>Tu (h.1▸ap) Ah) (fun h=>h.2.2.1)
     have W:i<ks.length:=by omega
     have eB:=N.j6 W
     have eC:=N.om ks[i]
     obtain⟨dc,dd,eD,de,df,dg,dh,M⟩:=ay.G9 (i:=i) W
     cases de
     generalize bK:ks[i]=di at M
     obtain⟨a8,Z,⟨a9,eE,dj,eF,eG,eH⟩,aA,aB,aC,aD⟩:=di
     obtain⟨aE,aF,aG,aH,aI,aJ,aK,aL,eI,aM,aN,aO,aP,aQ,rfl⟩:=M.hI
     have dk:=M.oM.H6
     subst dk
     have dl:=M.hV.2.1
     refine au 5<|lD c rfl rfl<|au 1<|iX F.iI (W) rfl rfl ((rfl:(i:Int)=(i:Int)))<|lA (cs:=#[.string a8,.string Z,.int .i64 a9,aM,aN,aO,aP,aQ,.slice aE aB.length aF,.slice aG aA.length aH,.slice aI aC.length aJ,.slice aK aD.length aL]) (dg.fr d (Q _ df)) dh rfl<|al F.z31 rfl fun bl eJ bm dm dn j=>sA (cs:=#[.string a8,.string Z,.int .i64 a9,aM,aN,aO,aP,aQ,.slice aE aB.length aF,.slice aG aA.length aH,.slice aI aC.length aJ,.slice aK aD.length aL]) j rfl rfl rfl M.hA M.one fun eK bn eL j=>have d:=(d.jP bm.f).oR bn.f Ac;have c:=bn.jK (bm.il c) Ac;have b:=(b.k9 bm.f).n6 bn.f Ac;have f:=((f.xn dm).k9 bm.f).n6 bn.f (Ts Al);au 4<|lD j rfl rfl<|jS rfl rfl (fun bL=>?_) (fun bL=>?_)
     ·refine au 2<|DC.lG (σ:=Bool) (fun bo=>[(0,Pt m),(2,ad),(3,.int .i64 ax),(5,Pt t),(9,.int .i64 (i:Int)),(10,Pt bl)]) (fun bo k=>Fr (m::hX o) E k∧k.heap[t]? =some (.cells #[.string J,.string P,.slice (some ⟨dc,dd,none⟩) ks.length az,.slice a0 ps.length a1] 59 (0,0))∧k.heap[bl]? =some (.cells #[.string a8,.string Z,.int .i64 a9,aM,aN,aO,aP,aQ,.slice aE aB.length aF,.slice aG aA.length aH,.slice aI aC.length aJ,.slice aK aD.length aL] 31 (0,0))∧Lk k m bo∧MS k am [bl,t] a5 ad∧(bo=false→ke Z)) ?_ ?_
      ·refine ac 3<|lD j rfl rfl<|cX (mM _ dl _) ?_
       rintro _ eM aR eN ⟨dp,rfl,dq⟩
       have d:=d.jP aR.f
       have c:=aR.il c
       have b:=b.k9 aR.f
       have f:=f.k9 aR.f
       have j:=aR.il j
       refine(Ua dp).elim (fun bM=>?_) (fun bM=>?_)
       ·subst bM
        refine au 3<|lD j rfl rfl<|cX (qi f Ac _) ?_
        rintro _ eO aS eP ⟨eQ,rfl,_,_⟩
        have b:=b.k9 aS.f
        refine DL.b rfl rfl (Y.not rfl) (fun eR eS=>?_)
        exact au 1<|cX (ix b _) fun _ eT bp eU ⟨dr,b,bN⟩=>have d:=(d.jP aS.f).Ls bp.f Al;have c:=bp.jK (aS.il c) Ac;have f:=(f.k9 aS.f).n6 bp.f (Tk (Ts B));have j:=bp.jK (aS.il j) Ac;au 1 ⟨_,⟨rfl,rfl,rfl,rfl,rfl,rfl⟩,d,c,j,b,f,fun l=>by obtain⟨aq,ae⟩:=bN l;exact dq rfl⟩
       subst bM
       exact au 7<|cX (ix b _) fun _ eV bq eW ⟨dr,b,bN⟩=>have d:=d.Ls bq.f Al;have c:=bq.jK c Ac;have f:=f.n6 bq.f (Tk (Ts B));have j:=bq.jK j Ac;au 1 ⟨_,⟨rfl,rfl,rfl,rfl,rfl,rfl⟩,d,c,j,b,f,fun l=>Tu (bN l).2 Ah⟩
      clear d c b f bI j
      rintro bo D eX ⟨d,c,j,b,f,cm⟩
      have a3:=hC c;have bg:=d.size;have a2:=b.lt
      have dn:=hC j
      refine ac 4<|lD j rfl rfl<|DL.iu rfl rfl (F.lT) rfl rfl rfl fun eY eZ ar fa fb ds=>have fc:=ar.size;have f:=f.k9 ar;DL.hJ (news:=#[.string Z]) rfl rfl F.lT rfl rfl f.own (hB.hE ds) rfl AQ Ac Ac Ac ?_
      intro dt fd aT bC a4
      have bE:=f.snoc Ac Aj bC a4
      have G:∀x∈hX dt,x∈hX o∨E.heap.size≤x:=fun x hx=>by rcases a4 with e|e;exact bi x (hF.2 (e▸hF.1 hx));have y:=hF.1 hx;rw[e]at y;cases y;exact Tk Ac
      have fe:=aT.size
      have c:=aT.hO (ar.il c) (f.nx Al)
      have j:=aT.hO (ar.il j) (f.nx Al)
      have b:=(b.k9 ar).fr aT (fun p=>by have:=(f.ob _ (hF.1 p)).1;omega)
      have f:=bE
      refine au 5<|sc j rfl rfl rfl rfl fun du br ff dv=>have d:=((d.jP ar).put aT (fun x hx=>(bi x hx).imp (Ux _) id)).oR br.f Ac;have j:du.heap[bl]? =some (.cells #[.string a8,Zs,.int .i64 a9,aM,aN,aO,aP,aQ,.slice aE aB.length aF,.slice aG aA.length aH,.slice aI aC.length aJ,.slice aK aD.length aL] 31 (0,0)):=dv;au 4<|lw j rfl rfl<|cX (mO _ _ _ ((M.fr d Q).RB)) ?_
      rintro _ fg bs fh ⟨fi,rfl,cn⟩
      have b:=(b.n6 br.f Ac).k9 bs.f
      refine cX (ix b _) fun _ fj bO fk ⟨fl,b,co⟩=>have d:=(d.jP bs.f).Ls bO.f Al;have c:=bO.jK (bs.il (br.jK c Ac)) Ac;have f:=((f.n6 br.f (Ts Al)).k9 bs.f).n6 bO.f (Tk (Ts B));au 3 ?_
      obtain⟨dw,dx,dy,bP,bQ,bR,bS,I⟩:=ay.Dz (i:=i) hi
      cases bP
      generalize af:ps[i]=bT at I
      obtain⟨aU,aV,cp,cq,ag,ah,cr⟩:=bT
      obtain⟨bt,bu,bv,bw,rfl⟩:=I.lH
      obtain⟨_,_,dz,d0⟩:=I.nw
      refine au 1<|lD c rfl rfl<|au 1<|iX F.pS (hi) rfl rfl ((rfl:(i:Int)=(i:Int)))<|lA (cs:=#[.string aU,.string aV,.slice bt ag.length bu,.slice bv ah.length bw]) (bR.fr d (Q _ bQ)) bS rfl<|al F.z59 rfl fun fm fn bx d1 fo av=>sA (cs:=#[.string aU,.string aV,.slice bt ag.length bu,.slice bv ah.length bw]) av rfl rfl rfl I.jc I.one fun fp bz fq av=>have d:=(d.jP bx.f).oR bz.f Ac;have c:=bz.jK (bx.il c) Ac;have f:=((f.xn d1).k9 bx.f).n6 bz.f (Ts Al);have b:=(b.k9 bx.f).n6 bz.f Ac;au 4<|lD av rfl rfl<|jS rfl rfl (fun cs=>?_) (fun cs=>?_)
      ·refine au 6<|lD av rfl rfl<|DL.b rfl rfl (Y.seq rfl rfl) (fun w d2=>?_)
       refine au 1<|DL.gY (p:=w) (by cases w<;>rfl) rfl (fun h=>by subst h;exact Y.field F.pe rfl)<|DL.gY (p:=w) (by cases w<;>rfl) rfl (fun h=>by subst h;exact Y.hY F.mF rfl av rfl)<|DL.gY (p:=w) (by cases w<;>rfl) rfl (fun h=>by subst h;exact Y.mW Tryz.underlying27 rfl)<|DL.gY (p:=w) (by cases w<;>rfl) rfl (fun h=>by subst h;exact Y.field F.n0 rfl)<|DL.gY (p:=w) (by cases w<;>rfl) rfl (fun h=>by subst h;exact Y.hY F.pU rfl av rfl)<|DL.gY (p:=w) (by cases w<;>rfl) rfl (fun h=>by subst h;exact Y.mW Tryz.underlying28 rfl)<|DL.gY (p:=w) (by cases w<;>rfl) rfl (fun h=>by subst h;exact Y.mm (c:=((ag.length+ah.length:Nat):Int)) rfl rfl Ac Ac Ac)<|DL.gB (p:=w) (by cases w<;>rfl) rfl (fun h=>by subst h;exact Y.eq rfl rfl) (fun d4 d5=>?_)
       refine DL.b rfl rfl (Y.and (q:=d4) rfl oV rfl) (fun fr d6=>?_)
       refine cX (ix b _) fun _ fs bU ft ⟨fu,b,d7⟩=>have d:=d.Ls bU.f Al;have c:=bU.jK c Ac;have f:=f.n6 bU.f (Tk (Ts B));au 2<|ac 2<|ai ((i+1:Nat):Int) rfl rfl<|au 2 ?_
       refine⟨(i+1,_,_,_),⟨d,hi,c,b,f.down Al,G,by have:=N.DF ps i;simp only[Tl,TG];rw[N.j6 W];omega,fun l=>?_⟩,BG,rfl,rfl⟩
       obtain⟨aq,ae⟩:=d7 l
       obtain⟨aj,y⟩:=co aq
       obtain⟨_,bV,aW,aX,aY,aZ⟩:=cn y
       simp only[d6,d5,d2,Tx,TA]at ae
       have L:=cm aj
       refine⟨C,fun s hs=>?_,fun A hj d8=>?_⟩
       ·rcases Uc.1 hs with hs|hs;exact ao s hs;rw[Tt.1 hs];exact Tk L
       by_cases h:A=i
       ·subst h
        have ba:=cd A hj
        rw[af]at ba
        obtain⟨aw,b0⟩:=ae
        have b1:ag=[]:=Tn Ac
        have d9:ah=[]:=Tn Ac
        refine⟨fun e=>Tu (ap▸e) Ah,fun _=>⟨W,hj,36::Z.data.toList,?_⟩⟩
        rw[bK,af,bV,aW,aX,aY,aZ,aw,b1,d9,bL,cs]
        cases ba
        exact .MR L.jI
       exact bj A hj Ac
      refine au 3 ?_
      refine⟨(_,_,_),⟨rfl,rfl,rfl,rfl,rfl⟩,d,c,b,f.down Al,G,by simp only[Tl,TG];rw[N.j6 W];omega,fun l=>?_⟩
      obtain⟨aj,y⟩:=co l
      obtain⟨_,bV,aW,aX,aY,aZ⟩:=cn y
      have L:=cm aj
      refine⟨C,fun s hs=>?_,Tk ⟨ap,W,Ts ⟨Z,L.jI,?_⟩⟩⟩
      ·rcases Uc.1 hs with hs|hs;exact ao s hs;rw[Tt.1 hs];exact Tk L
      rw[bK,bV,aW,aX,aY,aZ,bL]
     refine au 6<|lD j rfl rfl<|DL.b rfl rfl (Y.seq rfl rfl) (fun aa dA=>?_)
     refine au 1<|DL.gY (p:=aa) (by cases aa<;>rfl) rfl (fun h=>by subst h;exact Y.field F.zv rfl)<|DL.gY (p:=aa) (by cases aa<;>rfl) rfl (fun h=>by subst h;exact Y.field F.zF rfl)<|DL.gY (p:=aa) (by cases aa<;>rfl) rfl (fun h=>by subst h;exact Y.hY F.Mv rfl j rfl)<|DL.gB (p:=aa) (by cases aa<;>rfl) rfl (fun h=>by subst h;exact Y.eq rfl rfl) (fun dB dC=>?_)
     refine DL.b rfl rfl (Y.and (q:=dB) rfl oV rfl) (fun fv dD=>?_)
     refine cX (ix b _) fun _ fw b2 fx ⟨fy,b,dE⟩=>have d:=d.Ls b2.f Al;have j:=b2.jK j Ac;au 5<|lA (cs:=#[.int .i64 a9,aM,aN,aO,aP,aQ]) ((hB.hE j).sub 2 yU (TM rfl)) rfl rfl<|cX (uS b cb (cc.fr d ce) ((M.oM.fr d Q).zU (fun r h=>h)) Ah Ah) fun _ fz b3 f0 ⟨f1,b,dF⟩=>have j:=b3.jK j Ac;au 3<|bD #[Zi,Zi,Zs,Zl,Zl,Zl]<|au 1<|DL.mK (new:=#[.string a8,.string Z,Zi,Zi,Zs,Zl,Zl,Zl,.slice aE aB.length aF,.slice aG aA.length aH,.slice aI aC.length aJ,.slice aK aD.length aL]) rfl F.rC rfl rfl rfl Au j rfl rfl fun f2 bb f3 j=>have d:=(d.Ls b3.f Al).oR bb Ac;have f4:=bb.size;au 3<|lw j rfl rfl<|cX (mO _ _ _ ((M.fr d Q).Rb)) ?_
     rintro _ f5 b4 f6 ⟨f7,rfl,dG⟩
     have b:=(b.n6 bb Ac).k9 b4.f
     refine cX (ix b _) fun _ f8 bW f9 ⟨fA,b,dH⟩=>have d:=(d.jP b4.f).Ls bW.f Al;have c:=bW.jK (b4.il (bb.jK (b3.jK (b2.jK c Ac) Ac) Ac)) Ac;have f:=((((f.n6 b2.f (Tk (Ts B))).n6 b3.f (Tk (Ts B))).n6 bb (Ts Al)).k9 b4.f).n6 bW.f (Tk (Ts B));au 1 ?_
     refine⟨(_,_,_),⟨rfl,rfl,rfl,rfl,rfl⟩,d,c,b,f.down Al,G,Ac,fun l=>?_⟩
     obtain⟨aq,ae⟩:=dH l
     obtain⟨dI,_,aW,aX,aY,aZ⟩:=dG ae
     obtain⟨aj,y⟩:=dF aq
     obtain⟨fB,aw⟩:=dE aj
     simp only[dD,dC,dA,Tx,TA]at aw
     obtain⟨b0,b1⟩:=aw
     refine⟨C,ao,Tk ⟨ap,W,Tk ?_⟩⟩
     rw[b1]at y
     obtain⟨dJ,dK,dL,dM,dN⟩:=y.Ml
     exact⟨dj,dN,by rw[bK,aW,aX,aY,aZ,dI,b0,b1,dJ,dK,dL,dM]⟩
    exact au 3 ⟨(false,_,_),⟨rfl,rfl,rfl,rfl,rfl⟩,d,c,b,f,G,Ac,fun _=>⟨C,ao,Ts (cl.elim (fun h=>h.1) (fun h=>Tu h.1 ap))⟩⟩
   clear d c b f bI
   rintro⟨bk,a6,a7⟩ D fC ⟨d,c,b,f,G,fD,dO⟩
   have a3:=hC c;have bg:=d.size;have a2:=b.lt
   refine ac 2 ?_
   obtain⟨dw,dx,dy,bP,bQ,bR,bS,I⟩:=ay.Dz (i:=i) hi
   cases bP
   generalize af:ps[i]=bT at I
   obtain⟨aU,aV,cp,cq,ag,ah,cr⟩:=bT
   obtain⟨bt,bu,bv,bw,rfl⟩:=I.lH
   obtain⟨_,_,dz,d0⟩:=I.nw
   refine au 1<|lD c rfl rfl<|au 1<|iX F.pS (hi) rfl rfl ((rfl:(i:Int)=(i:Int)))<|lA (cs:=#[.string aU,.string aV,.slice bt ag.length bu,.slice bv ah.length bw]) (bR.fr d (Q _ bQ)) bS rfl<|au 2<|ai (ax+1) rfl rfl ?_
   have ba:=cd i hi
   rw[af]at ba
   have fE:N.wt ps[i]=(N.mk aU aV cp cq ag ah cr).wt:=by rw[af]
   refine cX (cv _ _ _ _ _ m am _ _ (by have:=N.jo hi;rw[af]at this;simp only[N.nodes]at p this⊢;omega) (I.fr d Q) b cb (cc.fr d ce) B Ac f.own Ac Ac (by have:=(R rfl).2;omega) ba) fun fF fG ct fH ⟨fI,fJ,b,bY,cu,fK,dP⟩=>have d:=d.put ct.f (fun x hx=>by rcases Tr.1 hx with rfl|hx;exact Ts (List.mem_cons_self ..);exact(G x hx).imp (Ux _) id);have c:=ct.hO c (fun p=>by rcases Tr.1 p with e|p;omega;exact f.nx Al p);au 4<|ai ((i+1:Nat):Int) rfl rfl<|au 2 ?_
   refine⟨(i+1,_,_,_),⟨d,hi,c,b,MS.down (X:=[t]) ⟨bY,fun r hc=>⟨(ik bY r (hF.2 hc)).1,(ik bY r (hF.2 hc)).2,fun p=>?_⟩⟩ Al,fun x hx=>(cu x hx).elim (G x) (fun h=>Tk Ac),by rw[N.j6 hi];omega,fun l=>?_⟩,BG,rfl,rfl⟩
   ·rcases cu r (hF.2 hc)with h|h;exact f.nx (by simpa using p) h;have:=Tt.1 p;omega
   obtain⟨aq,ae,y⟩:=dP l
   obtain⟨aj,aw,b0⟩:=dO aq
   refine⟨aj,fun s hs=>(ae s hs).elim (aw s) Tk,fun A hj d8=>?_⟩
   by_cases h:A=i
   ·subst h;exact EB.MZ b0 hj (by rw[af];exact y)
   exact bj A hj Ac
  refine ac 1<|ac 6<|rX d ⟨_,_,b,f.own,bi,(by have:=N.mD ks i;have:=N.mD ps i;simp only[N.wt];omega),fun l=>?_⟩
  subst l
  have dQ:i=ps.length:=by simp[ck,cj,ci]at bJ;omega
  subst dQ
  obtain⟨C,ao,bj⟩:=ch rfl
  exact⟨(bH C).1,ao,K2 (bH C).2 (fun A hj=>bj A hj hj)⟩
 subst R
 exact au 9<|rX d ⟨_,O,b,f.own,bd,Ac,fun h=>Tu h Ah⟩
theorem q8:∀b,OC b
 |0=>fun c d f g j k l m o p=>by have:=N.kh c;omega
 |b+1=>uY b (q8 b)
theorem hT.ax{a:Option Addr}{n:Nat}(h:hT w (AX D w) a n m cE)(d:Fr R w W)(hs:∀b∈R,D b∨w.heap.size≤b):hT W (AX D W) a n m cE:=
 (h.fr d (fun b c f=>by rcases hs b f with hx|hx;exact c.2 hx;have:=c.1;omega)).mono (fun b c=>⟨Tj c.1 d.size,c.2⟩)
theorem hT.x0{a:Option Addr}{n:Nat}(h:hT w (AX D w) a n m cE)(b:Fr [] w W):hT W (AX D W) a n m cE:=h.ax b (fun d c=>by cases c)
theorem hT.x1{a:Option Addr}{n:Nat}(h:hT w (AX D w) a n m cE)(b:Fr [k] w W)(c:D k):hT W (AX D W) a n m cE:=h.ax b (fun f d=>by rcases Tt.1 d with rfl;exact Ts c)
theorem hT.new{a:Option Addr}{n:Nat}(h:hT w (fun c=>AX D W c∨(W.heap.size≤c∧c<w.heap.size)) a n m cE)(d:∀b,D b→b<W.heap.size)(hw:W.heap.size≤w.heap.size):hT w (AX D w) a n m cE:=
 h.mono (fun b hc=>Or.elim hc (fun hc=>⟨Tj hc.1 hw,hc.2⟩) (fun hc=>⟨hc.2,fun hx=>by have:=d b hx;omega⟩))
theorem Fu(l:RN w (fun d=>d<m) 1 q c)(k:Lk w m bA)(o:2≤m)(p:ij w)(hw:q.wt≤67108864)(h0:0≤j)(h1:j≤1000)(r:Can 1 q):
  Calls Tryz.prog 59 #[Pt m,.agg c,Zl,.int .i64 j] w (hH w [m] fun t f=>∃g b a d,t=.slice a (List.length b) d∧Lk f m g∧hT f (fun x=>w.heap.size≤x∧x<f.heap.size) a b.length 1 (strCells b)∧b.length≤q.wt∧(g=false→bA=false∧(∀s∈b,ke s)∧∃u,Gd 1 q u)):=by
 have h:=q8 q.nodes q c Zl [] w m w.heap.size bA j (Tv _) l k o p k.lt (Tv _) (World.ownsRow_nil _ _ _ _) (by simpa using hw) h0 h1 r
 have e:m::hX Zl=[m]:=by simp[hX,Value.ownBlock]
 rw[e]at h
 refine hH.imp' (fun H f I v=>?_) h
 obtain⟨g,b,y,z,J,A,B⟩:=v
 obtain⟨a,d,rfl,C,K⟩:=ni rfl z
 exact⟨g,b,a,d,rfl,y,C,by simpa using A,fun D=>by obtain⟨E,F,G⟩:=B D;exact⟨E,fun s hs=>(F s hs).elim (fun h=>by cases h) id,G⟩⟩
theorem tP{ps:List N}(ad:hT w (fun d=>d<m) b ps.length 4 cE)(ae:∀(i:Nat)(h:i<ps.length),RN w (fun d=>d<m) 1 ps[i] (cE i))(af:∀(i:Nat)(h:i<ps.length),Can 1 ps[i])(o:Lk w m bA)(ag:2≤m)(ah:ij w)(aj:∀d,D d→d<w.heap.size)(C:D m)(ak:me w (AX D w) k bA c)(W:k+N.h9 ps≤67108864)(aI:ps.length≤140737488351232)(h0:0≤j)(h1:j≤1000):
  Calls Tryz.prog 31 #[Pt m,.slice b ps.length nA,.agg c,.int .i64 j] w (hH w [m] fun am P=>∃Q X,am=.agg X∧Lk P m Q∧me P (AX D P) (k+N.h9 ps) Q X∧(Q=false→bA=false∧∀(i:Nat)(h:i<ps.length),∃R,Gd 1 ps[i] R)):=by
 have an:=o.lt
 have ao:∀d,d<2→d∉[m]:=A7
 obtain⟨ap,E,G,aq,H,I,ar,J,K,rfl,S,av,aw,⟨ax,ay,az⟩,⟨a0,aJ,aK⟩,Z⟩:=ak
 have a1:∀d,AX D w d→d∉[m]:=fun d hc W=>by rcases Tt.1 W with rfl;exact hc.2 C
 have aa:∀d,d<m→d∉[m]:=A7
 refine cY Tryz.func31 fun f=>ac 2<|bX rfl fun L aL aM aN a2 g=>al F.Ob rfl fun M aO aP aQ a3 p=>au 7 ?_
 have S:=(S.fr f.g a1).mono (AX.up (l:=[M,L]) f.g Aj)
 refine lE [m] w (σ:=Nat×Bool×List ByteArray×Option Addr×Nat) [(9,35)] [(6,Pt L),(8,Pt M),(0,Pt m),(1,.slice b ps.length nA),(3,.int .i64 j)] (fun(i,_)=>[(9,.int .i64 (i:Int))]) (fun(i,T,q,a,d) y=>i≤ps.length∧y.heap[L]? =some (.cells #[.slice a q.length d,.slice H E.length J,.slice I G.length K] 45 (0,0))∧y.heap[M]? =some (.cells #[Zl,Zl,Zl] 45 (0,0))∧Lk y m T∧hT y (AX (XB D [M,L]) y) a q.length 1 (strCells q)∧q.length≤d∧q.length≤k+N.h9 (ps.take i)∧(T=false→bA=false∧(∀s∈q,ke s)∧∀(r:Nat)(h:r<ps.length),r<i→∃R,Gd 1 ps[r] R)) (fun(i,_)=>ps.length - i) ((0,bA,ap,aq,ar)) ?_ ?_
 ·exact⟨f.g,TE _,(Gb g),p,o.g,S,ax,by simpa[N.h9]using a0,fun t=>⟨t,(Z t).1,fun r hj h=>Tu h Ac⟩⟩
 clear f o g p
 rintro z ⟨i,T,q,a,d⟩ r aR ⟨f,aS,g,p,o,u,ab,aT,U⟩
 have aU:=f.size
 have a2:=hC g
 have a3:=hC p
 have an:=o.lt
 refine ac 6<|jX rfl rfl (fun a4=>?_) (fun a4=>?_)
 ·have hi:i<ps.length:=by omega
  obtain⟨aV,aW,a5,a6,a7,a8⟩:=ad i hi
  subst a5
  have aX:=N.j6 hi;have aY:=N.mD ps (i+1)
  refine au 10<|iX F.pS (hi) rfl rfl ((rfl:(i:Int)=(i:Int)))<|lA (a7.fr f (aa _ a6)) a8 rfl<|au 1<|cX (Fu ((ae i hi).fr f aa) o ag (ah.fr f ao) Ac h0 h1 (af i hi)) ?_
  rintro _ aZ a9 ba ⟨bb,bc,bd,be,rfl,o,aA,bf,aB⟩
  have u:=u.x1 a9.f (Ts C)
  refine au 4<|lD (Gb g) rfl rfl<|au 1<|lD (Gb g) rfl rfl<|au 2<|lD (Gb g) rfl rfl<|au 1<|DL.y rfl rfl (Y.slice3 F.ku rfl rfl rfl ab)<|au 1<|DL.ot rfl rfl F.lT rfl rfl u aA Ac fun bg bh bi v A aC=>have A:=A.new (XB.lt aj f.g Aj) v.size;have f:=f.g.jP v;have bj:=v.size;have g:=v.il (Gb g);have p:=v.il (Gb p);have o:=o.k9 v;au 1<|sc g rfl rfl rfl rfl fun bk aD bl g=>have A:=A.x1 aD.f (Tk Al);au 3<|ai ((i+1:Nat):Int) rfl rfl<|au 2 ?_
  refine⟨(i+1,_,_,_,_),⟨f.g,hi,g,(Gb p),o.g,A,aC,by rw[Tl,N.j6 hi];omega,fun t=>?_⟩,BG,rfl⟩
  obtain⟨B,z,O⟩:=aB t
  obtain⟨aE,aF,aG⟩:=U B
  refine⟨aE,fun s hs=>(Uc.1 hs).elim (aF s) (z s),fun r hj bm=>?_⟩
  by_cases h:r=i
  ·subst h;exact O
  exact aG r hj Ac
 refine au 3<|ac 2<|lw g rfl rfl<|sA (cs:=#[.slice a q.length d,.slice H E.length J,.slice I G.length K]) p rfl rfl rfl rfl AQ fun bn aH bo p=>have u:=u.x1 aH.f (Tk Al);au 2<|hD.hZ (cs:=#[.slice a q.length d,.slice H E.length J,.slice I G.length K]) rfl F.sD (hB.hE p) (hH.mk f.g ⟨_,_,rfl,o.g,⟨q,E,G,a,H,I,d,J,K,rfl,?_,?_,?_,⟨ab,ay,az⟩,⟨?_,Ac,Ac⟩,fun t=>?_⟩,fun t=>?_⟩)
 ·exact u.mono (fun d h=>⟨h.1,fun hx=>h.2 (Ts hx)⟩)
 ·exact(av.ax f.g (fun x hx=>by rcases Tt.1 hx with rfl;exact Ts C))
 ·exact(aw.ax f.g (fun x hx=>by rcases Tt.1 hx with rfl;exact Ts C))
 ·have:=N.mD ps i;omega
 ·obtain⟨B,z,O⟩:=U t;exact⟨z,(Z B).2⟩
 obtain⟨B,z,O⟩:=U t;exact⟨B,fun r hj=>O r hj Ac⟩
def N0(m:Nat):Prop:=∀(q:N)(cs ncs:Array Value)(w:World)(X:Nat→Prop)(b k:Nat)(bad:Bool)(d:Int),q.nodes≤m→RN w (fun c=>c<b) 0 q cs→Can 0 q→Lk w b bad→2≤b→ij w→(∀c,X c→c<w.heap.size)→X b→me w (AX X w) k bad ncs→k+4*q.wt≤67108864→0≤d→d≤1000→
 Calls Tryz.prog 11 #[Pt b,.agg cs,.agg ncs,.int .i64 d] w (hH w [b] fun _ w'=>∃bad',Lk w' b bad'∧(bad'=false→bad=false∧∃t,Gd 0 q t))
theorem Pn:∀n,n<5→(⟨#[48,49,50,51,52]⟩:ByteArray).data.toList[n]? =some (UInt8.ofNat (48+n))
 |0,_=>rfl
 |1,_=>rfl
 |2,_=>rfl
 |3,_=>rfl
 |4,_=>rfl
 |n+5,h=>by omega
theorem s5.mk{s b:ByteArray}{d:UInt8}(h:ke b)(e:s.data.toList=b.data.toList++[47,d]):s5 s:=⟨b,d,h,e⟩
theorem mY(a b:ByteArray):(a++b).data.toList=a.data.toList++b.data.toList:=by rw[Un,Array.toList_append]
theorem x4{s:ByteArray}{b:UInt8}(h:s.data.toList[0]? =some b):s.data.toList=b::(s.extract 1 s.size).data.toList:=by
 obtain⟨h0,c⟩:=UK.1 h
 have e:(s.extract 1 s.size).data.toList=s.data.toList.drop 1:=by
  rw[UI,UQ,UL,TK]
  rw[Vt,←hK];omega
 rw[e,←c]
 have:=T6 (l:=s.data.toList) (i:=0) h0
 simpa using this
theorem EU(s:ByteArray):∃b,0<s.size→s.data.toList[0]? =some b:=by
 by_cases h:0<s.size
 ·have h0:0<s.data.toList.length:=by rw[←hK];exact h
  exact⟨s.data.toList[0],fun _=>TP h0⟩
 exact⟨0,fun c=>Tu c h⟩
section
variable{S:List Nat}{w w':World}{X:Nat→Prop}{l:List Nat}{a:Option Addr}{n sz d:Nat}{cl:Nat→Array Value}{sl sl':Value}
theorem hT.Pg(h:hT w (AX (XB X l) w) a n sz cl)(b:sl.ownBlock=none):hT w (AX (XB (XO X sl) l) w) a n sz cl:=
 h.mono (fun c hc=>⟨hc.1,fun hx=>hx.elim (fun hx=>hx.elim (fun h=>hc.2 (Ts h)) (fun h=>by rw[b]at h;cases h)) (fun h=>hc.2 (Tk h))⟩)
theorem hT.JQ(h:hT w (AX (XB (XO X sl) l) w) a n sz cl):hT w (AX (XB X l) w) a n sz cl:=h.mono (fun b hc=>⟨hc.1,fun hx=>hc.2 (hx.elim (fun h=>Ts (Ts h)) Tk)⟩)
theorem hT.KI(h:hT w (AX (XB (XO X sl) l) w) a n sz cl)(b:Fr (hX sl) w w')(c:sl'.ownBlock=sl.ownBlock∨sl'.ownBlock=some w.heap.size):hT w' (AX (XB (XO X sl') l) w') a n sz cl:=
 (h.fr b (fun f hc g=>hc.2 (Ts (Tk (hF.1 g))))).mono (fun f hc=>⟨Tj hc.1 b.size,fun hx=>hx.elim (fun hx=>hx.elim (fun h=>hc.2 (Ts (Ts h))) (fun h=>by
  rcases c with e|e
  ·exact hc.2 (Ts (Tk (e▸h)))
  ·rw[e]at h;cases h;have:=hc.1;omega)) (fun h=>hc.2 (Tk h))⟩)
theorem hT.QH(h:hT w (AX (XB X l) w) a n sz cl){b:Nat}(c:w.heap.size≤b):hT w (AX (XB X (b::l)) w) a n sz cl:=
 h.mono (fun f hc=>⟨hc.1,fun hx=>hx.elim (fun h=>hc.2 (Ts h)) (fun h=>by rcases Tr.1 h with rfl|h;have:=hc.1;omega;exact hc.2 (Tk h))⟩)
theorem hT.R6{b:List Nat}(h:hT w (AX (XB X l) w) a n sz cl)(hl:∀x∈b,x∈l):hT w (AX (XB X b) w) a n sz cl:=h.mono (fun c hc=>⟨hc.1,fun hx=>hc.2 (hx.imp id (hl c))⟩)
theorem XO.Qg{f c:Nat}{g:List Nat}{j:List ByteArray}(k:MS w f g j sl)(m:∀b,X b→b<c)(o:c≤w.heap.size):∀b,XO X sl b→b<w.heap.size:=fun b hc=>hc.elim (fun h=>Tj (m b h) o) (fun h=>(k.ob b h).2.1)
end
theorem RN.Om{w:World}{D:Nat→Prop}{d:N}{c:Array Value}(h:RN w D 2 d c)(z:Can 2 d):∃text names b f A g j k m o p q r t u v y,d=.mk ⟨#[]⟩ text V0 names [b] [] []∧c=#[.string text,.slice f names.length A,g,j,k,m,o,p,q,r,t,u,v,y]∧hT w D f names.length 1 (strCells names)∧RN w D 0 b #[g,j,k,m,o,p,q,r,t,u,v,y]∧text.size≤140737488351232∧names.length≤140737488351232∧(∀s∈names,s.size≤140737488351232)∧Can 0 b:=by
 cases h with
 |d ht B C E F=>
  cases z with
  |d hc=>exact⟨_,_,_,_,_,_,_,_,_,_,_,_,_,_,_,_,_,rfl,rfl,E,F,ht,B,C,hc⟩
theorem Fl(ce:N0 m)(cf:hT w (fun A=>A<k) b Q.length 14 cE)(cg:∀(i:Nat)(h:i<Q.length),RN w (fun A=>A<k) 2 Q[i] (cE i))(ch:∀(i:Nat)(h:i<Q.length),Can 2 Q[i])(dz:N.iy Q≤m)(g:Lk w k bA)(ci:2≤k)(cj:ij w)(aV:∀A,D A→A<w.heap.size)(Z:D k)(ck:me w (AX D w) nB bA c)(aW:nB+4*N.h9 Q≤67108864)(d0:Q.length≤140737488351232)(h0:0≤j)(h1:j≤999):
  Calls Tryz.prog 32 #[Pt k,.slice b Q.length nA,.agg c,.int .i64 j] w (hH w [k] fun cl bs=>∃bt bI,cl=.agg bI∧Lk bs k bt∧me bs (AX D bs) (nB+N.h9 Q) bt bI∧(bt=false→bA=false∧∀(i:Nat)(h:i<Q.length),∃E,Gd 2 Q[i] E)):=by
 have aL:=g.lt;have bJ:=g.lt
 have cm:∀A,A<2→A∉[k]:=A7
 obtain⟨U,cn,P,aa,co,R,ab,cp,S,rfl,bu,cq,bv,⟨bw,cr,bx⟩,⟨d1,ct,d2⟩,aM⟩:=ck
 have bz:∀A,AX D w A→A∉[k]:=fun A hc aW=>by rcases Tt.1 aW with rfl;exact hc.2 Z
 have b0:∀A,A<k→A∉[k]:=A7
 refine cY Tryz.func32 fun f=>ac 2<|bX rfl fun B d4 d5 d6 aN o=>al F.Ob rfl fun G d7 d8 d9 aO r=>au 7 ?_
 have cu:=(cq.fr f.g bz).mono (AX.up (l:=[G,B]) f.g Aj)
 refine DC.jC (σ:=Nat×Bool×List ByteArray×Option Addr×Nat) [(9,139)] [(6,Pt B),(8,Pt G),(0,Pt k),(1,.slice b Q.length nA),(3,.int .i64 j)] (fun(i,_)=>[(9,.int .i64 (i:Int))]) (fun cv d=>Fr [k] w d∧(fun(i,aX,y,a,A) d=>i≤Q.length∧d.heap[B]? =some (.cells #[.slice aa U.length ab,.slice a y.length A,.slice R P.length S] 45 (0,0))∧d.heap[G]? =some (.cells #[Zl,Zl,Zl] 45 (0,0))∧Lk d k aX∧hT d (AX (XB D [G,B]) d) a y.length 1 (strCells y)∧y.length≤A∧y.length≤nB+N.h9 (Q.take i)∧(aX=false→bA=false∧(∀s∈y,s5 s)∧∀(O:Nat)(h:O<Q.length),O<i→∃E,Gd 2 Q[O] E)) cv d) (fun(i,_)=>Q.length - i) ((0,bA,cn,co,cp)) Au ?_ ?_ ?_ ?_
 ·exact⟨rfl,rfl,rfl,rfl,rfl⟩
 ·exact rfl
 ·exact⟨f.g,TE _,(Gb o),r,g.g,cu,cr,by simpa[N.h9]using ct,fun L=>⟨L,(aM L).2.1,fun O hj h=>Tu h Ac⟩⟩
 clear f g o r
 rintro ar ⟨i,aX,y,a,A⟩ O dA ⟨f,dB,o,r,g,W,b1,dC,b2⟩
 have b3:=f.size
 have aN:=hC o
 have aO:=hC r
 have aL:=g.lt
 refine ac 6<|DL.b rfl rfl (Y.lt rfl rfl) (fun ao bK=>?_)
 refine au 1 ?_
 obtain⟨cw,cx,aY,_⟩:=id g
 refine DL.gY (p:=ao) (by cases ao<;>rfl) rfl (fun h=>by subst h;exact Y.sf (v:=Pt k) rfl)<|DL.gY (p:=ao) (by cases ao<;>rfl) rfl (fun h=>by subst h;exact Y.nil rfl)<|DL.gY (p:=ao) (by cases ao<;>rfl) rfl (fun h=>by subst h;exact Y.field F.EF rfl)<|DL.gY (p:=ao) (by cases ao<;>rfl) rfl (fun h=>by subst h;exact Y.hY F.LQ rfl aY rfl)<|DL.gB (p:=ao) (by cases ao<;>rfl) rfl (fun h=>by subst h;exact Y.not rfl) (fun cy bL=>?_)
 refine DL.b rfl rfl (Y.and (q:=cy) rfl oV rfl) (fun dD bM=>?_)
 refine au 1<|DC.cond rfl (fun b4=>?_) (fun b4=>?_)
 ·obtain⟨hi,cz⟩:i<Q.length∧aX=false:=by simpa[bM,bL,bK]using b4
  subst cz
  obtain⟨b5,bN,c0⟩:=b2 rfl
  obtain⟨aZ,ba,c1,c2,bO,dE⟩:=cf i hi
  subst c1
  have c3:=cg i hi
  have dF:=N.j6 hi;have dG:=N.mD Q (i+1)
  obtain⟨H,p,bP,bb,aC,ay,az,a0,a1,a2,a3,a4,a5,a6,a7,a8,a9,b6,c4,c5,bQ,c6,dH,c7,c8⟩:=c3.Om (ch i hi)
  rw[c4]at bO
  have c9:Q[i].wt=(N.mk ⟨#[]⟩ H V0 p [bP] [] []).wt:=by rw[b6]
  simp only[N.wt,N.h9]at c9
  have dI:=jY p
  refine ac 7<|iX F.s9 (hi) rfl rfl ((rfl:(i:Int)=(i:Int)))<|lA (cs:=#[.string H,.slice bb p.length aC,ay,az,a0,a1,a2,a3,a4,a5,a6,a7,a8,a9]) (bO.fr f (b0 _ c2)) rfl rfl<|al F.NT rfl fun K dJ cA cB bc t=>have bR:=bQ.one;sA (cs:=#[.string H,.slice bb p.length aC,ay,az,a0,a1,a2,a3,a4,a5,a6,a7,a8,a9]) t rfl rfl rfl rfl (by simp only[Vp,Vw,VW,VG,Value.oneCell',VH]at bR⊢;exact bR) fun dK cC dL t=>au 5<|lD t rfl rfl<|cX (mM _ c6 _) ?_
  rintro _ dM cD dN ⟨q35,rfl,cF⟩
  refine au 1<|DL.gY (p:=q35) Ce rfl (fun h=>by subst h;exact Y.field F.vN rfl)<|DL.gY (p:=q35) Ce rfl (fun h=>by subst h;exact Y.hY F.yb rfl (Gb t) rfl)<|DL.gY (p:=q35) Ce rfl (fun h=>by subst h;exact Y.mW Tryz.underlying24 rfl)<|DL.gB (p:=q35) Ce rfl (fun h=>by subst h;exact Y.le rfl rfl) (fun cG cH=>?_)
  refine DL.b rfl rfl (Y.and (q:=cG) rfl oV rfl) (fun dO cI=>?_)
  refine cX (ix g.g _) fun _ dP cJ dQ ⟨b7,g,cK⟩=>have W:=((((W.QH cB).x0 cA.f).x1 cC.f (Tk Al)).x0 cD.f).x1 cJ.f (Ts Z);au 4 ?_
  obtain⟨cw,cx,aY,_⟩:=id g
  refine au 3<|lD aY rfl rfl<|au 1<|DC.cond rfl (fun bd=>?_) (fun bd=>?_)
  ·refine ac 2<|lw (Gb o) rfl rfl<|sA (cs:=#[.slice aa U.length ab,.slice a y.length A,.slice R P.length S]) (Gb r) rfl rfl rfl rfl AQ fun dS cL dT r=>have W:=W.x1 cL.f (Tk Al);au 2<|hD.hZ (cs:=#[.slice aa U.length ab,.slice a y.length A,.slice R P.length S]) rfl F.sD (hB.hE r) (hH.mk f.g ⟨_,_,rfl,g.g,⟨U,y,P,aa,a,R,ab,A,S,rfl,?_,?_,?_,⟨bw,b1,bx⟩,⟨Ac,by have:=N.mD Q i;omega,Ac⟩,fun L=>Tu (bd.symm.trans L) Ah⟩,fun L=>Tu (bd.symm.trans L) Ah⟩)
   ·exact(bu.ax f.g (fun x hx=>by rcases Tt.1 hx with rfl;exact Ts Z))
   ·exact W.mono (fun A h=>⟨h.1,fun hx=>h.2 (Ts hx)⟩)
   exact(bv.ax f.g (fun x hx=>by rcases Tt.1 hx with rfl;exact Ts Z))
  obtain⟨dU,bS⟩:=cK bd
  simp only[cI,cH,Tx,TA]at bS
  have b8:=cF bS.1
  refine ac 1<|DC.lG (σ:=Option Addr×Nat) (fun(ae,aj)=>[(0,Pt k),(1,.slice (some ⟨aZ,ba,none⟩) Q.length nA),(3,.int .i64 j),(6,Pt B),(8,Pt G),(9,.int .i64 (i:Int)),(10,Pt K)]) (fun(ae,aj) d=>Fr [k] w d∧d.heap[B]? =some (.cells #[.slice aa U.length ab,.slice ae (y++[H++CO++⟨#[UInt8.ofNat (48+p.length)]⟩]).length aj,.slice R P.length S] 45 (0,0))∧d.heap[G]? =some (.cells #[Zl,Zl,Zl] 45 (0,0))∧d.heap[K]? =some (.cells #[.string H,.slice bb p.length aC,ay,az,a0,a1,a2,a3,a4,a5,a6,a7,a8,a9] 61 (0,0))∧Lk d k b7∧hT d (AX (XB D [K,G,B]) d) ae (y++[H++CO++⟨#[UInt8.ofNat (48+p.length)]⟩]).length 1 (strCells (y++[H++CO++⟨#[UInt8.ofNat (48+p.length)]⟩]))∧(y++[H++CO++⟨#[UInt8.ofNat (48+p.length)]⟩]).length≤aj) ?_ ?_
  ·refine dR [] 21 fun dV bT dW be=>have dX:=bT.size;aG [0]<|gL 1 (Gb o) rfl rfl rfl<|aG [2]<|gL 3 (Gb o) rfl rfl rfl<|aG [4,5]<|gL 6 (Gb o) rfl rfl rfl<|aG [7]<|gf 8 rfl (fun bf=>Y.slice3 F.ku rfl rfl rfl b1)<|aG [9]<|gL 10 (Gb t) rfl rfl rfl<|gf 11 rfl (fun bf=>Y.cat rfl rfl BT)<|aG [12]<|gL 13 (Gb t) rfl rfl rfl<|aG [14]<|gf 15 rfl (fun bf=>Y.ma (i:=p.length) Tryz.underlying9 rfl rfl rfl (Pn _ Ac))<|gf 16 rfl (fun bf=>Y.D6 F.Np Tryz.underlying9 rfl (Lq p.length Ac))<|gf 17 rfl (fun bf=>Y.cat rfl rfl (by rw[ByteArray.size_append,show(CO:ByteArray).size=1 from rfl,show(⟨#[UInt8.ofNat (48+p.length)]⟩:ByteArray).size=1 from rfl];omega))<|gp 18<|DL.iu rfl rfl (F.lT) rfl rfl rfl fun dY dZ bg ea eb cM=>have bg:=Sp.mk bg;have ec:=bg.size;have W:=(W.x0 bT.f).x0 bg.f;gn be.g<|gp 19<|DL.ot rfl rfl F.lT rfl rfl W (ja (l:=[H++CO++⟨#[UInt8.ofNat (48+p.length)]⟩]) cM) Bm ?_
   intro ae aj ed aA af aP
   have af:=af.new (XB.lt aV f.g Aj) aA.size
   have f:=f.g.jP aA
   have be:=be.g.jP aA
   have o:=aA.il (Gb o)
   have r:=aA.il (Gb r)
   have t:=aA.il (Gb t)
   have g:=g.g.k9 aA
   have W:=af
   clear af
   exact gn be<|aG [20]<|gp 21<|sc o rfl rfl rfl rfl fun cN cO ee cP=>have W:=W.x1 cO.f (Tk Al);have o:cN.heap[B]? =some (.cells #[.slice aa U.length ab,.slice ae (y++[H++CO++⟨#[UInt8.ofNat (48+p.length)]⟩]).length aj,.slice R P.length S] 45 (0,0)):=cP;gl<|gD ⟨(_,_),⟨rfl,rfl,rfl,rfl,rfl,rfl,rfl⟩,f.g,o,(Gb r),(Gb t),g.g,W,aP⟩
  clear f o r W t g aY
  rintro⟨ae,aj⟩ ar ef ⟨f,o,r,t,g,C,bU⟩
  have b3:=f.size;have aL:=g.lt;have aN:=hC o;have aO:=hC r;have bc:=hC t
  refine ac 2<|lw o rfl rfl<|al F.Ob rfl fun M eg cQ cR b9 u=>sA (cs:=#[.slice aa U.length ab,.slice ae (y++[H++CO++⟨#[UInt8.ofNat (48+p.length)]⟩]).length aj,.slice R P.length S]) u rfl rfl rfl rfl AQ fun eh cS ei u=>have C:=((C.QH cR).x0 cQ.f).x1 cS.f (Tk Al);au 11 ?_
  have cT:=(bu.fr f.g bz).mono (AX.up (l:=[M,K,G,B]) f.g Aj)
  refine lE [k] w (σ:=Nat×Bool×List ByteArray×Option Addr×Nat×List ByteArray×Option Addr×Nat×List ByteArray×Value) [(12,14),(70,132)] [(6,Pt B),(8,Pt G),(10,Pt K),(11,Pt M),(0,Pt k),(1,.slice (some ⟨aZ,ba,none⟩) Q.length nA),(3,.int .i64 j),(9,.int .i64 (i:Int))] (fun(E,aD,ap,aQ,aR,X,av,aB,aE,T)=>[(12,T),(13,.int .i64 (E:Int))]) (fun(E,aD,ap,aQ,aR,X,av,aB,aE,T) d=>E≤p.length∧d.heap[B]? =some (.cells #[.slice aa U.length ab,.slice ae (y++[H++CO++⟨#[UInt8.ofNat (48+p.length)]⟩]).length aj,.slice R P.length S] 45 (0,0))∧d.heap[G]? =some (.cells #[Zl,Zl,Zl] 45 (0,0))∧d.heap[K]? =some (.cells #[.string H,.slice bb p.length aC,ay,az,a0,a1,a2,a3,a4,a5,a6,a7,a8,a9] 61 (0,0))∧d.heap[M]? =some (.cells #[.slice aQ ap.length aR,.slice av X.length aB,.slice R P.length S] 45 (0,0))∧Lk d k aD∧hT d (AX (XB (XO D T) [M,K,G,B]) d) ae (y++[H++CO++⟨#[UInt8.ofNat (48+p.length)]⟩]).length 1 (strCells (y++[H++CO++⟨#[UInt8.ofNat (48+p.length)]⟩]))∧hT d (AX (XB (XO D T) [M,K,G,B]) d) aQ ap.length 1 (strCells ap)∧hT d (AX (XB (XO D T) [M,K,G,B]) d) av X.length 1 (strCells X)∧ap.length≤aR∧X.length≤aB∧ap.length≤U.length+E∧X.length≤y.length+1+E∧MS d w.heap.size [M,K,G,B] aE T∧aE.length≤E∧(aD=false→b7=false∧(∀s∈ap,ke s)∧(∀s∈X,s5 s)∧∀(O:Nat)(h:O<p.length),O<E→uZ p[O])) (fun(E,_)=>p.length - E) ((0,b7,U,aa,ab,(y++[H++CO++⟨#[UInt8.ofNat (48+p.length)]⟩]),ae,aj,[],Zl)) ?_ ?_
  ·exact⟨f.g,TE _,(Gb o),(Gb r),(Gb t),u,g.g,C.Pg rfl,cT.Pg rfl,C.Pg rfl,bw,bU,Ac,by simp,MS.nil _ _ _,Tv _,fun L=>⟨L,(aM b5).1,fun s hs=>by rcases Uc.1 hs with hs|hs;exact bN s hs;rw[Tt.1 hs];exact s5.mk (d:=UInt8.ofNat (48+p.length)) b8 (by rw[mY,mY,Ty];rfl),fun O hj h=>Tu h Ac⟩⟩
  clear f o r t g C u
  rintro ar ⟨E,aD,ap,aQ,aR,X,av,aB,aE,T⟩ O cU ⟨f,ej,o,r,t,u,g,C,I,J,aS,bV,ek,el,z,em,bB⟩
  have b3:=f.size
  have aN:=hC o
  have aO:=hC r
  have bc:=hC t
  have b9:=hC u
  have aL:=g.lt
  have bC:=XO.Qg z aV b3
  refine ac 5<|lD t rfl rfl<|au 1<|jX rfl rfl (fun cV=>?_) (fun cV=>?_)
  ·have bh:E<p.length:=by omega
   obtain⟨bW,bY,cW,cZ,bZ⟩:=c5.str bh
   cases cW
   have ca:=c7 _ (T2 bh)
   obtain⟨ag,cb⟩:∃ad,p[E]=ad:=⟨_,rfl⟩
   rw[cb]at bZ ca
   obtain⟨da,cc⟩:=EU ag
   refine au 8<|lD t rfl rfl<|au 1<|iX F.ku (bh) rfl rfl ((rfl:(E:Int)=(E:Int)))<|lC (f.cell bZ (b0 _ cZ)) rfl<|au 2<|DC.lG (σ:=ByteArray×List ByteArray×Option Addr×Nat) (fun(ah,ak,aF,aT)=>[(0,Pt k),(1,.slice (some ⟨aZ,ba,none⟩) Q.length nA),(3,.int .i64 j),(6,Pt B),(8,Pt G),(9,.int .i64 (i:Int)),(10,Pt K),(11,Pt M),(12,T),(13,.int .i64 (E:Int)),(14,.string ah)]) (fun(ah,ak,aF,aT) d=>Fr [k] w d∧cU.heap.size≤d.heap.size∧d.heap[B]? =some (.cells #[.slice aa U.length ab,.slice ae (y++[H++CO++⟨#[UInt8.ofNat (48+p.length)]⟩]).length aj,.slice R P.length S] 45 (0,0))∧d.heap[G]? =some (.cells #[Zl,Zl,Zl] 45 (0,0))∧d.heap[K]? =some (.cells #[.string H,.slice (some ⟨bW,bY,none⟩) p.length aC,ay,az,a0,a1,a2,a3,a4,a5,a6,a7,a8,a9] 61 (0,0))∧d.heap[M]? =some (.cells #[.slice aF ak.length aT,.slice av X.length aB,.slice R P.length S] 45 (0,0))∧Lk d k aD∧hT d (AX (XB (XO D T) [M,K,G,B]) d) ae (y++[H++CO++⟨#[UInt8.ofNat (48+p.length)]⟩]).length 1 (strCells (y++[H++CO++⟨#[UInt8.ofNat (48+p.length)]⟩]))∧hT d (AX (XB (XO D T) [M,K,G,B]) d) aF ak.length 1 (strCells ak)∧hT d (AX (XB (XO D T) [M,K,G,B]) d) av X.length 1 (strCells X)∧MS d w.heap.size [M,K,G,B] aE T∧ak.length≤aT∧ak.length≤U.length+E+1∧(∀s∈ak,s∈ap∨s=ah)∧(ag=ah∨ag.data.toList=36::ah.data.toList)∧ah.size≤140737488351232) ?_ ?_
   ·refine ac 4<|DL.b rfl rfl (Y.gt rfl rfl) (fun aH bD=>?_)
    refine au 1<|DL.gY (p:=aH) (by cases aH<;>rfl) rfl (fun h=>by subst h;exact Y.sf (v:=.string ag) rfl)<|DL.gY (p:=aH) (by cases aH<;>rfl) rfl (fun h=>by subst h;exact Y.ma (i:=0) (b:=da) Tryz.underlying9 rfl rfl rfl (cc (by have:=T5 bD.symm;omega)))<|DL.gB (p:=aH) (by cases aH<;>rfl) rfl (fun h=>by subst h;exact Y.eq rfl rfl) (fun db dc=>?_)
    refine DL.b rfl rfl (Y.and (q:=db) rfl oV rfl) (fun en cd=>?_)
    refine au 1<|DC.cond rfl (fun bi=>?_) (fun bi=>?_)
    ·have dd:ag.data.toList=36::(ag.extract 1 ag.size).data.toList:=by simp only[cd,dc,bD,Tx,TA]at bi;rw[x4 (cc Ac)];congr 1;exact TV.1 (by have:=bi.2;show _=36;omega)
     have eo:1<ag.size:=by simp only[cd,bD,Tx,TA]at bi;omega
     refine ac 3<|DL.y rfl rfl (Y.vw Tryz.underlying9 rfl rfl Ah Ac)<|au 4<|lD u rfl rfl<|au 1<|lD u rfl rfl<|au 2<|lD u rfl rfl<|au 1<|DL.y rfl rfl (Y.slice3 F.ku rfl rfl rfl aS)<|au 1<|DL.iu (cs:=#[.string (ag.extract 1 ag.size)]) rfl rfl (F.lT) rfl rfl rfl fun ep eq aI er es de=>have aI:=Sp.mk aI;have et:=aI.size;have I:=I.x0 aI.f;DL.ot rfl rfl F.lT rfl rfl I (ja (l:=[ag.extract 1 ag.size]) de) Bm ?_
     intro eu ev ew am af aP
     have af:=af.new (XB.IB bC Ac Aj) am.size
     have f:=f.g.jP am
     have ex:=am.size
     have o:=am.il (Gb o)
     have r:=am.il (Gb r)
     have t:=am.il (Gb t)
     have u:=am.il (Gb u)
     have g:=g.g.k9 am
     have I:=af
     clear af
     exact au 1<|sc u rfl rfl rfl rfl fun ey bj ez u=>have C:=((C.x0 aI.f).x0 am).x1 bj.f (Tk Al);have J:=((J.x0 aI.f).x0 am).x1 bj.f (Tk Al);have z:=(z.g.k9 am).n6 bj.f (Ts Al);have I:=I.x1 bj.f (Tk Al);au 1 ⟨(_,_,_,_),⟨rfl,rfl,rfl,rfl,rfl,rfl,rfl,rfl,rfl,rfl,rfl⟩,f.g,Ac,(Gb o),(Gb r),(Gb t),u,g.g,C,I,J,z,aP,by simp only[Tl,TG];omega,fun s hs=>by rcases Uc.1 hs with hs|hs;exact Ts hs;exact Tk (Tt.1 hs),Tk dd,by rw[ByteArray.size_extract];omega⟩
    exact ac 1 ⟨(_,_,_,_),⟨rfl,rfl,rfl,rfl,rfl,rfl,rfl,rfl,rfl,rfl,rfl⟩,f,Ac,o,r,t,u,g,C,I,J,z,aS,Ac,fun s hs=>Ts hs,Ts rfl,ca⟩
   clear f o r t u g C I J z
   rintro⟨ah,ak,aF,aT⟩ ar df ⟨f,e0,o,r,t,u,g,C,I,J,z,aS,e1,dg,dh,di⟩
   have dj:=f.size;have aL:=g.lt;have aN:=hC o;have aO:=hC r;have bc:=hC t;have b9:=hC u
   refine DC.lG (σ:=Bool) (fun bk=>[(0,Pt k),(1,.slice (some ⟨aZ,ba,none⟩) Q.length nA),(3,.int .i64 j),(6,Pt B),(8,Pt G),(9,.int .i64 (i:Int)),(10,Pt K),(11,Pt M),(12,T),(13,.int .i64 (E:Int)),(14,.string ah)]) (fun bk d=>Fr [k] w d∧df.heap.size≤d.heap.size∧d.heap[B]? =some (.cells #[.slice aa U.length ab,.slice ae (y++[H++CO++⟨#[UInt8.ofNat (48+p.length)]⟩]).length aj,.slice R P.length S] 45 (0,0))∧d.heap[G]? =some (.cells #[Zl,Zl,Zl] 45 (0,0))∧d.heap[K]? =some (.cells #[.string H,.slice (some ⟨bW,bY,none⟩) p.length aC,ay,az,a0,a1,a2,a3,a4,a5,a6,a7,a8,a9] 61 (0,0))∧d.heap[M]? =some (.cells #[.slice aF ak.length aT,.slice av X.length aB,.slice R P.length S] 45 (0,0))∧Lk d k bk∧hT d (AX (XB (XO D T) [M,K,G,B]) d) ae (y++[H++CO++⟨#[UInt8.ofNat (48+p.length)]⟩]).length 1 (strCells (y++[H++CO++⟨#[UInt8.ofNat (48+p.length)]⟩]))∧hT d (AX (XB (XO D T) [M,K,G,B]) d) aF ak.length 1 (strCells ak)∧hT d (AX (XB (XO D T) [M,K,G,B]) d) av X.length 1 (strCells X)∧MS d w.heap.size [M,K,G,B] aE T∧(bk=false→aD=false∧ke ah)) ?_ ?_
   ·refine ac 3<|cX (mM _ di _) ?_
    rintro _ e2 bE e3 ⟨dk,rfl,dl⟩
    have C:=C.x0 bE.f
    have I:=I.x0 bE.f
    have J:=J.x0 bE.f
    refine(Ua dk).elim (fun bF=>?_) (fun bF=>?_)
    ·subst bF
     refine au 3<|cX (qi z.g Ac _) ?_
     rintro _ e4 bG e5 ⟨e6,rfl,_,_⟩
     refine DL.b rfl rfl (Y.not rfl) (fun e7 e8=>?_)
     exact au 1<|cX (ix g.g _) fun _ e9 bl eA ⟨dm,g,bH⟩=>have C:=(C.x0 bG.f).x1 bl.f (Ts (Ts Z));have I:=(I.x0 bG.f).x1 bl.f (Ts (Ts Z));have J:=(J.x0 bG.f).x1 bl.f (Ts (Ts Z));have z:=z.g.n6 bl.f (Tk (Ts bJ));au 1 ⟨_,⟨rfl,rfl,rfl,rfl,rfl,rfl,rfl,rfl,rfl,rfl,rfl⟩,f.g,Ac,(Gb o),(Gb r),(Gb t),(Gb u),g,C,I,J,z,fun L=>by obtain⟨aU,aw⟩:=bH L;exact⟨aU,dl rfl⟩⟩
    subst bF
    exact au 6<|cX (ix g.g _) fun _ eB bm eC ⟨dm,g,bH⟩=>have C:=C.x1 bm.f (Ts (Ts Z));have I:=I.x1 bm.f (Ts (Ts Z));have J:=J.x1 bm.f (Ts (Ts Z));have z:=z.g.n6 bm.f (Tk (Ts bJ));au 1 ⟨_,⟨rfl,rfl,rfl,rfl,rfl,rfl,rfl,rfl,rfl,rfl,rfl⟩,f.g,Ac,(Gb o),(Gb r),(Gb t),(Gb u),g,C,I,J,z,fun L=>Tu (bH L).2 Ah⟩
   clear f o r t u g C I J z
   rintro bk ar eD ⟨f,eE,o,r,t,u,g,C,I,J,z,dn⟩
   have dj:=f.size;have aL:=g.lt;have aN:=hC o;have aO:=hC r;have bc:=hC t;have b9:=hC u
   refine ac 4<|DL.iu (cs:=#[.string ah]) rfl rfl (F.lT) rfl rfl rfl fun eF eG aJ eH eI dp=>have aJ:=Sp.mk aJ;have eJ:=aJ.size;DL.hJ (news:=#[.string ah]) rfl rfl F.lT rfl rfl z.g.own (hB.hE dp) rfl AQ Ac Ac Ac fun eK eL aq dq bn=>have dr:=z.g.snoc Ac Aj dq bn;have f:=f.g.put aq (fun x hx=>Tk (z.g.ob _ (hF.1 hx)).1);have eM:=aq.size;have o:=aq.hO (Gb o) (z.g.nx Al);have r:=aq.hO (Gb r) (z.g.nx Al);have t:=aq.hO (Gb t) (z.g.nx Al);have u:=aq.hO (Gb u) (z.g.nx Al);have g:=g.g.fr aq (fun aW=>by have:=(z.g.ob _ (hF.1 aW)).1;omega);have z:=dr;have bC:=XO.Qg z aV f.size;au 4<|lD u rfl rfl<|au 1<|lD u rfl rfl<|au 2<|lD u rfl rfl<|au 1<|DL.y rfl rfl (Y.slice3 F.ku rfl rfl rfl bV)<|au 1<|DL.y rfl rfl (Y.cat rfl rfl (by rw[show(⟨#[47,48]⟩:ByteArray).size=2 from rfl];omega))<|DL.iu rfl rfl (F.lT) rfl rfl rfl fun eN eO aK eP eQ ds=>have aK:=Sp.mk aK;have eR:=aK.size;have J:=((J.x0 aJ.f).KI aq bn).x0 aK.f;DL.ot rfl rfl F.lT rfl rfl J (ja (l:=[ah++⟨#[47,48]⟩]) ds) Bm ?_
   intro eS eT eU an af aP
   have af:=af.new (XB.IB bC Ac Aj) an.size
   have f:=f.g.jP an
   have eV:=an.size
   have o:=an.il (Gb o)
   have r:=an.il (Gb r)
   have t:=an.il (Gb t)
   have u:=an.il (Gb u)
   have g:=g.g.k9 an
   have J:=af
   clear af
   refine au 1<|sc u rfl rfl rfl rfl fun eW bo eX u=>have C:=((((C.x0 aJ.f).KI aq bn).x0 aK.f).x0 an).x1 bo.f (Tk Al);have I:=((((I.x0 aJ.f).KI aq bn).x0 aK.f).x0 an).x1 bo.f (Tk Al);have z:=(z.g.k9 an).n6 bo.f (Ts Al);have J:=J.x1 bo.f (Tk Al);au 3<|ai ((E+1:Nat):Int) rfl rfl<|au 2 ?_
   refine⟨(E+1,_,_,_,_,_,_,_,_,_),⟨f.g,bh,(Gb o),(Gb r),(Gb t),u,g.g,C,I,J,aS,aP,Ac,by simp only[Tl,TG];omega,z,by simp only[Tl,TG];omega,fun L=>?_⟩,(by show p.length - (E+1)<p.length - E;omega),rfl,rfl⟩
   obtain⟨ax,bp⟩:=dn L
   obtain⟨aU,aw,bq,br⟩:=bB ax
   refine⟨aU,fun s hs=>(dg s hs).elim (aw s) (fun h=>h▸bp),fun s hs=>?_,fun O hj eY=>?_⟩
   ·rcases Uc.1 hs with hs|hs;exact bq s hs;rw[Tt.1 hs];exact s5.mk bp (by rw[mY])
   by_cases h:O=E
   ·subst h;rw[cb];rcases dh with h|h;exact Ts (h▸bp.jI);exact Tk ⟨_,h,bp.jI⟩
   exact br O hj Ac
  refine au 3<|ac 3<|lA (cs:=#[ay,az,a0,a1,a2,a3,a4,a5,a6,a7,a8,a9]) ((hB.hE t).sub 2 xQ (Tv _)) rfl rfl<|lw u rfl rfl<|au 1<|ai (j+1) rfl rfl<|cX (ce bP _ _ _ (XB D [M,K,G,B]) k (nB+N.h9 (Q.take i)+1+p.length) _ _ (by have:=N.jo hi;rw[b6]at this;simp only[N.nodes,N.iy]at this;omega) (bQ.fr f b0) c8 g ci (cj.fr f cm) (XB.lt aV f Aj) (Ts Z) ⟨ap,X,P,aQ,av,R,aR,aB,S,rfl,I.JQ,J.JQ,(bv.fr f bz).mono (AX.up f Aj),⟨aS,bV,bx⟩,⟨Ac,Ac,Ac⟩,fun L=>by obtain⟨aU,aw,bq,br⟩:=bB L;exact⟨aw,bq,(aM b5).2.2⟩⟩ Ac Ac Ac) fun _ eZ dt fa ⟨fb,g,du⟩=>have C:=C.x1 dt.f (Ts (Ts Z));au 3<|ai ((i+1:Nat):Int) rfl rfl<|au 2 ?_
  refine⟨(i+1,_,_,_,_),⟨f.g,hi,(Gb o),(Gb r),g,(C.JQ.R6 Al),bU,by rw[Tl,N.j6 hi];have:=N.om Q[i];simp only[TG];omega,fun L=>?_⟩,(by show Q.length - (i+1)<Q.length - i;omega),rfl⟩
  obtain⟨ax,ar⟩:=du L
  obtain⟨aU,aw,bq,br⟩:=bB ax
  refine⟨b5,fun s hs=>?_,fun O hj fc=>?_⟩
  ·rcases Uc.1 hs with hs|hs;exact bN s hs;rw[Tt.1 hs];exact s5.mk (d:=UInt8.ofNat (48+p.length)) b8 (by rw[mY,mY,Ty];rfl)
  by_cases h:O=i
  ·subst h;rw[b6];obtain⟨E,ht⟩:=ar;exact⟨_,.df b8.jI (fun ad dv=>by obtain⟨dw,dx,rfl⟩:=T0 dv;exact br dw dx Ac) ht⟩
  exact c0 O hj Ac
 refine ac 1<|ac 2<|lw o rfl rfl<|sA (cs:=#[.slice aa U.length ab,.slice a y.length A,.slice R P.length S]) r rfl rfl rfl rfl AQ fun fd dy fe r=>have W:=W.x1 dy.f (Tk Al);au 2<|hD.hZ (cs:=#[.slice aa U.length ab,.slice a y.length A,.slice R P.length S]) rfl F.sD (hB.hE r) (hH.mk f.g ⟨_,_,rfl,g.g,⟨U,y,P,aa,a,R,ab,A,S,rfl,?_,?_,?_,⟨bw,b1,bx⟩,⟨Ac,by have:=N.mD Q i;omega,Ac⟩,fun L=>?_⟩,fun L=>?_⟩)
 ·exact(bu.ax f.g (fun x hx=>by rcases Tt.1 hx with rfl;exact Ts Z))
 ·exact W.mono (fun A h=>⟨h.1,fun hx=>h.2 (Ts hx)⟩)
 ·exact(bv.ax f.g (fun x hx=>by rcases Tt.1 hx with rfl;exact Ts Z))
 ·obtain⟨ax,ar,aw⟩:=b2 L;exact⟨(aM ax).1,ar,(aM ax).2.2⟩
 subst L;have ff:i=Q.length:=by simp[bM,bL,bK]at b4;omega
 obtain⟨ax,ar,aw⟩:=b2 rfl;exact⟨ax,fun O hj=>aw O hj Ac⟩
end Go.Proofs.YtlojelcoibpphaaGreatDoor
