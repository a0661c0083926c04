/- FnQueryText, second form: own texts, joined and made short by a program (part 11): for every argument of bulk at most 1048576 the law answers true. -/
import Derived.Test.YtlojelcoibpphaaGreatDoorMx01
import Derived.Test.YtlojelcoibpphaaGreatDoorMx03
import Derived.Test.YtlojelcoibpphaaGreatDoorMx02
import Derived.Test.YtlojelcoibpphaaGreatDoorMx10
set_option maxRecDepth 100000
set_option maxHeartbeats 2000000
set_option linter.unusedVariables false
set_option linter.unusedSimpArgs false
set_option linter.unusedSectionVars false
set_option linter.defProp false
namespace Go.Proofs.YtlojelcoibpphaaGreatDoor
open Go Go.RowKit D Go.Deep Go.Proofs
variable{L M lB lC lE lF:List UInt8}{m k nA nB nC:Nat}{w:World}{t:ByteArray}{D:Nat→Prop}{q p qA qB:N}{Q:List N}{v u vA vB vC vD:Value}{S:List ByteArray}{j:Int}{lJ:List (List UInt8)}{gA:List G}{gH:G}{cE:Nat→Array Value}
theorem z6{s:ByteArray}(hs:jI s.data.toList):Ft (.mk Cu s V0 [] [q] [] []) true s.data.toList:=by
 intro l m o c hD0 p hw
 obtain⟨r,t,u,v,w,y,z,A,B,C,D,E,F,G,rfl⟩:=c.hI
 obtain⟨H,I,J,K,L,M⟩:=c.hV
 obtain⟨O,P,Q,d,R,S,T,U⟩:=c.kF (i:=0) Al
 cases d
 have W:N.wt q≤1048576:=by simp only[N.wt,N.h9]at hw;omega
 refine cY Tryz.func97 fun f=>ac 2<|bX rfl fun X Y Z aa ab b=>au 6<|lD b rfl rfl<|au 7<|lD b rfl rfl<|au 12<|lD b rfl rfl<|cX (ig _ Ac _) ?_
 rintro _ ad ae af rfl
 rw[hs]
 exact au 5<|lD (Gb b) rfl rfl<|bD #[.string s,Zp,Zp,Zp,.bool false]<|bX rfl fun g ag ah ai aj j=>bD #[Pt g,.bool false,.bool false]<|bX rfl fun ak al am an ao k=>au 6<|hD.ia rfl rfl (hH.mk f.g ⟨_,_,_,rfl,(Tk ⟨Ac,Ac⟩),k,HF.ph (Tk ⟨Ac,Ac⟩) (Gb j) (HR.c (.cons .vv (.cons .vv (.cons .vv (.cons .vv (.cons .vv .nil)))))),.IJ (.OP (oE hs)),.LN (oE hs) (.OX (.OP (oE hs)))⟩)
theorem Db{s:ByteArray}(hs:jI s.data.toList=false)(l:Lib.validD s.data.toList):Ft (.mk Cu s V0 [] [q] [] []) true (qL s.data.toList):=by
 intro B C D g hD0 E hw
 obtain⟨F,G,H,I,J,K,L,M,O,P,Q,R,S,T,rfl⟩:=g.hI
 obtain⟨U,W,X,Y,Z,aa⟩:=g.hV
 obtain⟨ab,ad,ae,t,af,ag,ah,ai⟩:=g.kF (i:=0) Al
 cases t
 have aj:N.wt q≤1048576:=by simp only[N.wt,N.h9]at hw;omega
 refine cY Tryz.func97 fun b=>ac 2<|bX rfl fun j ak al m u c=>have m:=Tq b.size m;au 6<|lD c rfl rfl<|au 7<|lD c rfl rfl<|au 12<|lD c rfl rfl<|cX (ig _ Ac _) ?_
 rintro _ v am an rfl
 rw[hs]
 refine au 6<|lD (Gb c) rfl rfl ?_
 have w:_≤v.heap.size:=b.g.size
 have ao:=u
 refine cX (mC _ _) ?_
 rintro _ ap aq ar ⟨d,rfl,o,av,y⟩
 have aw:j<d:=Ac
 have o:=Tq w o
 exact bD #[Zs,Pt d,Zp,Zp,.bool false]<|bX rfl fun f ax ay p az z=>have a0:j<f:=Ac;have a1:d<f:=Ac;have p:=Tq b.g.size p;bD #[Pt f,.bool false,.bool false]<|bX rfl fun k a2 a3 r a4 A=>have a5:j<k:=Ac;have a6:d<k:=Ac;have a7:f<k:=Ac;have r:=Tq b.g.size r;au 6<|hD.ia rfl rfl (hH.mk b.g ⟨_,_,_,rfl,(Tk ⟨Ac,Ac⟩),A,HF.ph (Tk ⟨Ac,Ac⟩) (Gb z) (HR.c (.cons .vv (.cons (HF.ph (Tk ⟨Ac,Ac⟩) (Gb y) (HR.c (.cons .vv (.cons .vv .nil)))) (.cons .vv (.cons .vv (.cons .vv .nil)))))),.IJ (.ON (.Fb l)),.LP (.OX (.ON (.Fb l)))⟩)
theorem Gn(l:CQ q L):Ft (.mk CF ⟨#[]⟩ V0 [] [p,q] [] []) false ([91]++L++[93]):=by
 intro K m M c hD0 o hw
 obtain⟨O,P,Q,R,S,T,U,W,X,Y,Z,aa,ab,ad,rfl⟩:=c.hI
 obtain⟨ae,af,ag,ah,ai,aj⟩:=c.hV
 obtain⟨ak,al,am,r,an,ao,ap,aq⟩:=c.kF (i:=0) Al
 cases r
 have ar:N.wt p≤1048576:=by simp only[N.wt,N.h9]at hw;omega
 obtain⟨av,aw,ax,t,ay,u,v,w⟩:=c.kF (i:=1) Al
 cases t
 have y:N.wt q≤1048576:=by simp only[N.wt,N.h9]at hw;omega
 refine cY Tryz.func97 fun b=>ac 2<|bX rfl fun az z a0 a1 a2 d=>au 6<|lD d rfl rfl<|au 7<|lD d rfl rfl<|au 25<|lD d rfl rfl<|iX F.iI Al rfl rfl rfl<|lA (u.fr b.g Al) v rfl ?_
 obtain⟨a3,f⟩:=nm z
 have a4:=b.g.le f
 refine cX (l _ m _ (w.fr b.g Az) (fun A hc=>Tj (hD0 A hc) b.g.size) (o.at b.g) y) ?_
 rintro _ B a5 a6 ⟨C,rfl,g,D,E⟩
 obtain⟨a7,j,k⟩:=E.hf (Tk ⟨g,D⟩)
 obtain⟨a8,G,a9⟩:=nl B
 rw[←f,←G]at j
 rw[←f]at g
 exact au 9<|bD #[Zs,Zp,Pt C,Zp,.bool false]<|bX rfl fun H aA aB aC aD I=>bD #[Pt H,.bool false,.bool false]<|bX rfl fun aE aF aG aH aI J=>au 5<|hD.ia rfl rfl (hH.mk b.g ⟨_,_,_,rfl,(Tk ⟨Ac,Ac⟩),J,HF.ph (Tk ⟨Ac,Ac⟩) (Gb I) (HR.c (.cons .vv (.cons .vv (.cons (j.g.up (Dm.mono Ac Ac)) (.cons .vv (.cons .vv .nil)))))),.uc (.Pp k),.Nk (.Pp k)⟩)
theorem Gy(E:CQ q L)(G:CQ p M)(m:iz q≠Cn)(H:iz p≠Cn):Ft (.mk Co ⟨#[]⟩ V0 [] [qA,q,p] [] []) false ([91]++L++[58]++M++[93]):=by
 intro al o am d hD0 r hw
 obtain⟨an,ao,ap,aq,ar,av,aw,ax,ay,az,a0,a1,a2,a3,rfl⟩:=d.hI
 obtain⟨a4,a5,a6,a7,a8,a9⟩:=d.hV
 obtain⟨aA,aB,aC,I,aD,aE,aF,aG⟩:=d.kF (i:=0) Al
 cases I
 have aH:N.wt qA≤1048576:=by simp only[N.wt,N.h9]at hw;omega
 obtain⟨aI,aJ,J,K,aK,j,O,t⟩:=d.kF (i:=1) Al
 cases K
 have P:N.wt q≤1048576:=by simp only[N.wt,N.h9]at hw;omega
 obtain⟨aL,aM,Q,R,aN,u,S,v⟩:=d.kF (i:=2) Al
 cases R
 have T:N.wt p≤1048576:=by simp only[N.wt,N.h9]at hw;omega
 have w:J[0]? =some (.string (iz q)):=lb t
 have U:Q[0]? =some (.string (iz p)):=lb v
 refine cY Tryz.func97 fun b=>ac 2<|bX rfl fun aO aP aQ aR aS c=>au 6<|lD c rfl rfl<|au 7<|lD c rfl rfl<|au 27<|lD c rfl rfl<|iX F.iI Al rfl rfl rfl<|au 1<|lC (jv (j.fr b.g Al) w) rfl<|sX m rfl rfl<|au 14<|bD #[Zs,Zp,Zp,Zp,.bool true]<|bX rfl fun W X aT aU aV f=>au 11<|lD (Gb c) rfl rfl<|iX F.iI Al rfl rfl rfl<|au 1<|lC (jv (j.fr b.g Al) w) rfl<|DL.y rfl rfl (Y.my (c:=true) rfl rfl (kR m))<|au 5<|lD (Gb c) rfl rfl<|iX F.iI Al rfl rfl rfl<|lA (j.fr b.g Al) O rfl ?_
 obtain⟨aW,k⟩:=nm X
 have aX:=b.g.le k
 refine cX (E _ o _ (t.fr b.g Az) (fun g hc=>Tj (hD0 g hc) b.g.size) (r.at b.g) P) ?_
 rintro _ Z aY aZ ⟨ba,rfl,y,aa,ab⟩
 obtain⟨bb,z,A⟩:=ab.hf (Tk ⟨y,aa⟩)
 obtain⟨bc,ad,bd⟩:=nl Z
 rw[←k,←ad]at z
 rw[←k]at y
 refine au 5<|sc (Gb f) rfl rfl rfl rfl fun ae be bf af=>have f:=af;au 6<|lD (Gb c) rfl rfl<|iX F.iI Al rfl rfl rfl<|au 1<|lC (jv (u.fr b.g Al) U) rfl<|DL.y rfl rfl (Y.my (c:=true) rfl rfl (kR H))<|au 5<|lD (Gb c) rfl rfl<|iX F.iI Al rfl rfl rfl<|lA (u.fr b.g Al) S rfl ?_
 obtain⟨bg,l⟩:=nm ae
 have bh:=b.g.le l
 refine cX (G _ o _ (v.fr b.g Az) (fun g hc=>Tj (hD0 g hc) b.g.size) (r.at b.g) T) ?_
 rintro _ ag bi bj ⟨bk,rfl,B,ah,ai⟩
 obtain⟨bl,C,D⟩:=ai.hf (Tk ⟨B,ah⟩)
 obtain⟨bm,aj,bn⟩:=nl ag
 rw[←l,←aj]at C
 rw[←l]at B
 exact au 5<|sc (Gb f) rfl rfl rfl rfl fun bo bp bq f=>au 5<|bD #[Pt W,.bool false,.bool false]<|bX rfl fun br bs bt bu bv ak=>au 8<|hD.ia rfl rfl (hH.mk b.g ⟨_,_,_,rfl,(Tk ⟨Ac,Ac⟩),ak,HF.ph (Tk ⟨Ac,Ac⟩) (Gb f) (HR.c (.cons .vv (.cons .vv (.cons (z.g.up (Dm.mono Ac Ac)) (.cons (C.g.up (Dm.mono Ac Ac)) (.cons .vv .nil)))))),.uc (.Iy A D),.Nk (.Iy A D)⟩)
theorem FC(v:CQ q L)(k:iz q≠Cn):Ft (.mk Co ⟨#[]⟩ V0 [] [p,q,je] [] []) false ([91]++L++[58]++[93]):=by
 intro T w U d hD0 y hw
 obtain⟨W,X,Z,aa,ab,ad,ae,af,ag,ah,ai,aj,ak,al,rfl⟩:=d.hI
 obtain⟨am,an,ao,ap,aq,ar⟩:=d.hV
 obtain⟨av,aw,ax,z,ay,az,a0,a1⟩:=d.kF (i:=0) Al
 cases z
 have a2:N.wt p≤1048576:=by simp only[N.wt,N.h9]at hw;omega
 obtain⟨a3,a4,A,B,a5,f,C,l⟩:=d.kF (i:=1) Al
 cases B
 have D:N.wt q≤1048576:=by simp only[N.wt,N.h9]at hw;omega
 obtain⟨a6,a7,E,G,a8,H,a9,I⟩:=d.kF (i:=2) Al
 cases G
 have m:A[0]? =some (.string (iz q)):=lb l
 have J:E[0]? =some (.string Cn):=lb I
 refine cY Tryz.func97 fun b=>ac 2<|bX rfl fun aA aB aC aD aE c=>au 6<|lD c rfl rfl<|au 7<|lD c rfl rfl<|au 27<|lD c rfl rfl<|iX F.iI Al rfl rfl rfl<|au 1<|lC (jv (f.fr b.g Al) m) rfl<|sX k rfl rfl<|au 14<|bD #[Zs,Zp,Zp,Zp,.bool true]<|bX rfl fun K M aF aG aH g=>au 11<|lD (Gb c) rfl rfl<|iX F.iI Al rfl rfl rfl<|au 1<|lC (jv (f.fr b.g Al) m) rfl<|DL.y rfl rfl (Y.my (c:=true) rfl rfl (kR k))<|au 5<|lD (Gb c) rfl rfl<|iX F.iI Al rfl rfl rfl<|lA (f.fr b.g Al) C rfl ?_
 obtain⟨aI,j⟩:=nm M
 have aJ:=b.g.le j
 refine cX (v _ w _ (l.fr b.g Az) (fun o hc=>Tj (hD0 o hc) b.g.size) (y.at b.g) D) ?_
 rintro _ O aK aL ⟨aM,rfl,r,P,Q⟩
 obtain⟨aN,t,u⟩:=Q.hf (Tk ⟨r,P⟩)
 obtain⟨aO,R,aP⟩:=nl O
 rw[←j,←R]at t
 rw[←j]at r
 exact au 5<|sc (Gb g) rfl rfl rfl rfl fun aQ aR aS g=>au 6<|lD (Gb c) rfl rfl<|iX F.iI Al rfl rfl rfl<|au 1<|lC (jv (H.fr b.g Al) J) rfl<|au 7<|bD #[Pt K,.bool false,.bool false]<|bX rfl fun aT aU aV aW aX S=>au 8<|hD.ia rfl rfl (hH.mk b.g ⟨_,_,_,rfl,(Tk ⟨Ac,Ac⟩),S,HF.ph (Tk ⟨Ac,Ac⟩) (Gb g) (HR.c (.cons .vv (.cons .vv (.cons (t.g.up (Dm.mono Ac Ac)) (.cons .vv (.cons .vv .nil)))))),.uc (.Jl u),.Nk (.Jl u)⟩)
theorem FT(y:CQ q L)(k:iz q≠Cn):Ft (.mk Co ⟨#[]⟩ V0 [] [p,je,q] [] []) false ([91]++[58]++L++[93]):=by
 intro T z U d hD0 A hw
 obtain⟨W,X,Z,aa,ab,ad,ae,af,ag,ah,ai,aj,ak,al,rfl⟩:=d.hI
 obtain⟨am,an,ao,ap,aq,ar⟩:=d.hV
 obtain⟨av,aw,ax,B,ay,az,a0,a1⟩:=d.kF (i:=0) Al
 cases B
 have a2:N.wt p≤1048576:=by simp only[N.wt,N.h9]at hw;omega
 obtain⟨a3,a4,C,D,a5,l,a6,E⟩:=d.kF (i:=1) Al
 cases D
 obtain⟨a7,a8,G,H,a9,f,I,m⟩:=d.kF (i:=2) Al
 cases H
 have J:N.wt q≤1048576:=by simp only[N.wt,N.h9]at hw;omega
 have o:C[0]? =some (.string Cn):=lb E
 have r:G[0]? =some (.string (iz q)):=lb m
 refine cY Tryz.func97 fun b=>ac 2<|bX rfl fun aA aB aC aD aE c=>au 6<|lD c rfl rfl<|au 7<|lD c rfl rfl<|au 27<|lD c rfl rfl<|iX F.iI Al rfl rfl rfl<|au 1<|lC (jv (l.fr b.g Al) o) rfl<|au 3<|lD c rfl rfl<|iX F.iI Al rfl rfl rfl<|au 1<|lC (jv (f.fr b.g Al) r) rfl<|sX k rfl rfl<|au 1<|au 6<|bD #[Zs,Zp,Zp,Zp,.bool true]<|bX rfl fun K M aF aG aH g=>au 11<|lD (Gb c) rfl rfl<|iX F.iI Al rfl rfl rfl<|au 1<|lC (jv (l.fr b.g Al) o) rfl<|au 8<|lD (Gb c) rfl rfl<|iX F.iI Al rfl rfl rfl<|au 1<|lC (jv (f.fr b.g Al) r) rfl<|DL.y rfl rfl (Y.my (c:=true) rfl rfl (kR k))<|au 5<|lD (Gb c) rfl rfl<|iX F.iI Al rfl rfl rfl<|lA (f.fr b.g Al) I rfl ?_
 obtain⟨aI,j⟩:=nm M
 have aJ:=b.g.le j
 refine cX (y _ z _ (m.fr b.g Az) (fun t hc=>Tj (hD0 t hc) b.g.size) (A.at b.g) J) ?_
 rintro _ O aK aL ⟨aM,rfl,u,P,Q⟩
 obtain⟨aN,v,w⟩:=Q.hf (Tk ⟨u,P⟩)
 obtain⟨aO,R,aP⟩:=nl O
 rw[←j,←R]at v
 rw[←j]at u
 exact au 5<|sc (Gb g) rfl rfl rfl rfl fun aQ aR aS g=>au 5<|bD #[Pt K,.bool false,.bool false]<|bX rfl fun aT aU aV aW aX S=>au 8<|hD.ia rfl rfl (hH.mk b.g ⟨_,_,_,rfl,(Tk ⟨Ac,Ac⟩),S,HF.ph (Tk ⟨Ac,Ac⟩) (Gb g) (HR.c (.cons .vv (.cons .vv (.cons .vv (.cons (v.g.up (Dm.mono Ac Ac)) (.cons .vv .nil)))))),.uc (.Kd w),.Nk (.Kd w)⟩)
theorem D5:N1 (.mk CK ⟨#[]⟩ V0 [] [q] [] []) true false [91,93]:=by
 intro j k l b hD0 m hw
 obtain⟨o,p,r,t,u,v,w,y,z,A,B,C,D,E,rfl⟩:=b.hI
 obtain⟨F,G,H,I,J,K⟩:=b.hV
 obtain⟨L,M,O,d,P,Q,R,S⟩:=b.kF (i:=0) Al
 cases d
 have T:N.wt q≤1048576:=by simp only[N.wt,N.h9]at hw;omega
 exact cY Tryz.func97 fun f=>ac 2<|bX rfl fun U W X Y Z c=>au 6<|lD c rfl rfl<|au 7<|lD c rfl rfl<|au 28<|bD #[Zp,.bool true,.bool false]<|bX rfl fun aa ab ad ae af g=>au 6<|hD.ia rfl rfl (hH.mk f.g ⟨_,rfl,(Tk ⟨Ac,Ac⟩),g,.Qq⟩)
theorem F3:N1 (.mk CH ⟨#[]⟩ V0 [] [q] [] []) false true [63]:=by
 intro j k l b hD0 m hw
 obtain⟨o,p,r,t,u,v,w,y,z,A,B,C,D,E,rfl⟩:=b.hI
 obtain⟨F,G,H,I,J,K⟩:=b.hV
 obtain⟨L,M,O,d,P,Q,R,S⟩:=b.kF (i:=0) Al
 cases d
 have T:N.wt q≤1048576:=by simp only[N.wt,N.h9]at hw;omega
 exact cY Tryz.func97 fun f=>ac 2<|bX rfl fun U W X Y Z c=>au 6<|lD c rfl rfl<|au 7<|lD c rfl rfl<|au 29<|bD #[Zp,.bool false,.bool true]<|bX rfl fun aa ab ad ae af g=>au 6<|hD.ia rfl rfl (hH.mk f.g ⟨_,rfl,(Tk ⟨Ac,Ac⟩),g,.QQ⟩)
def Lm(op:ByteArray)(ks:List N)(k:N)(t:List UInt8):Prop:=∀(w:World)(D0:Nat→Prop)(cs:Array Value)(text:ByteArray),RN w D0 0 (.mk op text V0 [] (k::ks) [] []) cs→(∀c,D0 c→c<w.heap.size)→TB w→N.wt k≤1048576→
 Calls Tryz.prog 98 #[.agg cs] w (hH w [] fun r w'=>∃b,r=.tuple #[Pt b,.bool true]∧Tm w' (Dm D0 w.heap.size w'.heap.size) t b (fun _ _=>True))
theorem EG{ks:List N}(a1:CQ q L)(a2:iz q≠CX):Lm t ks q (n4 (decide (t=CH)) q L):=by
 intro d j aQ aR az hD0 a3 a4
 obtain⟨aS,aT,aU,aV,aW,aX,aY,aZ,ba,bb,bc,bd,be,bf,rfl⟩:=az.hI
 obtain⟨bg,bh,a5,a6,bi,a7,ae,J⟩:=az.kF (i:=0) Al
 cases a6
 have J:RN d j 0 q a5:=J
 have a8:=o2 a1
 have a9:=lb J
 refine cY Tryz.func98 fun b=>ac 2<|bX rfl fun bj bk bl bm bn H=>au 6<|lD H rfl rfl<|iX F.iI Al rfl rfl rfl<|lA (a7.fr b.g Al) ae rfl<|al F.z31 rfl fun bo bp bq br bs Q=>sA Q rfl rfl rfl ae J.one fun aA bt bu Q=>au 3<|lw Q rfl ae ?_
 obtain⟨bv,a0⟩:=nm aA
 have bw:=b.g.le a0
 refine cX (a8 _ j _ (J.fr b.g Az) (fun aB hc=>Tj (hD0 aB hc) b.g.size) (a3.at b.g) a4) ?_
 rintro _ A bz b0 ⟨b1,rfl,_,c⟩
 obtain⟨C,aC,E⟩:=nl A
 rw[←a0,←aC]at c
 refine au 18<|lD (Gb Q) rfl a9<|au 5<|jS rfl rfl (fun r=>?_) (fun r=>?_)
 ·refine au 10 ?_
  obtain⟨aD,aE,aF,aG,K,aH,af,ag,hfl,ah,aI,aJ,M⟩:=id c
  obtain⟨ai,aj,O⟩:=ag.at 0 (f:=.v (.int .i64 K)) (by rw[UB Ac];exact ah)
  obtain rfl:ai=.int .i64 K:=by unfold HF at O;exact O
  refine lD af rfl (by rw[T9];exact aj)<|jN rfl rfl (fun G=>?_) (fun G=>?_)
  ·refine au 4 ?_
   have ak:_≤A.heap.size:=b.g.size
   have aK:=E
   refine cX (kb _ _) ?_
   rintro _ b2 b3 b4 ⟨P,rfl,am,aL,an⟩
   have aM:C≤P:=Ac
   have am:=Tq ak Ac
   refine bD #[.int .i64 20,Zp,Zp,Zp,Zp,Zs,Zp,Zs,Zp,Zp,Zp,Zp,Zp,Zp,Zs,Pt P,Zl]<|bX rfl fun aN ao b5 aO aP ap=>au 9 ?_
   have hu:nN q=true:=by cases h:nN q;exact Tu (M.2 h) G;rfl
   have hbs:n9 (decide (t=CH)) q=true:=by unfold n9;rw[hu,r];rfl
   rw[show n4 _ q L=[40]++L++[41]from TU hbs]
   rw[show bx q L=L from TU hu]at c
   obtain⟨I,l,m⟩:=c.g.hf
   obtain⟨o,p⟩:=ng (w:=ao) (D:=Dm j d.heap.size ao.heap.size) (l.up (Dm.mono Ac Ac)) m (Tk ⟨Ac,Ac⟩) (Gb an)
   exact hD.ia rfl rfl (hH.mk b.g ⟨_,rfl,(oI (D:=Dm j d.heap.size ao.heap.size) (Tk ⟨Ac,Ac⟩) ap o p).up (fun _ h=>h) (fun _ _ _=>trivial)⟩)
  refine au 10 ?_
  have hu:nN q=false:=by cases h:nN q;rfl;exact Tu (M.1 h (Ts r)) (fun h=>h (Decidable.not_not.1 G))
  have hbs:n9 (decide (t=CH)) q=false:=by unfold n9;rw[hu,r];cases decide (t=CH)<;>decide
  rw[show n4 _ q L=bx q L from TI BH]
  exact hD.ia rfl rfl (hH.mk b.g ⟨_,rfl,c.up (Dm.mono Ac Ac) (fun _ _ _=>trivial)⟩)
 refine au 5<|jS rfl rfl (fun B=>?_) (fun B=>?_)
 ·exact Tu B a2
 refine au 4<|jS rfl rfl (fun u=>?_) (fun u=>?_)
 ·refine au 8 ?_
  obtain⟨aD,aE,aF,aG,K,aH,af,ag,hfl,ah,aI,aJ,M⟩:=id c
  obtain⟨ai,aj,O⟩:=ag.at 0 (f:=.v (.int .i64 K)) (by rw[UB Ac];exact ah)
  obtain rfl:ai=.int .i64 K:=by unfold HF at O;exact O
  refine lD af rfl (by rw[T9];exact aj)<|jN rfl rfl (fun G=>?_) (fun G=>?_)
  ·refine au 4 ?_
   have ak:_≤A.heap.size:=b.g.size
   have aK:=E
   refine cX (kb _ _) ?_
   rintro _ b6 b7 b8 ⟨P,rfl,am,aL,an⟩
   have aM:C≤P:=Ac
   have am:=Tq ak Ac
   refine bD #[.int .i64 20,Zp,Zp,Zp,Zp,Zs,Zp,Zs,Zp,Zp,Zp,Zp,Zp,Zp,Zs,Pt P,Zl]<|bX rfl fun aN aq b9 aO aP ap=>au 9 ?_
   have hu:nN q=true:=by cases h:nN q;exact Tu (M.2 h) G;rfl
   have hbs:n9 (decide (t=CH)) q=true:=by unfold n9;rw[hu,u];rfl
   rw[show n4 _ q L=[40]++L++[41]from TU hbs]
   rw[show bx q L=L from TU hu]at c
   obtain⟨I,l,m⟩:=c.g.hf
   obtain⟨o,p⟩:=ng (w:=aq) (D:=Dm j d.heap.size aq.heap.size) (l.up (Dm.mono Ac Ac)) m (Tk ⟨Ac,Ac⟩) (Gb an)
   exact hD.ia rfl rfl (hH.mk b.g ⟨_,rfl,(oI (D:=Dm j d.heap.size aq.heap.size) (Tk ⟨Ac,Ac⟩) ap o p).up (fun _ h=>h) (fun _ _ _=>trivial)⟩)
  refine au 10 ?_
  have hu:nN q=false:=by cases h:nN q;rfl;exact Tu (M.1 h (Tk u)) (fun h=>h (Decidable.not_not.1 G))
  have hbs:n9 (decide (t=CH)) q=false:=by unfold n9;rw[hu,u];cases decide (t=CH)<;>decide
  rw[show n4 _ q L=bx q L from TI BH]
  exact hD.ia rfl rfl (hH.mk b.g ⟨_,rfl,c.up (Dm.mono Ac Ac) (fun _ _ _=>trivial)⟩)
 refine au 6<|jS rfl rfl (fun R=>?_) (fun R=>?_)
 ·refine au 8<|lD (Gb H) rfl rfl<|jS rfl rfl (fun g=>?_) (fun g=>?_)
  ·refine au 4 ?_
   have v:_≤A.heap.size:=b.g.size
   have S:=E
   refine cX (kb _ _) ?_
   rintro _ bA bB bC ⟨k,rfl,w,T,y⟩
   have U:C≤k:=Ac
   have w:=Tq v Ac
   refine bD #[.int .i64 20,Zp,Zp,Zp,Zp,Zs,Zp,Zs,Zp,Zp,Zp,Zp,Zp,Zp,Zs,Pt k,Zl]<|bX rfl fun W ar bE X Y z=>au 9 ?_
   have hu:nN q=true:=pw (by rw[R];decide)
   have hbs:n9 (decide (t=CH)) q=true:=by unfold n9;rw[R,g];simp
   rw[show n4 _ q L=[40]++L++[41]from TU hbs]
   rw[show bx q L=L from TU hu]at c
   obtain⟨I,l,m⟩:=c.g.hf
   obtain⟨o,p⟩:=ng (w:=ar) (D:=Dm j d.heap.size ar.heap.size) (l.up (Dm.mono Ac Ac)) m (Tk ⟨Ac,Ac⟩) (Gb y)
   exact hD.ia rfl rfl (hH.mk b.g ⟨_,rfl,(oI (D:=Dm j d.heap.size ar.heap.size) (Tk ⟨Ac,Ac⟩) z o p).up (fun _ h=>h) (fun _ _ _=>trivial)⟩)
  refine au 10 ?_
  have hbs:n9 (decide (t=CH)) q=false:=by unfold n9;rw[Ti r,Ti B,Ti u,Ti g];simp
  rw[show n4 _ q L=bx q L from TI BH]
  exact hD.ia rfl rfl (hH.mk b.g ⟨_,rfl,c.up (Dm.mono Ac Ac) (fun _ _ _=>trivial)⟩)
 refine au 5<|jS rfl rfl (fun Z=>?_) (fun Z=>?_)
 ·refine au 8<|lD (Gb H) rfl rfl<|jS rfl rfl (fun g=>?_) (fun g=>?_)
  ·refine au 4 ?_
   have v:_≤A.heap.size:=b.g.size
   have S:=E
   refine cX (kb _ _) ?_
   rintro _ bF bG bH ⟨k,rfl,w,T,y⟩
   have U:C≤k:=Ac
   have w:=Tq v Ac
   refine bD #[.int .i64 20,Zp,Zp,Zp,Zp,Zs,Zp,Zs,Zp,Zp,Zp,Zp,Zp,Zp,Zs,Pt k,Zl]<|bX rfl fun W av bI X Y z=>au 9 ?_
   have hu:nN q=true:=pw (by rw[Z];decide)
   have hbs:n9 (decide (t=CH)) q=true:=by unfold n9;rw[Z,g];simp
   rw[show n4 _ q L=[40]++L++[41]from TU hbs]
   rw[show bx q L=L from TU hu]at c
   obtain⟨I,l,m⟩:=c.g.hf
   obtain⟨o,p⟩:=ng (w:=av) (D:=Dm j d.heap.size av.heap.size) (l.up (Dm.mono Ac Ac)) m (Tk ⟨Ac,Ac⟩) (Gb y)
   exact hD.ia rfl rfl (hH.mk b.g ⟨_,rfl,(oI (D:=Dm j d.heap.size av.heap.size) (Tk ⟨Ac,Ac⟩) z o p).up (fun _ h=>h) (fun _ _ _=>trivial)⟩)
  refine au 10 ?_
  have hbs:n9 (decide (t=CH)) q=false:=by unfold n9;rw[Ti r,Ti B,Ti u,Ti g];simp
  rw[show n4 _ q L=bx q L from TI BH]
  exact hD.ia rfl rfl (hH.mk b.g ⟨_,rfl,c.up (Dm.mono Ac Ac) (fun _ _ _=>trivial)⟩)
 refine au 5<|jS rfl rfl (fun aa=>?_) (fun aa=>?_)
 ·refine au 8<|lD (Gb H) rfl rfl<|jS rfl rfl (fun g=>?_) (fun g=>?_)
  ·refine au 4 ?_
   have v:_≤A.heap.size:=b.g.size
   have S:=E
   refine cX (kb _ _) ?_
   rintro _ bJ bK bL ⟨k,rfl,w,T,y⟩
   have U:C≤k:=Ac
   have w:=Tq v Ac
   refine bD #[.int .i64 20,Zp,Zp,Zp,Zp,Zs,Zp,Zs,Zp,Zp,Zp,Zp,Zp,Zp,Zs,Pt k,Zl]<|bX rfl fun W aw bM X Y z=>au 9 ?_
   have hu:nN q=true:=pw (by rw[aa];decide)
   have hbs:n9 (decide (t=CH)) q=true:=by unfold n9;rw[aa,g];simp
   rw[show n4 _ q L=[40]++L++[41]from TU hbs]
   rw[show bx q L=L from TU hu]at c
   obtain⟨I,l,m⟩:=c.g.hf
   obtain⟨o,p⟩:=ng (w:=aw) (D:=Dm j d.heap.size aw.heap.size) (l.up (Dm.mono Ac Ac)) m (Tk ⟨Ac,Ac⟩) (Gb y)
   exact hD.ia rfl rfl (hH.mk b.g ⟨_,rfl,(oI (D:=Dm j d.heap.size aw.heap.size) (Tk ⟨Ac,Ac⟩) z o p).up (fun _ h=>h) (fun _ _ _=>trivial)⟩)
  refine au 10 ?_
  have hbs:n9 (decide (t=CH)) q=false:=by unfold n9;rw[Ti r,Ti B,Ti u,Ti g];simp
  rw[show n4 _ q L=bx q L from TI BH]
  exact hD.ia rfl rfl (hH.mk b.g ⟨_,rfl,c.up (Dm.mono Ac Ac) (fun _ _ _=>trivial)⟩)
 refine au 5<|jS rfl rfl (fun ab=>?_) (fun ab=>?_)
 ·refine au 8<|lD (Gb H) rfl rfl<|jS rfl rfl (fun g=>?_) (fun g=>?_)
  ·refine au 4 ?_
   have v:_≤A.heap.size:=b.g.size
   have S:=E
   refine cX (kb _ _) ?_
   rintro _ bN bO bP ⟨k,rfl,w,T,y⟩
   have U:C≤k:=Ac
   have w:=Tq v Ac
   refine bD #[.int .i64 20,Zp,Zp,Zp,Zp,Zs,Zp,Zs,Zp,Zp,Zp,Zp,Zp,Zp,Zs,Pt k,Zl]<|bX rfl fun W ax bQ X Y z=>au 9 ?_
   have hu:nN q=true:=pw (by rw[ab];decide)
   have hbs:n9 (decide (t=CH)) q=true:=by unfold n9;rw[ab,g];simp
   rw[show n4 _ q L=[40]++L++[41]from TU hbs]
   rw[show bx q L=L from TU hu]at c
   obtain⟨I,l,m⟩:=c.g.hf
   obtain⟨o,p⟩:=ng (w:=ax) (D:=Dm j d.heap.size ax.heap.size) (l.up (Dm.mono Ac Ac)) m (Tk ⟨Ac,Ac⟩) (Gb y)
   exact hD.ia rfl rfl (hH.mk b.g ⟨_,rfl,(oI (D:=Dm j d.heap.size ax.heap.size) (Tk ⟨Ac,Ac⟩) z o p).up (fun _ h=>h) (fun _ _ _=>trivial)⟩)
  refine au 10 ?_
  have hbs:n9 (decide (t=CH)) q=false:=by unfold n9;rw[Ti r,Ti B,Ti u,Ti g];simp
  rw[show n4 _ q L=bx q L from TI BH]
  exact hD.ia rfl rfl (hH.mk b.g ⟨_,rfl,c.up (Dm.mono Ac Ac) (fun _ _ _=>trivial)⟩)
 refine au 4<|jS rfl rfl (fun ad=>?_) (fun ad=>?_)
 ·refine au 6<|lD (Gb H) rfl rfl<|jS rfl rfl (fun g=>?_) (fun g=>?_)
  ·refine au 4 ?_
   have v:_≤A.heap.size:=b.g.size
   have S:=E
   refine cX (kb _ _) ?_
   rintro _ bR bS bT ⟨k,rfl,w,T,y⟩
   have U:C≤k:=Ac
   have w:=Tq v Ac
   refine bD #[.int .i64 20,Zp,Zp,Zp,Zp,Zs,Zp,Zs,Zp,Zp,Zp,Zp,Zp,Zp,Zs,Pt k,Zl]<|bX rfl fun W ay bU X Y z=>au 9 ?_
   have hu:nN q=true:=pw (by rw[ad];decide)
   have hbs:n9 (decide (t=CH)) q=true:=by unfold n9;rw[ad,g];simp
   rw[show n4 _ q L=[40]++L++[41]from TU hbs]
   rw[show bx q L=L from TU hu]at c
   obtain⟨I,l,m⟩:=c.g.hf
   obtain⟨o,p⟩:=ng (w:=ay) (D:=Dm j d.heap.size ay.heap.size) (l.up (Dm.mono Ac Ac)) m (Tk ⟨Ac,Ac⟩) (Gb y)
   exact hD.ia rfl rfl (hH.mk b.g ⟨_,rfl,(oI (D:=Dm j d.heap.size ay.heap.size) (Tk ⟨Ac,Ac⟩) z o p).up (fun _ h=>h) (fun _ _ _=>trivial)⟩)
  refine au 10 ?_
  have hbs:n9 (decide (t=CH)) q=false:=by unfold n9;rw[Ti r,Ti B,Ti u,Ti g];simp
  rw[show n4 _ q L=bx q L from TI BH]
  exact hD.ia rfl rfl (hH.mk b.g ⟨_,rfl,c.up (Dm.mono Ac Ac) (fun _ _ _=>trivial)⟩)
 refine au 11 ?_
 have hbs:n9 (decide (t=CH)) q=false:=by unfold n9;rw[Ti r,Ti B,Ti u,Ti R,Ti Z,Ti aa,Ti ab,Ti ad];simp
 rw[show n4 _ q L=bx q L from TI BH]
 exact hD.ia rfl rfl (hH.mk b.g ⟨_,rfl,c.up (Dm.mono Ac Ac) (fun _ _ _=>trivial)⟩)
def tS(s:ByteArray):G:=(.mk ([.v (.int .i64 13),.v Zp,.v Zp,.v Zp,.v Zp,.v Zs,.v Zp,.v Zs,.p (.mk [.v (.string s),nS]),.v Zp,.v Zp,.v Zp,.v Zp,.v Zp,.v Zs,.v Zp]++[.l []]))
def tQ(g:G):G:=(.mk ([.v (.int .i64 20),.v Zp,.v Zp,.v Zp,.v Zp,.v Zs,.v Zp,.v Zs,.v Zp,.v Zp,.v Zp,.v Zp,.v Zp,.v Zp,.v Zs,.p g]++[.l []]))
theorem K5{s:ByteArray}(b:D m)(c:D k)(d:D nA)(f:w.heap[m]? =some (.cells (H4 k) 105 (0,0)))(ht:w.heap[k]? =some (.cells #[.int .i64 13,Zp,Zp,Zp,Zp,Zs,Zp,Zs,Pt nA,Zp,Zp,Zp,Zp,Zp,Zs,Zp,Zl] 125 (0,0)))(hs:w.heap[nA]? =some (.cells #[.string s,Zl] 166 (0,0))):HF w D (.p (ui (tS s))) (Pt m):=
 .ph b f (s8 (HF.ph c ht (HR.c (.cons .vv (.cons .vv (.cons .vv (.cons .vv (.cons .vv (.cons .vv (.cons .vv (.cons .vv (.cons (HF.ph d hs (HR.c (.cons .vv (.cons .vv .nil)))) (.cons .vv (.cons .vv (.cons .vv (.cons .vv (.cons .vv (.cons .vv (.cons .vv (.cons .l0 .nil))))))))))))))))))))
theorem B4(b:D m)(c:D k)(d:w.heap[m]? =some (.cells (H4 k) 105 (0,0)))(ht:w.heap[k]? =some (.cells #[.int .i64 20,Zp,Zp,Zp,Zp,Zs,Zp,Zs,Zp,Zp,Zp,Zp,Zp,Zp,Zs,v,Zl] 125 (0,0)))(f:HF w D (.p gH) v):HF w D (.p (ui (tQ gH))) (Pt m):=
 .ph b d (s8 (HF.ph c ht (HR.c (.cons .vv (.cons .vv (.cons .vv (.cons .vv (.cons .vv (.cons .vv (.cons .vv (.cons .vv (.cons .vv (.cons .vv (.cons .vv (.cons .vv (.cons .vv (.cons .vv (.cons .vv (.cons f (.cons .l0 .nil))))))))))))))))))))
theorem Dx{s:ByteArray}(b:Lib.validD s.data.toList):Pr 23 (ui (tS s)) (iS s.data.toList):=
 Pr.PZ (by have:=Pr.qT (fds:=[]) (ds:=[]) rfl oW (Pr.Nj (ss:=[]) (gs:=[]) (fun s h=>by cases h) rfl oW (by simp[qL]) (Pr.Fb b));simpa using this)
theorem Da(h:Pr 0 gH L):Pr 23 (ui (tQ gH)) (92::([40]++L++[41])):=
 Pr.Qj (by have:=Pr.qT (fds:=[]) (ds:=[]) rfl oW (Pr.hQ (ss:=[]) (gs:=[]) (fun s h=>by cases h) rfl oW h);simpa using this)
theorem MK{i:Nat}(hi:i<S.length)(ht:i<lJ.length):lj (S.drop i) (lJ.drop i)=iS S[i].data.toList++(92::([40]++lJ[i]++[41]))++lj (S.drop (i+1)) (lJ.drop (i+1)):=by
 rw[T6 hi,T6 ht]
 simp[lj]
theorem FX{ns:List ByteArray}{ts:List (List UInt8)}{i:Nat}(hi:i<ns.length)(ht:ts.length≤i)(b:ns.length=ts.length+1):lj (ns.drop i) (ts.drop i)=iS ns[i].data.toList++lj (ns.drop (i+1)) (ts.drop (i+1)):=by
 rw[T6 hi,Um ht,Um (l:=ns) Ac]
 simp[lj]
def NA(k:Nat)(gs:List G)(us:List (List UInt8)):Prop:=gs.length=us.length∧∀(j:Nat)(h1:j<gs.length)(h2:j<us.length),Pr k gs[j] us[j]
theorem NA.snoc(h:NA m gA lJ)(d:Pr m gH L):NA m (gA++[gH]) (lJ++[L]):=by
 refine⟨by simp[h.1],fun b h1 h2=>?_⟩
 have f:=h.1
 by_cases hj:b<gA.length
 ·have c:b<lJ.length:=by omega
  rw[TC hj,TC c];exact h.2 b hj c
 have g:b=gA.length:=by simp only[Tl,TG]at h1;omega
 subst g
 rw[Tz (Tv _),Tz Ac]
 simp only[f,UF,TF]
 exact d
abbrev G1(f:ByteArray)(bs:Nat):Array Value:=#[.int .i64 (if f=⟨#[]⟩then 13 else 12),Zp,Zp,Zp,Zp,Zs,Zp,.string f,Pt bs,Zp,Zp,Zp,Zp,Zp,Zs,Zp,Zl]
def Oh(f:ByteArray)(n:N)(t:List UInt8):Prop:=∀(w:World)(D0:Nat→Prop)(cs:Array Value),RN w D0 0 n cs→(∀c,D0 c→c<w.heap.size)→TB w→n.wt≤1048576→
 Calls Tryz.prog 66 #[.agg cs] w (hH w [] fun r w'=>∃b bs g,r=.tuple #[Pt b,.bool true]∧Dm D0 w.heap.size w'.heap.size b∧w'.heap[b]? =some (.cells (G1 f bs) 125 (0,0))∧HF w' (Dm D0 w.heap.size w'.heap.size) (.p g) (Pt bs)∧Pr 7 g t)
theorem rb{ks:List N}(b5:t=⟨#[]⟩∨t∈ri)(c6:S.length=ks.length+1)(a1:∀s∈S,Lib.validD s.data.toList=true)(hl:ks.length=lJ.length)(bd:∀(i:Nat)(h1:i<ks.length)(h2:i<lJ.length),CQ ks[i] lJ[i]):Oh t (.mk Cp t V0 S ks [] []) ([34]++lj S lJ++[34]):=by
 intro a2 D ae af hD0 be hw
 obtain⟨c7,c8,c9,b6,cA,cB,cC,cD,cE,cF,cG,cH,cI,cJ,rfl⟩:=af.hI
 obtain⟨cK,cL,cM,cN,cO,cP⟩:=af.hV
 have cQ:N.h9 ks≤1048576:=by simp only[N.wt]at hw;omega
 have hlen:=N.iw ks
 obtain⟨bf,bg,b7,cR,b8,cS⟩:=af.name (i:=0) Ac
 subst b7
 refine cY Tryz.func66 fun b=>ac 2<|bX rfl fun r bh cT bi ag j=>have bi:=Tq b.size bi;au 3 ?_
 have bj:=Fr.refl [] bh
 refine DC.lG (σ:=Unit) (fun _=>[(1,Pt r)]) (fun b9 Q=>Fr [] bh Q∧(fun _ Q=>True) b9 Q) ?_ ?_
 ·refine ac 3<|lD j rfl rfl<|au 2<|lD j rfl rfl<|au 1<|ai ((ks.length+1:Nat):Int) rfl rfl<|DL.y rfl rfl (Y.yL (c:=false) rfl rfl (Ti Ac))<|au 2<|lD j rfl rfl<|DL.u5 rfl rfl (Y.vK rfl rfl) (fun bk=>?_) (fun bk=>?_)
  ·have hs:t∈ri:=b5.resolve_left (fun h=>by subst h;exact Tu bk Ah)
   refine au 2<|lD j rfl rfl<|cX (mw _ hs _) ?_
   rintro _ cU cV cW rfl
   exact au 6 ⟨(),rfl,bj.g,trivial⟩
  exact au 10 ⟨(),rfl,bj,trivial⟩
 rintro _ bA cZ ⟨a7,_⟩
 have b:=b.g.jP a7
 have j:=a7.il j
 have ag:=Tj ag a7.size
 refine ac 3<|lD j rfl rfl<|iX F.ku (by show 0<S.length;omega) rfl rfl rfl<|lC (b.cell b8 Al) rfl ?_
 have bB:=b.size
 have da:=ag
 refine cX (mC _ _) ?_
 rintro _ db dc dd ⟨o,rfl,bl,a8,bm⟩
 have de:r<o:=Ac
 have bl:=Tq bB bl
 refine au 6<|lD (Gb j) rfl rfl<|au 1<|jG rfl rfl (fun bC=>?_) (fun bC=>?_)
 ·refine au 4<|bD #[Zs,Zl]<|bX rfl fun k bn df bo R g=>have dg:r<k:=Ac;have dh:o<k:=Ac;have bo:=Tq b.g.size bo;au 5<|lD (Gb j) rfl rfl<|au 4 ?_
  obtain⟨C,a9,bE⟩:=nl bn
  have di:k<C:=by rw[a9];exact R
  have dj:r<C:=by rw[a9];exact Ac
  have dk:=b.g.le a9
  refine lE [k] bn (σ:=Nat×List G×List (List UInt8)×Value×List Value×Nat) [(2,3),(5,8),(42,92)] [(1,Pt r),(4,Pt k),(40,.slice (some ⟨bf,bg,none⟩) S.length b6),(41,.int .i64 (S.length:Int))] (fun(i,E,y,K,ps,c)=>[(42,.int .i64 (i:Int))]) (fun(i,E,y,K,ps,c) Q=>i≤S.length∧y.length≤2*i∧(0<i→0<ks.length→0<E.length)∧y.flatten++lj (S.drop i) (lJ.drop i)=lj S lJ∧Q.heap[k]? =some (.cells #[Zs,K] 166 (0,0))∧js Q D 46 C c E K ps∧C≤c∧c≤Q.heap.size∧NA 23 E y) (fun(i,E,y,K,ps,c)=>S.length - i) ((0,[],[],Zl,[],C)) ?_ ?_
  ·exact⟨Fr.refl _ _,TE _,Tv _,(fun h=>Tu h Ah),rfl,g,js.nil _ _ _ _ _,Tv _,bE,⟨rfl,fun bF h=>by simp at h⟩⟩
  rintro bA ⟨i,E,y,K,ps,c⟩ bF bp ⟨ak,dl,dm,aA,hfl,g,d,H,p,L⟩
  have b:=b.g.oR ak Ac
  have j:=ak.jK (Gb j) Ac
  have dn:=ak.size
  have R:=Tj R ak.size
  have u:=ak
  have a3:=Fr.refl [k] bp
  have dp:=L.1
  refine ac 2<|jX rfl rfl (fun bG=>?_) (fun bG=>?_)
  ·have hi:i<S.length:=by omega
   obtain⟨bH,bI,bJ,dq,bK,dr⟩:=af.name (i:=i) hi
   obtain⟨rfl,rfl⟩:bH=bf∧bI=bg:=by cases bJ;exact⟨rfl,rfl⟩
   refine au 9<|iX F.ku (hi) rfl rfl rfl<|lC (b.cell bK Al) rfl<|au 7<|DL.u5 rfl rfl (Y.vK rfl rfl) (fun aB=>?_) (fun aB=>?_)
   ·refine au 2<|dR [] 11 fun bL ds dt q=>aG [0,1,2,3]<|DG.take 4 rfl Au Au Au Au Au rfl rfl (fun al am=>Y.hY F.Eu rfl (am.il (Gb g)) rfl)<|aG [5]<|gp 6 ?_
    have bM:_≤bL.heap.size:=b.g.size
    have du:=ag
    have dv:=a8
    have dw:=R
    have dx:=p
    refine cX (mC _ _) ?_
    rintro _ dy dz d0 ⟨P,rfl,bq,bN,bO⟩
    have d1:r<P:=Ac
    have d2:o<P:=Ac
    have d4:k<P:=Ac
    have d5:c≤P:=Ac
    have bq:=Tq bM bq
    refine gn q.g<|gf 7 rfl (fun al=>Y.build (cs:=#[.int .i64 13,Zp,Zp,Zp,Zp,Zs,Zp,Zs,Pt P,Zp,Zp,Zp,Zp,Zp,Zs,Zp,Zl]) Au)<|gp 8<|bX rfl fun T bP d6 an bQ bR=>have d7:r<T:=Ac;have d8:o<T:=Ac;have d9:k<T:=Ac;have dA:c≤T:=Ac;have dB:P<T:=Ac;have dC:=Tq u.g.size an;have dD:=Tq a3.g.size an;have dE:=Tq q.g.size an;have an:=Tq b.g.size an;gn q.g<|gp 9 ?_
    have bS:_≤bP.heap.size:=b.g.size
    have dF:=ag
    have dG:=a8
    have dH:=R
    have dI:=p
    have dJ:=bN
    have dK:=bQ
    refine cX (kb _ _) ?_
    rintro _ dL dM dN ⟨M,rfl,br,dO,bT⟩
    have dP:r<M:=Ac
    have dQ:o<M:=Ac
    have dS:k<M:=Ac
    have dT:c≤M:=Ac
    have dU:P<M:=Ac
    have dV:T<M:=Ac
    have br:=Tq bS br
    refine gn q.g<|gp 10<|DL.iu (cs:=#[Pt M]) rfl rfl (F.pF) rfl rfl rfl fun U bs bt ao dW bU=>have bt:=Sp.mk bt;have dX:r<U:=Ac;have dY:o<U:=Ac;have dZ:k<U:=Ac;have ea:c≤U:=Ac;have eb:P<U:=Ac;have ec:T<U:=Ac;have ed:M<U:=Ac;have ee:=Tq u.g.size ao;have ef:=Tq a3.g.size ao;have eg:=Tq q.g.size ao;have ao:=Tq b.g.size ao;gn q.g<|gp 11 ?_
    have ap:HF bs (fun f=>D f∨(c≤f∧f<bs.heap.size)) (.p (ui (tS S[i]))) (Pt M):=
     K5 (Tk ⟨Ac,Ac⟩) (Tk ⟨Ac,Ac⟩) (Tk ⟨Ac,Ac⟩) (Gb bT) (Gb bR) (Gb bO)
    refine DL.hJ rfl rfl F.pF rfl rfl d.g.own (hB.hE bU) rfl AQ A2 A2 Ac ?_
    intro aC aD ah aq ar
    have bu:c≤aD.heap.size:=by have:=ah.size;omega
    have hlo':∀x∈hX K,C≤x:=fun x m=>(ik d.g.own x m).1
    have bv:∀x∈hX K,x<c:=fun x m=>d.lt x (hF.1 m)
    have d:=d.g.snoc Ac H (fun f hc=>by have:=hD0 f hc;omega) ap ah aq ar
    have b:=b.g.put ah (fun x hx=>Tk A9)
    have u:=u.g.put ah (fun x hx=>Tk A9)
    have j:=ah.hO (Gb j) (fun m=>by have:=hlo' _ m;omega)
    have g:=ah.hO (Gb g) (fun m=>by have:=hlo' _ m;omega)
    clear p
    have p:=Tv aD.heap.size
    obtain⟨c,av,p⟩:=nl aD
    rw[←av]at d
    have H:C≤c:=by omega
    clear p
    refine gl<|aG [12,13]<|gp 14<|sc g rfl rfl d.one rfl fun bV eh ei g=>gl<|gD<|ac 4<|lD (Gb j) rfl rfl<|au 1<|jX rfl rfl (fun aE=>?_) (fun aE=>?_)
    ·have O:i<ks.length:=by omega
     have hit:i<lJ.length:=by omega
     obtain⟨bW,bY,bZ,aF,ca,aH,aI,aJ⟩:=af.kF (i:=i) O
     subst aF
     have cb:=N.iP (l:=ks) O
     refine au 5<|lD (Gb j) rfl rfl<|au 1<|iX F.iI (O) rfl rfl rfl<|lA (aH.fr b.g Al) aI rfl ?_
     obtain⟨aj,z⟩:=nm bV
     have cc:=b.g.le z
     have cd:c≤aj:=by rw[z];exact Ac
     refine cX ((bd i O hit) _ D _ (aJ.fr b.g Az) (fun f hc=>Tj (hD0 f hc) b.g.size) (be.at b.g) Ac) ?_
     rintro _ ce ej ek ⟨aK,rfl,aw,aL,aM⟩
     obtain⟨aN,ax,aO⟩:=aM.hf (Tk ⟨aw,aL⟩)
     obtain⟨W,aP,aQ⟩:=nl ce
     rw[←z,←aP]at ax
     rw[←z]at aw
     refine au 14<|dR [] 10 fun el em en q=>aG [0,1,2,3]<|DG.take 4 rfl Au Au Au Au Au rfl rfl (fun al am=>Y.hY F.Eu rfl (am.il (Gb g)) rfl)<|aG [5]<|gf 6 rfl (fun al=>Y.build (cs:=#[.int .i64 20,Zp,Zp,Zp,Zp,Zs,Zp,Zs,Zp,Zp,Zp,Zp,Zp,Zp,Zs,Pt aK,Zl]) Au)<|gp 7<|bX rfl fun A cf eo I aR aS=>have cg:c≤A:=Ac;have ch:W≤A:=Ac;have ci:=Tq u.g.size I;have cj:=Tq q.size I;have I:=Tq b.g.size I;gn q.g<|gp 8 ?_
     have aT:_≤cf.heap.size:=b.g.size
     have ck:=p
     have cl:=aQ
     have cm:=aR
     refine cX (kb _ _) ?_
     rintro _ ep eq er ⟨v,rfl,ay,cn,aU⟩
     have co:c≤v:=Ac
     have cp:W≤v:=Ac
     have cq:A<v:=Ac
     have ay:=Tq aT ay
     refine gn q.g<|gp 9<|DL.iu (cs:=#[Pt v]) rfl rfl (F.pF) rfl rfl rfl fun B bw bx J cr aV=>have bx:=Sp.mk bx;have cs:c≤B:=Ac;have ct:W≤B:=Ac;have cu:A<B:=Ac;have cv:v<B:=Ac;have cw:=Tq u.g.size J;have cx:=Tq q.g.size J;have J:=Tq b.g.size J;gn q.g<|gp 10 ?_
     have ap:HF bw (fun f=>D f∨(c≤f∧f<bw.heap.size)) (.p (ui (tQ aN))) (Pt v):=
      B4 (Tk ⟨Ac,Ac⟩) (Tk ⟨Ac,Ac⟩) (Gb aU) (Gb aS) (ax.g.up oZ)
     refine DL.hJ rfl rfl F.pF rfl rfl d.g.own (hB.hE aV) rfl AQ A2 A2 Ac ?_
     intro es aW a4 aq ar
     have bu:c≤aW.heap.size:=by have:=a4.size;omega
     have hlo':∀x∈hX aC,C≤x:=fun x m=>(ik d.g.own x m).1
     have bv:∀x∈hX aC,x<c:=fun x m=>d.lt x (hF.1 m)
     have d:=d.g.snoc Ac H (fun f hc=>by have:=hD0 f hc;omega) ap a4 aq ar
     have u:=u.g.put a4 (fun x hx=>Tk A9)
     have g:=a4.hO (Gb g) (fun m=>by have:=hlo' _ m;omega)
     clear p
     have p:=Tv aW.heap.size
     obtain⟨c,av,p⟩:=nl aW
     rw[←av]at d
     have H:C≤c:=by omega
     clear p
     refine gl<|aG [11,12]<|gp 13<|sc g rfl rfl d.one rfl fun et eu ev g=>gl<|gD<|ac 1<|ai ((i+1:Nat):Int) rfl rfl<|au 2 ?_
     refine⟨(i+1,_,y++[iS S[i].data.toList]++[92::([40]++lJ[i]++[41])],_,_,_),⟨u.g,hi,?_,?_,?_,g,d.g,H,Ac,((L.snoc (Dx (a1 _ (T2 hi)))).snoc (Da aO))⟩,by show S.length - (i+1)<S.length - i;omega,rfl⟩
     ·first|omega|(simp only[Tl,TG];omega)
     ·intro _ _;simp
     rw[←hfl,MK hi hit];first|(simp;done)|simp
    refine au 4<|ai ((i+1:Nat):Int) rfl rfl<|au 2 ?_
    refine⟨(i+1,_,y++[iS S[i].data.toList],_,_,_),⟨u.g,hi,?_,?_,?_,g,d.g,H,Ac,(L.snoc (Dx (a1 _ (T2 hi))))⟩,by show S.length - (i+1)<S.length - i;omega,rfl⟩
    ·first|omega|(simp only[Tl,TG];omega)
    ·intro _ _;simp
    rw[←hfl,FX hi Ac Ac];first|(simp;done)|simp
   have a5:iS S[i].data.toList=[]:=by have:S[i]=(⟨#[]⟩:ByteArray):=by{cases h:decide (S[i]=(⟨#[]⟩:ByteArray));(rw[h]at aB;cases aB);exact T5 h};rw[this];rfl
   refine au 7<|lD j rfl rfl<|au 1<|jX rfl rfl (fun aE=>?_) (fun aE=>?_)
   ·have O:i<ks.length:=by omega
    have hit:i<lJ.length:=by omega
    obtain⟨bW,bY,bZ,aF,ca,aH,aI,aJ⟩:=af.kF (i:=i) O
    subst aF
    have cb:=N.iP (l:=ks) O
    refine au 5<|lD j rfl rfl<|au 1<|iX F.iI (O) rfl rfl rfl<|lA (aH.fr b Al) aI rfl ?_
    obtain⟨aj,z⟩:=nm bp
    have cc:=b.le z
    have ew:r<aj:=by rw[z];exact Ac
    have ex:o<aj:=by rw[z];exact Ac
    have ey:k<aj:=by rw[z];exact R
    have cd:c≤aj:=by rw[z];exact p
    refine cX ((bd i O hit) _ D _ (aJ.fr b Az) (fun f hc=>Tj (hD0 f hc) b.size) (be.at b) Ac) ?_
    rintro _ cy ez e0 ⟨aK,rfl,aw,aL,aM⟩
    obtain⟨aN,ax,aO⟩:=aM.hf (Tk ⟨aw,aL⟩)
    obtain⟨W,aP,aQ⟩:=nl cy
    rw[←z,←aP]at ax
    rw[←z]at aw
    refine au 14<|dR [] 10 fun e1 e2 e3 q=>aG [0,1,2,3]<|DG.take 4 rfl Au Au Au Au Au rfl rfl (fun al am=>Y.hY F.Eu rfl (am.il (Gb g)) rfl)<|aG [5]<|gf 6 rfl (fun al=>Y.build (cs:=#[.int .i64 20,Zp,Zp,Zp,Zp,Zs,Zp,Zs,Zp,Zp,Zp,Zp,Zp,Zp,Zs,Pt aK,Zl]) Au)<|gp 7<|bX rfl fun A cz e4 I aR aS=>have e5:r<A:=Ac;have e6:o<A:=Ac;have e7:k<A:=Ac;have cg:c≤A:=Ac;have ch:W≤A:=Ac;have ci:=Tq u.g.size I;have e8:=Tq a3.g.size I;have cj:=Tq q.size I;have I:=Tq b.g.size I;gn q.g<|gp 8 ?_
    have aT:_≤cz.heap.size:=b.g.size
    have e9:=ag
    have eA:=a8
    have eB:=R
    have ck:=p
    have cl:=aQ
    have cm:=aR
    refine cX (kb _ _) ?_
    rintro _ eC eD eE ⟨v,rfl,ay,cn,aU⟩
    have eF:r<v:=Ac
    have eG:o<v:=Ac
    have eH:k<v:=Ac
    have co:c≤v:=Ac
    have cp:W≤v:=Ac
    have cq:A<v:=Ac
    have ay:=Tq aT ay
    refine gn q.g<|gp 9<|DL.iu (cs:=#[Pt v]) rfl rfl (F.pF) rfl rfl rfl fun B bz b0 J cr aV=>have b0:=Sp.mk b0;have eI:r<B:=Ac;have eJ:o<B:=Ac;have eK:k<B:=Ac;have cs:c≤B:=Ac;have ct:W≤B:=Ac;have cu:A<B:=Ac;have cv:v<B:=Ac;have cw:=Tq u.g.size J;have eL:=Tq a3.g.size J;have cx:=Tq q.g.size J;have J:=Tq b.g.size J;gn q.g<|gp 10 ?_
    have ap:HF bz (fun f=>D f∨(c≤f∧f<bz.heap.size)) (.p (ui (tQ aN))) (Pt v):=
     B4 (Tk ⟨Ac,Ac⟩) (Tk ⟨Ac,Ac⟩) (Gb aU) (Gb aS) (ax.g.up oZ)
    refine DL.hJ rfl rfl F.pF rfl rfl d.g.own (hB.hE aV) rfl AQ A2 A2 Ac ?_
    intro aC aX a6 aq ar
    have bu:c≤aX.heap.size:=by have:=a6.size;omega
    have hlo':∀x∈hX K,C≤x:=fun x m=>(ik d.g.own x m).1
    have bv:∀x∈hX K,x<c:=fun x m=>d.lt x (hF.1 m)
    have d:=d.g.snoc Ac H (fun f hc=>by have:=hD0 f hc;omega) ap a6 aq ar
    have u:=u.g.put a6 (fun x hx=>Tk A9)
    have g:=a6.hO (Gb g) (fun m=>by have:=hlo' _ m;omega)
    clear p
    have p:=Tv aX.heap.size
    obtain⟨c,av,p⟩:=nl aX
    rw[←av]at d
    have H:C≤c:=by omega
    clear p
    refine gl<|aG [11,12]<|gp 13<|sc g rfl rfl d.one rfl fun eM eN eO g=>gl<|gD<|ac 1<|ai ((i+1:Nat):Int) rfl rfl<|au 2 ?_
    refine⟨(i+1,_,y++[92::([40]++lJ[i]++[41])],_,_,_),⟨u.g,hi,?_,?_,?_,g,d.g,H,Ac,(L.snoc (Da aO))⟩,by show S.length - (i+1)<S.length - i;omega,rfl⟩
    ·first|omega|(simp only[Tl,TG];omega)
    ·intro _ _;simp
    rw[←hfl,MK hi hit];first|(simp[a5];done)|simp[a5]
   refine au 4<|ai ((i+1:Nat):Int) rfl rfl<|au 2 ?_
   refine⟨(i+1,_,y,_,_,_),⟨u,hi,?_,?_,?_,g,d,H,p,L⟩,by show S.length - (i+1)<S.length - i;omega,rfl⟩
   ·first|omega|(simp only[Tl,TG];omega)
   ·intro _ h;exact aA Ac h
   rw[←hfl,FX hi Ac Ac];first|(simp[a5];done)|simp[a5]
  refine au 4<|ac 4<|lD j rfl rfl<|DL.u5 rfl rfl (Y.vK rfl rfl) (fun w=>?_) (fun w=>?_)
  ·refine au 5<|lD j rfl rfl<|au 1<|bD #[.int .i64 12,Zp,Zp,Zp,Zp,Zs,Zp,.string t,Pt k,Zp,Zp,Zp,Zp,Zp,Zs,Zp,Zl]<|bX rfl fun X b1 eP az c0 aY=>have c1:r<X:=Ac;have c2:o<X:=Ac;have eQ:k<X:=Ac;have eR:c≤X:=Ac;have az:=Tq b.size az;au 4 ?_
   have aZ:i=S.length:=by omega
   obtain⟨a,f,rfl,hL⟩:=d.g.done
   have ba:y.flatten=lj S lJ:=by rw[←hfl,aZ,Um (Tv _),lj,T3]
   have Z:HF b1 (Dm D a2.heap.size b1.heap.size) (.p (.mk [.v Zs,.l E])) (Pt k):=HF.ph (Tk ⟨Ac,Ac⟩) (Gb g) (HR.c (.cons .vv (.cons (.lh (hL.up oZ)) .nil)))
   have aa:Pr 7 (.mk [.v Zs,.l E]) ([34]++lj S lJ++[34]):=by rw[←ba];exact Pr.O0 (aA Ac Ac) Ac L.1 L.2
   have ab:(if t=(⟨#[]⟩:ByteArray)then 13 else 12:Int)=12:=TI (fun h=>by subst h;exact Tu w Ah)
   refine hD.ia rfl rfl (hH.mk b.g ⟨_,_,_,rfl,(Tk ⟨Ac,Ac⟩),?_,Z,aa⟩)
   simp only[G1,ab];exact aY
  refine au 6<|bD #[.int .i64 13,Zp,Zp,Zp,Zp,Zs,Zp,Zs,Pt k,Zp,Zp,Zp,Zp,Zp,Zs,Zp,Zl]<|bX rfl fun ad b2 eS a0 c3 bb=>have c4:r<ad:=Ac;have c5:o<ad:=Ac;have eT:k<ad:=Ac;have eU:c≤ad:=Ac;have a0:=Tq b.size a0;au 4 ?_
  have aZ:i=S.length:=by omega
  obtain⟨a,f,rfl,hL⟩:=d.g.done
  have ba:y.flatten=lj S lJ:=by rw[←hfl,aZ,Um (Tv _),lj,T3]
  have Z:HF b2 (Dm D a2.heap.size b2.heap.size) (.p (.mk [.v Zs,.l E])) (Pt k):=HF.ph (Tk ⟨Ac,Ac⟩) (Gb g) (HR.c (.cons .vv (.cons (.lh (hL.up oZ)) .nil)))
  have aa:Pr 7 (.mk [.v Zs,.l E]) ([34]++lj S lJ++[34]):=by rw[←ba];exact Pr.O0 (aA Ac Ac) Ac L.1 L.2
  have ab:(if t=(⟨#[]⟩:ByteArray)then 13 else 12:Int)=13:=TU (by cases h:decide (t=(⟨#[]⟩:ByteArray));(rw[h]at w;cases w);exact T5 h)
  have bc:t=(⟨#[]⟩:ByteArray):=by cases h:decide (t=(⟨#[]⟩:ByteArray));(rw[h]at w;cases w);exact T5 h
  refine hD.ia rfl rfl (hH.mk b.g ⟨_,_,_,rfl,(Tk ⟨Ac,Ac⟩),?_,Z,aa⟩)
  subst bc;simp only[G1,ab];exact bb
 refine au 7<|lD (Gb j) rfl rfl<|DL.u5 rfl rfl (Y.vK rfl rfl) (fun w=>?_) (fun w=>?_)
 ·refine au 5<|lD (Gb j) rfl rfl<|au 1<|bD #[.int .i64 12,Zp,Zp,Zp,Zp,Zs,Zp,.string t,Pt o,Zp,Zp,Zp,Zp,Zp,Zs,Zp,Zl]<|bX rfl fun X b3 eV az c0 aY=>have c1:r<X:=Ac;have c2:o<X:=Ac;have az:=Tq b.g.size az;au 4 ?_
  have Z:HF b3 (Dm D a2.heap.size b3.heap.size) (.p (.mk [.v (.string S[0]),nS])) (Pt o):=HF.ph (Tk ⟨Ac,Ac⟩) (Gb bm) (HR.c (.cons .vv (.cons .vv .nil)))
  have aa:Pr 7 (.mk [.v (.string S[0]),nS]) ([34]++lj S lJ++[34]):=by
   have h1:lj S lJ=iS S[0].data.toList:=by have:=FX (ns:=S) (ts:=lJ) (i:=0) Ac Ac Ac;rw[Um (l:=S) (i:=0+1) Ac]at this;simpa[lj]using this
   rw[h1];exact Pr.Fb (a1 _ (T2 Ac))
  have ab:(if t=(⟨#[]⟩:ByteArray)then 13 else 12:Int)=12:=TI (fun h=>by subst h;exact Tu w Ah)
  refine hD.ia rfl rfl (hH.mk b.g ⟨_,_,_,rfl,(Tk ⟨Ac,Ac⟩),?_,Z,aa⟩)
  simp only[G1,ab];exact aY
 refine au 6<|bD #[.int .i64 13,Zp,Zp,Zp,Zp,Zs,Zp,Zs,Pt o,Zp,Zp,Zp,Zp,Zp,Zs,Zp,Zl]<|bX rfl fun ad b4 eW a0 c3 bb=>have c4:r<ad:=Ac;have c5:o<ad:=Ac;have a0:=Tq b.g.size a0;au 4 ?_
 have Z:HF b4 (Dm D a2.heap.size b4.heap.size) (.p (.mk [.v (.string S[0]),nS])) (Pt o):=HF.ph (Tk ⟨Ac,Ac⟩) (Gb bm) (HR.c (.cons .vv (.cons .vv .nil)))
 have aa:Pr 7 (.mk [.v (.string S[0]),nS]) ([34]++lj S lJ++[34]):=by
  have h1:lj S lJ=iS S[0].data.toList:=by have:=FX (ns:=S) (ts:=lJ) (i:=0) Ac Ac Ac;rw[Um (l:=S) (i:=0+1) Ac]at this;simpa[lj]using this
  rw[h1];exact Pr.Fb (a1 _ (T2 Ac))
 have ab:(if t=(⟨#[]⟩:ByteArray)then 13 else 12:Int)=13:=TU (by cases h:decide (t=(⟨#[]⟩:ByteArray));(rw[h]at w;cases w);exact T5 h)
 have bc:t=(⟨#[]⟩:ByteArray):=by cases h:decide (t=(⟨#[]⟩:ByteArray));(rw[h]at w;cases w);exact T5 h
 refine hD.ia rfl rfl (hH.mk b.g ⟨_,_,_,rfl,(Tk ⟨Ac,Ac⟩),?_,Z,aa⟩)
 subst bc;simp only[G1,ab];exact bb
def Mx(n:N)(t:List UInt8):Prop:=∀(w:World)(D0:Nat→Prop)(cs:Array Value),RN w D0 0 n cs→(∀c,D0 c→c<w.heap.size)→TB w→n.wt≤1048576→
 Calls Tryz.prog 121 #[.agg cs] w (hH w [] fun r w'=>∃b g,r=.tuple #[Pt b,.bool true]∧HF w' (Dm D0 w.heap.size w'.heap.size) (.p g) (Pt b)∧Pr 9 g t)
theorem J5{s:ByteArray}(h:j3 w D (.mk 4 0 s [] [] []) #[v,vA,u,vB,vC,vD]):v=.int .i64 4∧u=.string s∧s.size≤140737488351232:=by
 cases h with
 |mk b c hk d ht f g j ks hl k l m o=>exact⟨rfl,rfl,ht⟩
def H9(k v:N)(t:List UInt8):Prop:=(iz v=Cn∧Mx k t)∨(iz v≠Cn∧∃tk tv,CQ k tk∧NO v tv∧t=[40]++tk++[41]++[58,32]++tv)
theorem yY{s:ByteArray}(hs:jI s.data.toList):Mx (mu s) (36::s.data.toList):=by
 intro u v l j hD0 w hw
 obtain⟨y,z,A,B,C,D,E,F,G,H,I,J,K,L,rfl⟩:=j.hI
 obtain⟨M,O,P,Q,R,S⟩:=j.hV
 refine cY Tryz.func121 fun k=>ac 2<|bX rfl fun T U W X Z f=>au 8<|lD f rfl rfl<|au 5<|dF fun aa m ab d=>have ad:=m.size;aK [0]<|kL 1 (Gb f) rfl rfl rfl<|kT 2 rfl (fun o p=>Y.cat (a:=Cx) (b:=s) rfl rfl A0)<|kT 3 rfl (fun o p=>Y.build (cs:=#[.string (Cx++s),Zp,Zp,Zp]) Au)<|aK [5]<|kL 6 (Gb f) rfl rfl rfl<|kQ 4 7 ?_ ?_
 ·refine bX rfl fun q ae af r t g=>kN d.g<|kP 7<|cX (ig _ Ac _) ?_
  rintro _ ag ah ai rfl
  rw[hs]
  refine kN d.g<|aK [8,9]<|kD<|ac 1 ?_
  have c:=Pr.NP (j0 s)
  rw[jO]at c
  exact hD.ia rfl rfl (hH.mk k.g ⟨_,_,rfl,HF.ph (Tk ⟨Ac,Ac⟩) (Gb g) (HR.c (.cons .vv (.cons .vv (.cons .vv (.cons .vv .nil))))),c⟩)
 refine cX (ig _ Ac _) ?_
 rintro _ aj ak al rfl
 rw[hs]
 refine kN d.g<|kP 4<|bX rfl fun q am an r t g=>kN d.g<|aK [8,9]<|kD<|ac 1 ?_
 have c:=Pr.NP (j0 s)
 rw[jO]at c
 exact hD.ia rfl rfl (hH.mk k.g ⟨_,_,rfl,HF.ph (Tk ⟨Ac,Ac⟩) g (HR.c (.cons .vv (.cons .vv (.cons .vv (.cons .vv .nil))))),c⟩)
theorem Fj{s:ByteArray}(hs:jI s.data.toList):Mx (jk s) (s.data.toList):=by
 intro g j k c hD0 l hw
 obtain⟨m,o,p,q,r,t,u,v,w,y,z,A,B,C,rfl⟩:=c.hI
 obtain⟨D,E,F,G,H,I⟩:=c.hV
 obtain⟨rfl,rfl,J⟩:=J5 c.oM
 refine cY Tryz.func121 fun d=>ac 2<|bX rfl fun K L M O P b=>au 8<|lD b rfl rfl<|au 7<|lD b rfl rfl<|au 4<|lD b rfl rfl<|au 5<|lD b rfl rfl<|cX (ig _ Ac _) ?_
 rintro _ Q R S rfl
 rw[hs]
 exact au 8<|lD (Gb b) rfl rfl<|bD #[.string s,Zp,Zp,Zp]<|bX rfl fun T U W X Y f=>au 4<|hD.ia rfl rfl (hH.mk d.g ⟨_,_,rfl,HF.ph (Tk ⟨Ac,Ac⟩) f (HR.c (.cons .vv (.cons .vv (.cons .vv (.cons .vv .nil))))),Pr.NP (oE hs)⟩)
theorem HC{s:ByteArray}(hs:jI s.data.toList=false)(o:Lib.validD s.data.toList):Mx (jk s) (qL s.data.toList):=by
 intro v w y d hD0 z hw
 obtain⟨A,B,C,D,E,F,G,H,I,J,K,L,M,O,rfl⟩:=d.hI
 obtain⟨P,Q,R,S,T,U⟩:=d.hV
 obtain⟨rfl,rfl,W⟩:=J5 d.oM
 refine cY Tryz.func121 fun c=>ac 2<|bX rfl fun g X Y j p b=>have j:=Tq c.size j;au 8<|lD b rfl rfl<|au 7<|lD b rfl rfl<|au 4<|lD b rfl rfl<|au 5<|lD b rfl rfl<|cX (ig _ Ac _) ?_
 rintro _ q Z aa rfl
 rw[hs]
 refine au 7<|lD (Gb b) rfl rfl<|au 4<|lD (Gb b) rfl rfl<|au 9<|lD (Gb b) rfl rfl ?_
 have r:_≤q.heap.size:=c.g.size
 have ab:=p
 refine cX (mC _ _) ?_
 rintro _ ad ae af ⟨f,rfl,k,ag,t⟩
 have ah:g<f:=Ac
 have k:=Tq r k
 exact bD #[Zs,Pt f,Zp,Zp]<|bX rfl fun l ai aj m ak u=>have al:g<l:=Ac;have am:f<l:=Ac;have m:=Tq c.g.size m;au 4<|hD.ia rfl rfl (hH.mk c.g ⟨_,_,rfl,HF.ph (Tk ⟨Ac,Ac⟩) u (HR.c (.cons .vv (.cons (HF.ph (Tk ⟨Ac,Ac⟩) (Gb t) (HR.c (.cons .vv (.cons .vv .nil)))) (.cons .vv (.cons .vv .nil))))),Pr.N9 (.Fb o)⟩)
theorem yK{ks:List N}(k:Oh ⟨#[]⟩ (.mk Cp ⟨#[]⟩ V0 S ks [] []) L):Mx (.mk Cp ⟨#[]⟩ V0 S ks [] []) L:=by
 intro w l y d hD0 m hw
 obtain⟨z,A,B,C,D,E,F,G,H,I,J,K,M,O,rfl⟩:=d.hI
 obtain⟨P,Q,R,T,U,W⟩:=d.hV
 refine cY Tryz.func121 fun c=>ac 2<|bX rfl fun X o Y Z aa b=>au 8<|lD b rfl rfl<|au 7<|lD b rfl rfl<|au 19<|lD b rfl rfl<|au 13<|lD b rfl rfl<|au 1<|au 2<|lD b rfl rfl<|au 7<|lw b rfl rfl ?_
 obtain⟨ab,f⟩:=nm o
 have ad:=c.g.le f
 refine cX (k _ l _ (d.fr c.g Az) (fun p hc=>Tj (hD0 p hc) c.g.size) (m.at c.g) hw) ?_
 rintro _ q ae af ⟨ag,r,ah,rfl,ai,g,j,t⟩
 obtain⟨aj,u,ak⟩:=nl q
 rw[←f,←u]at j
 simp only[G1,TU]at g
 exact au 19<|lD g rfl rfl<|bD #[Zs,Pt r,Zp,Zp]<|bX rfl fun al am an ao ap v=>au 4<|hD.ia rfl rfl (hH.mk c.g ⟨_,_,rfl,HF.ph (Tk ⟨Ac,Ac⟩) v (HR.c (.cons .vv (.cons (j.g.up (Dm.mono Ac Ac)) (.cons .vv (.cons .vv .nil))))),Pr.N9 t⟩)
theorem u9{ks:List N}(hl:ks.length=2*lJ.length)(a1:∀(i:Nat)(h1:2*i+1<ks.length)(h2:i<lJ.length),H9 (ks[2*i]'(TW h1)) ks[2*i+1] lJ[i]):km 99 (.mk Cm ⟨#[]⟩ V0 [] ks [] []) (if lJ=[]then[123,125]else[123,32]++ih [44,32] lJ++[32,125]) (kr (.mk Cm ⟨#[]⟩ V0 [] ks [] [])):=by
 intro ae p af y hD0 K hw
 obtain⟨bk,bl,bm,bn,bo,bp,bq,br,bs,bt,bu,bv,bw,bx,rfl⟩:=y.hI
 obtain⟨bz,b0,b1,b2,b3,b4⟩:=y.hV
 have b5:N.h9 ks≤1048576:=by simp only[N.wt]at hw;omega
 have hlen:=N.iw ks
 refine cY Tryz.func99 fun b=>ac 2<|bX rfl fun ag b6 b7 b8 b9 q=>au 7<|lD q rfl rfl<|au 1<|DL.y rfl rfl (Y.rem rfl rfl Ah)<|DL.y rfl rfl (Y.yL (c:=false) rfl rfl (by rw[show((ks.length:Nat):Int).tmod 2=((ks.length%2:Nat):Int)from H8 ks.length 2 Ah];exact Ti Ac))<|au 5<|bD #[Zl]<|bX rfl fun r ah bA bB bC d=>au 8 ?_
 obtain⟨t,L,a2⟩:=nl ah
 have bE:ag<t:=by rw[L];exact Ac
 have bF:r<t:=by rw[L];exact Ac
 have bG:=d
 have bH:=b.g.le L
 refine lE [r] ah (σ:=Nat×List G×Value×List Value×Nat) [(2,3),(5,11),(19,92)] [(1,Pt ag),(4,Pt r)] (fun(i,f,o,ps,j)=>[(5,.int .i64 ((2*i:Nat):Int))]) (fun(i,f,o,ps,j) M=>i≤lJ.length∧f.length=i∧M.heap[r]? =some (.cells #[o] 161 (0,0))∧js M p 162 t j f o ps∧t≤j∧j≤M.heap.size∧(∀(k:Nat)(h1:k<f.length)(h2:k<lJ.length),Pr 9 f[k] lJ[k])) (fun(i,f,o,ps,j)=>lJ.length - i) ((0,[],Zl,[],t)) ?_ ?_
 ·exact⟨Fr.refl _ _,TE _,rfl,d,js.nil _ _ _ _ _,Tv _,a2,fun k h=>by simp at h⟩
 rintro bI ⟨i,f,o,ps,j⟩ k O ⟨z,bJ,A,d,g,B,u,P⟩
 have b:=b.g.oR z Ac
 have bK:=z.size
 have q:=z.jK (Gb q) Ac
 have v:=z
 have bL:=Fr.refl [r] O
 refine ac 5<|lD q rfl rfl<|au 1<|jX rfl rfl (fun a3=>?_) (fun a3=>?_)
 ·have w:2*i+1<ks.length:=by omega
  have C:2*i<ks.length:=by omega
  have hi:i<lJ.length:=by omega
  obtain⟨a4,a5,bM,a6,bN,aj,ak,al⟩:=y.kF (i:=2*i) C
  subst a6
  obtain⟨a7,a8,bO,a9,bP,am,aA,Q⟩:=y.kF (i:=2*i+1) w
  obtain⟨rfl,rfl⟩:a7=a4∧a8=a5:=by cases a9;exact⟨rfl,rfl⟩
  have bQ:=N.iP (l:=ks) C
  have bR:=N.iP (l:=ks) w
  refine au 9<|lD q rfl rfl<|au 1<|ai ((2*i+1:Nat):Int) rfl rfl<|iX F.iI (w) rfl rfl rfl<|au 1<|lC (jv (am.fr b Al) (lb Q)) rfl ?_
  have bS:=lb Q
  rcases a1 i w Ac with⟨R,aB⟩|⟨R,bT,bU,aC,aD,aE⟩
  ·refine sT R rfl rfl<|au 5<|lD q rfl rfl<|au 1<|iX F.iI (C) rfl rfl rfl<|lA (aj.fr b Al) ak rfl ?_
   obtain⟨aF,S⟩:=nm O
   have bV:=b.le S
   have bW:j≤aF:=by rw[S];exact Ac
   refine cX (aB _ p _ (al.fr b Az) (fun c hc=>Tj (hD0 c hc) b.size) (K.at b) Ac) ?_
   rintro _ aG bY bZ ⟨an,aH,rfl,ao,aI⟩
   obtain⟨ca,aJ,cb⟩:=nl aG
   rw[←S,←aJ]at ao
   refine au 20<|lD (Gb d) rfl rfl<|au 1<|DL.iu (cs:=#[Pt an]) rfl rfl (F.rP) rfl rfl rfl ?_
   intro cc ap T cd ce aK
   have T:=Sp.mk T
   have cf:=T.size
   have U:HF ap (fun c=>p c∨(j≤c∧c<ap.heap.size)) (.p aH) (Pt an):=
    (ao.g.up oZ)
   refine DL.hJ rfl rfl F.rP rfl rfl g.g.own (hB.hE aK) rfl AQ Bu Bu Ac ?_
   intro aL aq E W X
   have Z:j≤aq.heap.size:=by have:=E.size;omega
   have hlo':∀x∈hX o,t≤x:=fun x m=>(ik g.g.own x m).1
   have aM:∀x∈hX o,x<j:=fun x m=>g.lt x (hF.1 m)
   have g:=g.g.snoc Ac B (fun c hc=>by have:=hD0 c hc;omega) U E W X
   have v:=v.g.put E (fun x hx=>Tk A9)
   have d:=E.hO (Gb d) (fun m=>by have:=hlo' _ m;omega)
   clear u
   have u:=Tv aq.heap.size
   refine au 2<|sc d rfl rfl g.one rfl fun cg aN ch d=>have u:=Tq Ac aN.size;au 2<|ac 2<|ai ((2*(i+1):Nat):Int) rfl rfl<|au 2 ?_
   refine⟨(i+1,_,_,_,_),⟨v.g,hi,by simp[A],d,g.g,Tq B Z,Ac,fun k h1 h2=>?_⟩,by show lJ.length - (i+1)<lJ.length - i;omega,rfl⟩
   by_cases hj:k<f.length
   ·rw[TC hj];exact P k hj h2
   have aa:k=f.length:=by simp only[Tl,TG]at h1;omega
   subst aa
   rw[Tz (Tv _)]
   simp only[UF,TF]
   simp only[A]
   exact aI
  refine sX R rfl rfl<|au 6<|lD q rfl rfl<|au 1<|iX F.iI (C) rfl rfl rfl<|lA (aj.fr b Al) ak rfl ?_
  obtain⟨aO,H⟩:=nm O
  have ci:=b.le H
  have cj:j≤aO:=by rw[H];exact Ac
  refine cX (aC _ p _ (al.fr b Az) (fun c hc=>Tj (hD0 c hc) b.size) (K.at b) Ac) ?_
  rintro _ ar ck cl ⟨aP,rfl,av,aQ,aR⟩
  obtain⟨aS,aw,aT⟩:=aR.hf (Tk ⟨av,aQ⟩)
  obtain⟨aU,aV,cm⟩:=nl ar
  rw[←H,←aV]at aw
  rw[←H]at av
  refine au 9<|lD (Gb q) rfl rfl<|au 1<|ai ((2*i+1:Nat):Int) rfl rfl<|iX F.iI (w) rfl rfl rfl<|lA (am.fr b.g Al) aA rfl ?_
  obtain⟨aW,I⟩:=nm ar
  have cn:=b.g.le I
  have co:aU≤aW:=by rw[I];exact Ac
  refine cX (aD _ p _ (Q.fr b.g Az) (fun c hc=>Tj (hD0 c hc) b.g.size) (K.at b.g) Ac) ?_
  rintro _ aX cp cq ⟨aY,rfl,aZ,ba,ax,bb⟩
  obtain⟨cr,bc,cs⟩:=nl aX
  rw[←I,←bc]at ax
  rw[←I]at aZ
  refine au 23<|lD (Gb d) rfl rfl<|au 2<|bD #[Zs,Zp,Pt aP,Pt aY]<|bX rfl fun ay ct cu cv cw bd=>DL.iu (cs:=#[Pt ay]) rfl rfl (F.rP) rfl rfl rfl ?_
  intro cx az ab cy cz be
  have ab:=Sp.mk ab
  have c0:=ab.size
  have U:HF az (fun c=>p c∨(j≤c∧c<az.heap.size)) (.p (.mk [.v Zs,nP,.p aS,.p ba])) (Pt ay):=
   HF.ph (Tk ⟨Ac,Ac⟩) (Gb bd) (HR.c (.cons .vv (.cons .vv (.cons (aw.g.up oZ) (.cons (ax.g.up oZ) .nil)))))
  refine DL.hJ rfl rfl F.rP rfl rfl g.g.own (hB.hE be) rfl AQ Bu Bu Ac ?_
  intro aL a0 J W X
  have Z:j≤a0.heap.size:=by have:=J.size;omega
  have hlo':∀x∈hX o,t≤x:=fun x m=>(ik g.g.own x m).1
  have aM:∀x∈hX o,x<j:=fun x m=>g.lt x (hF.1 m)
  have g:=g.g.snoc Ac B (fun c hc=>by have:=hD0 c hc;omega) U J W X
  have v:=v.g.put J (fun x hx=>Tk A9)
  have d:=J.hO (Gb d) (fun m=>by have:=hlo' _ m;omega)
  clear u
  have u:=Tv a0.heap.size
  refine au 2<|sc d rfl rfl g.one rfl fun c1 bf c2 d=>have u:=Tq Ac bf.size;au 3<|ai ((2*(i+1):Nat):Int) rfl rfl<|au 2 ?_
  refine⟨(i+1,_,_,_,_),⟨v.g,hi,by simp[A],d,g.g,Tq B Z,Ac,fun k h1 h2=>?_⟩,by show lJ.length - (i+1)<lJ.length - i;omega,rfl⟩
  by_cases hj:k<f.length
  ·rw[TC hj];exact P k hj h2
  have aa:k=f.length:=by simp only[Tl,TG]at h1;omega
  subst aa
  rw[Tz (Tv _)]
  simp only[UF,TF]
  simp only[A]
  rw[aE];exact Pr.L6 aT bb
 have c3:i=lJ.length:=by omega
 refine au 3<|ac 3<|bD #[.int .i64 8,Zp,Zp,Pt r,Zp,Zs,Zp,Zs,Zp,Zp,Zp,Zp,Zp,Zp,Zs,Zp,Zl]<|bX rfl fun c4 ad c5 c6 c7 bg=>au 4 ?_
 obtain⟨a,c,rfl,hL⟩:=g.g.done
 have hgz:f.length=lJ.length:=by omega
 have bh:HF ad (Dm p ae.heap.size ad.heap.size) (.p (.mk [.l f])) (Pt r):=HF.ph (Tk ⟨Ac,Ac⟩) (Gb d) (HR.c (.cons (.lh (hL.up oZ)) .nil))
 have bi:Pr 8 (.mk [.l f]) (if lJ=[]then[123,125]else[123,32]++ih [44,32] lJ++[32,125]):=by
  by_cases h0:lJ=[]
  ·rw[TU h0];have:f=[]:=Tn (by rw[hgz,h0];rfl);subst this;exact Pr.Ox
  rw[TI h0];exact Pr.OR (by rw[hgz];exact UJ.2 h0) Cb hgz P
 have bj:=Dh (D:=Dm p ae.heap.size ad.heap.size) (Tk ⟨Ac,Ac⟩) bg bh bi (by split<;>simp)
 exact hD.ia rfl rfl (hH.mk b.g ⟨_,rfl,trivial,bj.up (fun _ h=>h) (fun c8 c9 hc=>⟨fun h=>Tu h (show ¬(Cm:ByteArray)=iL by decide),fun h=>Tu h (show ¬(Cm:ByteArray)=iL by decide),fun h=>Tu h (show ¬(Cm:ByteArray)=jn by decide)⟩)⟩)
def Fc(p:N)(t:List UInt8):Prop:=∀(w:World)(D0:Nat→Prop)(cs:Array Value),RN w D0 1 p cs→(∀c,D0 c→c<w.heap.size)→TB w→p.wt≤1048576→
 Calls Tryz.prog 93 #[.agg cs] w (hH w [] fun r w'=>∃b g,r=.tuple #[Pt b,.bool true]∧HF w' (Dm D0 w.heap.size w'.heap.size) (.p g) (Pt b)∧Pr 3 g t)
def K1(qs:List N)(ts:List (List UInt8)):Prop:=∀(w:World)(D0:Nat→Prop)(a:Option Addr)(c:Nat)(cl:Nat→Array Value),hT w D0 a qs.length 4 cl→(∀(i:Nat)(h:i<qs.length),RN w D0 1 qs[i] (cl i))→(∀c,D0 c→c<w.heap.size)→TB w→N.h9 qs≤1048576→
 Calls Tryz.prog 62 #[.slice a qs.length c] w (hH w [] fun r w'=>∃a' c' gs,r=.tuple #[.slice a' qs.length c',.bool true]∧gs.length=qs.length∧HL w' (Dm D0 w.heap.size w'.heap.size) a' 0 gs∧∀(j:Nat)(h1:j<gs.length)(h2:j<ts.length),Pr 3 gs[j] ts[j])
def Lo(k p:N)(t:List UInt8):Prop:=∀(w:World)(D0:Nat→Prop)(ck cp:Array Value),RN w D0 0 k ck→RN w D0 1 p cp→(∀c,D0 c→c<w.heap.size)→TB w→k.wt≤1048576→p.wt≤1048576→
 Calls Tryz.prog 119 #[.agg ck,.agg cp] w (hH w [] fun r w'=>∃b g,r=.tuple #[Pt b,.bool true]∧HF w' (Dm D0 w.heap.size w'.heap.size) (.p g) (Pt b)∧Pr 4 g t)
theorem oD(hl:Q.length=lJ.length)(R:∀(i:Nat)(h1:i<Q.length)(h2:i<lJ.length),Fc Q[i] lJ[i]):K1 Q lJ:=by
 intro z o a d ap S A hD0 T hw
 have aq:=N.iw Q
 refine cY Tryz.func62 fun f=>ac 17 ?_
 obtain⟨m,U,W⟩:=nl z
 have ar:=f.le U
 refine lE [] z (σ:=Nat×List G×Value×List Value×Nat) [(2,4),(6,8),(11,26)] [(9,.slice a Q.length d),(10,.int .i64 (Q.length:Int))] (fun(i,b,j,ps,g)=>[(11,.int .i64 (i:Int)),(4,j)]) (fun(i,b,j,ps,g) B=>i≤Q.length∧b.length=i∧js B o 142 m g b j ps∧m≤g∧g≤B.heap.size∧(∀(c:Nat)(h1:c<b.length)(h2:c<lJ.length),Pr 3 b[c] lJ[c])) (fun(i,b,j,ps,g)=>Q.length - i) ((0,[],Zl,[],m)) ?_ ?_
 ·exact⟨Fr.refl _ _,TE _,rfl,js.nil _ _ _ _ _,Tv _,W,fun c h=>by simp at h⟩
 rintro av ⟨i,b,j,ps,g⟩ c X ⟨p,aw,C,k,D,E,H⟩
 have f:=f.jP p
 have ax:=p.size
 have q:=p
 have ay:=Fr.refl [] X
 refine ac 2<|jX rfl rfl (fun Y=>?_) (fun Y=>?_)
 ·have hi:i<Q.length:=by omega
  have hit:i<lJ.length:=by omega
  obtain⟨az,a0,rfl,a1,Z,r⟩:=S i hi
  have aa:=A i hi
  have a2:=N.iP (l:=Q) hi
  refine au 8<|iX F.pS (hi) rfl rfl rfl<|lA (Z.fr f Al) r rfl<|al F.z59 rfl fun a3 a4 a5 a6 a7 t=>sA t rfl rfl rfl r (A i hi).one fun ab a8 a9 t=>au 3<|lw t rfl r ?_
  obtain⟨aA,I⟩:=nm ab
  have aB:=f.g.le I
  refine cX ((R i hi hit) _ o _ (aa.fr f.g Az) (fun d hc=>Tj (hD0 d hc) f.g.size) (T.at f.g) Ac) ?_
  rintro _ ad aC aD ⟨J,ae,rfl,K,af⟩
  obtain⟨aE,ag,aF⟩:=nl ad
  rw[←I,←ag]at K
  refine au 17<|DL.iu (cs:=#[Pt J]) rfl rfl (F.HP) rfl rfl rfl ?_
  intro aG L u aH aI ah
  have u:=Sp.mk u
  have aJ:=u.size
  have aj:HF L (fun d=>o d∨(g≤d∧d<L.heap.size)) (.p ae) (Pt J):=
   (K.g.up oZ)
  refine DL.hJ rfl rfl F.HP rfl rfl k.g.own (hB.hE ah) rfl AQ (by have:=N.iw Q;omega) (by have:=N.iw Q;omega) Ac ?_
  intro aK M w ak am
  have an:g≤M.heap.size:=by have:=w.size;omega
  have hlo':∀x∈hX j,m≤x:=fun x y=>(ik k.g.own x y).1
  have aL:∀x∈hX j,x<g:=fun x y=>k.lt x (hF.1 y)
  have k:=k.g.snoc Ac D (fun d hc=>by have:=hD0 d hc;omega) aj w ak am
  have q:=q.g.put w (fun x hx=>Tk A9)
  clear E
  have E:=Tv M.heap.size
  refine au 3<|ai ((i+1:Nat):Int) rfl rfl<|au 2 ?_
  refine⟨(i+1,_,_,_,_),⟨q,hi,by simp[C],k,Tq D an,Ac,fun c h1 h2=>?_⟩,by show Q.length - (i+1)<Q.length - i;omega,⟨rfl,rfl⟩⟩
  by_cases hj:c<b.length
  ·rw[TC hj];exact H c hj h2
  have ao:c=b.length:=by simp only[Tl,TG]at h1;omega
  subst ao
  rw[Tz (Tv _)]
  simp only[UF,TF]
  simp only[C]
  exact af
 have aM:i=Q.length:=by omega
 refine au 4<|ac 7 ?_
 obtain⟨O,P,rfl,hL⟩:=k.done
 have hgz:b.length=Q.length:=by omega
 refine hD.ia (v:=.slice O b.length P) (x:=.bool true) rfl rfl (hH.mk f ⟨O,P,b,by rw[hgz],hgz,hL.up oZ,H⟩)
theorem GL{s:ByteArray}(hs:jI s.data.toList):Fc (.mk Cx s V0 [] [] [] []) (36::s.data.toList):=by
 intro u v l j hD0 w hw
 obtain⟨y,z,A,B,rfl⟩:=j.lH
 obtain⟨C,D,E,F⟩:=j.nw
 refine cY Tryz.func93 fun k=>ac 2<|bX rfl fun G H I J K f=>au 7<|lD f rfl rfl<|au 9<|dF fun L m M d=>have O:=m.size;aK [0]<|kL 1 (Gb f) rfl rfl rfl<|kT 2 rfl (fun o p=>Y.cat (a:=Cx) (b:=s) rfl rfl A0)<|kT 3 rfl (fun o p=>Y.build (cs:=#[.string (Cx++s),Zl,Zl]) Au)<|aK [5]<|kL 6 (Gb f) rfl rfl rfl<|kQ 4 7 ?_ ?_
 ·refine bX rfl fun q P Q r t g=>kN d.g<|kP 7<|cX (ig _ Ac _) ?_
  rintro _ R S T rfl
  rw[hs]
  refine kN d.g<|aK [8,9]<|kD<|ac 1 ?_
  have c:=Pr.Lb (j0 s)
  rw[jO]at c
  exact hD.ia rfl rfl (hH.mk k.g ⟨_,_,rfl,HF.ph (Tk ⟨Ac,Ac⟩) (Gb g) (HR.c (.cons .vv (.cons .vv (.cons .vv .nil)))),c⟩)
 refine cX (ig _ Ac _) ?_
 rintro _ U W X rfl
 rw[hs]
 refine kN d.g<|kP 4<|bX rfl fun q Z aa r t g=>kN d.g<|aK [8,9]<|kD<|ac 1 ?_
 have c:=Pr.Lb (j0 s)
 rw[jO]at c
 exact hD.ia rfl rfl (hH.mk k.g ⟨_,_,rfl,HF.ph (Tk ⟨Ac,Ac⟩) g (HR.c (.cons .vv (.cons .vv (.cons .vv .nil)))),c⟩)
theorem Fw(B:0<Q.length)(hl:Q.length=lJ.length)(k:K1 Q lJ):Fc (.mk CN ⟨#[]⟩ V0 [] [] Q []) ([91]++ih [44,32] lJ++[93]):=by
 intro C l D c hD0 m hw
 obtain⟨E,F,G,H,rfl⟩:=c.lH
 obtain⟨I,J,K,L⟩:=c.nw
 obtain⟨o,p,q⟩:=c.Gu
 have r:N.h9 Q≤1048576:=by simp only[N.wt]at hw;omega
 have hlen:=N.iw Q
 refine cY Tryz.func93 fun b=>ac 2<|bX rfl fun M t O P R d=>au 7<|lD d rfl rfl<|au 17<|lD d rfl rfl ?_
 obtain⟨S,f⟩:=nm t
 have T:=b.g.le f
 refine cX (k _ l _ _ o (p.fr b.g Az) (fun i h=>(q i h).fr b.g Az) (fun g hc=>Tj (hD0 g hc) b.g.size) (m.at b.g) r) ?_
 rintro _ u U W ⟨v,w,X,rfl,hgz,j,y⟩
 obtain⟨Z,z,aa⟩:=nl u
 rw[←f,←z]at j
 exact au 9<|bD #[Zs,.slice v Q.length w,Zl]<|bX rfl fun ab ad ae af ag A=>au 4<|DL.y rfl rfl (Y.Hb (c:=true) rfl rfl (Th Ac))<|au 5<|hD.ia rfl rfl (hH.mk b.g ⟨_,_,rfl,HF.ph (Tk ⟨Ac,Ac⟩) A (HR.c (.cons .vv (.cons (by rw[←hgz];exact .lh (j.g.up (Dm.mono Ac Ac))) (.cons .vv .nil)))),Pr.Mj Ac Ac Ac y⟩)
theorem Hw{ks:List N}(a8:0<Q.length)(hk:ks.length=Q.length)(hl:Q.length=lJ.length)(aa:∀(i:Nat)(h0:i<ks.length)(h1:i<Q.length)(h2:i<lJ.length),Lo ks[i] Q[i] lJ[i]):Fc (.mk CJ ⟨#[]⟩ V0 [] ks Q []) ([123]++ih [44,32] lJ++[125]):=by
 intro a9 z J t hD0 ab hw
 obtain⟨ad,ae,aA,aB,rfl⟩:=t.lH
 obtain⟨aC,aD,aE,aF⟩:=t.nw
 have aG:N.h9 Q≤1048576:=by simp only[N.wt]at hw;omega
 have aH:N.h9 ks≤1048576:=by simp only[N.wt]at hw;omega
 have hlen:=N.iw Q
 refine cY Tryz.func93 fun b=>ac 2<|bX rfl fun K aI aJ aL aM k=>au 7<|lD k rfl rfl<|au 24<|lD k rfl rfl<|au 2<|lD k rfl rfl<|au 1<|DL.y rfl rfl (Y.yL (c:=false) rfl rfl (Ti Ac))<|au 2<|lD k rfl rfl<|au 1<|iF Ac rfl rfl<|au 6<|bD #[Zs,Zl,Zl]<|bX rfl fun q L aN aO aP c=>au 6<|lD (Gb k) rfl rfl<|au 4 ?_
 obtain⟨p,A,af⟩:=nl L
 have aQ:K<p:=by rw[A];exact Ac
 have aR:q<p:=by rw[A];exact Ac
 have aS:=c
 have aT:=b.g.le A
 refine lE [q] L (σ:=Nat×List G×Value×List Value×Nat) [(2,3),(7,10),(60,87)] [(1,Pt K),(6,Pt q),(58,.slice ad ks.length ae),(59,.int .i64 (ks.length:Int))] (fun(i,g,o,ps,j)=>[(60,.int .i64 (i:Int))]) (fun(i,g,o,ps,j) B=>i≤Q.length∧g.length=i∧B.heap[q]? =some (.cells #[Zs,Zl,o] 185 (0,0))∧js B z 186 p j g o ps∧p≤j∧j≤B.heap.size∧(∀(d:Nat)(h1:d<g.length)(h2:d<lJ.length),Pr 4 g[d] lJ[d])) (fun(i,g,o,ps,j)=>Q.length - i) ((0,[],Zl,[],p)) ?_ ?_
 ·exact⟨Fr.refl _ _,TE _,rfl,c,js.nil _ _ _ _ _,Tv _,af,fun d h=>by simp at h⟩
 rintro aU ⟨i,g,o,ps,j⟩ d ag ⟨u,aV,M,c,m,O,C,P⟩
 have b:=b.g.oR u Ac
 have aW:=u.size
 have k:=u.jK (Gb k) Ac
 have D:=u
 have aX:=Fr.refl [q] ag
 refine ac 2<|jX rfl rfl (fun ah=>?_) (fun ah=>?_)
 ·have hi:i<Q.length:=by omega
  have v:i<ks.length:=by omega
  have hit:i<lJ.length:=by omega
  obtain⟨aY,aZ,ba,aj,bb,ak,E,R⟩:=t.G9 (i:=i) v
  subst aj
  obtain⟨bc,bd,am,an,be,ao,ap,aq⟩:=t.Dz (i:=i) hi
  subst an
  have bf:=N.iP (l:=Q) hi
  have bg:=N.iP (l:=ks) v
  refine au 9<|iX F.iI (v) rfl rfl rfl<|lA (ak.fr b Al) E rfl<|al F.z31 rfl fun bh bi bj bk bl H=>au 1<|sA H rfl rfl rfl E R.one fun bm bn bo H=>au 2<|dF fun ar av bp aw=>have bq:=av.size;kT 0 rfl (fun S w=>Y.jl rfl (w.il (Gb H)) (by rw[E];exact F.hN))<|aK [1]<|kL 2 (Gb k) rfl rfl rfl<|aK [3]<|kT 4 rfl (fun S w=>Y.index F.pS rfl rfl (rfl) (hi))<|kT 5 rfl (fun S w=>Y.iU (cs:=am) ap F.uU rfl ((ao.fr b.g Al).fr w Al))<|kP 6 ?_
  obtain⟨br,T⟩:=nm ar
  have bs:=b.g.le T
  refine cX ((aa i v hi hit) _ z _ _ (R.fr b.g Az) (aq.fr b.g Az) (fun f hc=>Tj (hD0 f hc) b.g.size) (ab.at b.g) Ac Ac) ?_
  rintro _ ax bt bu ⟨U,ay,rfl,W,az⟩
  obtain⟨bv,a0,bw⟩:=nl ax
  rw[←T,←a0]at W
  refine kN aw.g<|aK [7,8,9,10,11]<|kD<|ac 13<|lD (Gb c) rfl rfl<|au 1<|DL.iu (cs:=#[Pt U]) rfl rfl (F.Iv) rfl rfl rfl ?_
  intro bx X I bz b0 a1
  have I:=Sp.mk I
  have b1:=I.size
  have a2:HF X (fun f=>z f∨(j≤f∧f<X.heap.size)) (.p ay) (Pt U):=
   (W.g.up oZ)
  refine DL.hJ rfl rfl F.Iv rfl rfl m.g.own (hB.hE a1) rfl AQ Ac Ac Ac ?_
  intro b2 Z y a3 a4
  have a5:j≤Z.heap.size:=by have:=y.size;omega
  have hlo':∀x∈hX o,p≤x:=fun x r=>(ik m.g.own x r).1
  have b3:∀x∈hX o,x<j:=fun x r=>m.lt x (hF.1 r)
  have m:=m.g.snoc Ac O (fun f hc=>by have:=hD0 f hc;omega) a2 y a3 a4
  have D:=D.g.put y (fun x hx=>Tk A9)
  have c:=y.hO (Gb c) (fun r=>by have:=hlo' _ r;omega)
  clear C
  have C:=Tv Z.heap.size
  refine au 2<|sc c rfl rfl m.one rfl fun b4 a6 b5 c=>have C:=Tq Ac a6.size;au 2<|ai ((i+1:Nat):Int) rfl rfl<|au 2 ?_
  refine⟨(i+1,_,_,_,_),⟨D.g,hi,by simp[M],c,m.g,Tq O a5,Ac,fun d h1 h2=>?_⟩,by show Q.length - (i+1)<Q.length - i;omega,rfl⟩
  by_cases hj:d<g.length
  ·rw[TC hj];exact P d hj h2
  have a7:d=g.length:=by simp only[Tl,TG]at h1;omega
  subst a7
  rw[Tz (Tv _)]
  simp only[UF,TF]
  simp only[M]
  exact az
 have b6:i=Q.length:=by omega
 refine au 4<|ac 7 ?_
 obtain⟨a,f,rfl,hL⟩:=m.done
 exact rZ b ⟨_,_,rfl,HF.ph (Tk ⟨Ac,Ac⟩) c (HR.c (.cons .vv (.cons .vv (.cons (.lh (hL.up oZ)) .nil)))),Pr.MJ Ac Ac Ac P⟩
theorem Nc{s:ByteArray}(hs:jI s.data.toList):Lo (mu s) je (36::s.data.toList):=by
 intro o p q r f j hD0 t u v
 obtain⟨w,y,z,A,B,C,D,E,F,G,H,I,J,K,rfl⟩:=f.hI
 obtain⟨L,M,O,P,Q,R⟩:=f.hV
 obtain⟨S,T,U,W,rfl⟩:=j.lH
 refine cY Tryz.func119 fun k=>ac 2<|bX rfl fun X Z aa ab ad c=>bX rfl fun ae af ag ah ai l=>au 5<|bD #[Zs,Zp,Zp,Zp]<|bX rfl fun aj ak al am an d=>au 7<|lD (Gb c) rfl rfl<|au 8<|lD (Gb c) rfl rfl<|DL.y rfl rfl (Y.cat (a:=Cx) (b:=s) rfl rfl A0)<|au 2<|sc d rfl rfl rfl rfl fun ao ap aq d=>au 4<|lD (Gb c) rfl rfl<|cX (ig _ Ac _) ?_
 rintro _ ar av aw rfl
 rw[hs]
 refine au 8<|lD (Gb l) rfl rfl<|au 4<|dF fun ax m ay az=>have a0:=m.size;aK [0,1]<|kL 2 (Gb c) rfl rfl rfl<|aK [3,4,5]<|kD<|ac 1 ?_
 have g:=Pr.P1 (j0 s)
 rw[jO]at g
 exact hD.ia rfl rfl (hH.mk k.g ⟨_,_,rfl,HF.ph (Tk ⟨Ac,Ac⟩) (Gb d) (HR.c (.cons .vv (.cons .vv (.cons .vv (.cons .vv .nil))))),g⟩)
theorem Jq{s:ByteArray}(hs:jI s.data.toList)(p:iz q≠Cn)(r:Fc q L):Lo (mu s) q (36::s.data.toList++[58,32]++L):=by
 intro D t E F g j hD0 u G v
 obtain⟨H,I,J,K,M,O,P,Q,R,S,T,U,W,X,rfl⟩:=g.hI
 obtain⟨Z,aa,ab,ad,ae,af⟩:=g.hV
 obtain⟨ag,ah,ai,aj,ak,al,am⟩:=q
 obtain⟨an,ao,ap,aq,rfl⟩:=j.lH
 refine cY Tryz.func119 fun c=>ac 2<|bX rfl fun ar av aw ax ay f=>bX rfl fun az a0 a1 a2 a3 k=>au 5<|bD #[Zs,Zp,Zp,Zp]<|bX rfl fun a4 a5 a6 a7 a8 d=>au 7<|lD (Gb f) rfl rfl<|au 8<|lD (Gb f) rfl rfl<|DL.y rfl rfl (Y.cat (a:=Cx) (b:=s) rfl rfl A0)<|au 2<|sc d rfl rfl rfl rfl fun a9 aA aB w=>have d:=w;au 4<|lD (Gb f) rfl rfl<|cX (ig _ Ac _) ?_
 rintro _ y aC aD rfl
 rw[hs]
 refine au 8<|lD (Gb k) rfl rfl<|sX p rfl rfl<|au 5<|lw (Gb k) rfl rfl ?_
 obtain⟨aE,l⟩:=nm y
 have aF:=c.g.le l
 refine cX (r _ t _ (j.fr c.g Az) (fun z hc=>Tj (hD0 z hc) c.g.size) (u.at c.g) v) ?_
 rintro _ A aG aH ⟨aI,aJ,rfl,m,B⟩
 obtain⟨aK,C,aL⟩:=nl A
 rw[←l,←C]at m
 refine au 12<|sc (Gb d) rfl rfl rfl rfl fun aM aN aO d=>au 9 ?_
 have o:=Pr.Mb (j0 s) B
 rw[jO]at o
 exact hD.ia rfl rfl (hH.mk c.g ⟨_,_,rfl,HF.ph (Tk ⟨Ac,Ac⟩) d (HR.c (.cons .vv (.cons .vv (.cons .vv (.cons (m.g.up (Dm.mono Ac Ac)) .nil))))),o⟩)
theorem Ju{s:ByteArray}(z:Lib.validD s.data.toList)(A:iz q≠Cn)(B:Fc q L):Lo (jk s) q (qL s.data.toList++[58,32]++L):=by
 intro T C U W o p hD0 D X E
 obtain⟨Y,Z,aa,ab,ad,ae,af,ag,ah,ai,aj,ak,al,am,rfl⟩:=o.hI
 obtain⟨an,ao,ap,aq,ar,av⟩:=o.hV
 obtain⟨aw,ax,ay,az,a0,a1,a2⟩:=q
 obtain⟨a3,a4,a5,a6,rfl⟩:=p.lH
 obtain⟨rfl,rfl,a7⟩:=J5 o.oM
 refine cY Tryz.func119 fun b=>ac 2<|bX rfl fun f a8 a9 r F g=>have r:=Tq b.size r;bX rfl fun j aA aB t G u=>have aC:f<j:=Ac;have t:=Tq b.g.size t;au 5<|bD #[Zs,Zp,Zp,Zp]<|bX rfl fun k H aD v I d=>have aE:f<k:=Ac;have aF:j<k:=Ac;have v:=Tq b.g.size v;au 7<|lD (Gb g) rfl rfl<|au 7<|lD (Gb g) rfl rfl<|au 4<|lD (Gb g) rfl rfl<|au 9<|lD (Gb g) rfl rfl ?_
 have J:_≤H.heap.size:=b.g.size
 have aG:=F
 have aH:=G
 have aI:=I
 refine cX (mC _ _) ?_
 rintro _ aJ aK aL ⟨l,rfl,w,aM,K⟩
 have aN:f<l:=Ac
 have aO:j<l:=Ac
 have aP:k<l:=Ac
 have w:=Tq J w
 refine au 2<|sc (Gb d) rfl rfl rfl rfl fun M aQ aR O=>have d:=O;au 5<|lD (Gb u) rfl rfl<|sX A rfl rfl<|au 5<|lw (Gb u) rfl rfl ?_
 obtain⟨m,c⟩:=nm M
 have aS:=b.g.le c
 have aT:f<m:=by rw[c];exact Ac
 have aU:j<m:=by rw[c];exact Ac
 have aV:k<m:=by rw[c];exact Ac
 have aW:l<m:=by rw[c];exact Ac
 refine cX (B _ C _ (p.fr b.g Az) (fun P hc=>Tj (hD0 P hc) b.g.size) (D.at b.g) E) ?_
 rintro _ Q aX aY ⟨aZ,ba,rfl,y,R⟩
 obtain⟨bb,S,bc⟩:=nl Q
 rw[←c,←S]at y
 exact au 12<|sc (Gb d) rfl rfl rfl rfl fun bd be bf d=>au 9<|hD.ia rfl rfl (hH.mk b.g ⟨_,_,rfl,HF.ph (Tk ⟨Ac,Ac⟩) d (HR.c (.cons .vv (.cons (HF.ph (Tk ⟨Ac,Ac⟩) (Gb K) (HR.c (.cons .vv (.cons .vv .nil)))) (.cons .vv (.cons (y.g.up (Dm.mono Ac Ac)) .nil))))),Pr.MF (.Fb z) R⟩)
theorem D.Y.sJ{P:Program}{e:Env}{w:World}{dst:Option Tmp}{ty:TypeId}{pos:String}{af:Array Edge}{g:Option (Nat×Bool)}{x y:Operand}{t el b l:Nat}{k:IntKind}(ht:jT P t el nB)(hx:ev e x=.slice (some ⟨b,nC,none⟩) nA m)(c:ev e y=.int k j)(d:j=(l:Int))(h1:l≤nA)(p:l<m):
  Y P e ⟨dst,.slice t x (some y) none none,ty,pos,af,g⟩ w (.slice (some ⟨b,nC+l*nB,none⟩) (nA - l) (m - l)):=by
 subst d
 obtain⟨f,o⟩:=mL ht
 have hc:¬m=l:=by omega
 unfold Y
 simp[execOp,Instr.sliceAt,Instr.slice,run_underlying f,hx,c,Instr.sliceBounds,Instr.sliceBound,asIntOf,h1,o,hc,kt]
theorem hT.E2{n:Nat}(h:hT w D (some ⟨nA,k,none⟩) (n+1) m cE):hT w D (some ⟨nA,k+1*m,none⟩) n m (fun i=>cE (i+1)):=fun i hi=>by
 obtain⟨f,g,e,h2,b,c⟩:=h (i+1) Ac
 cases e
 refine⟨nA,k+1*m,rfl,h2,?_,c⟩
 have d:(i+1)*m=i*m+m:=VB i m
 rw[show k+1*m+i*m=k+(i+1)*m by rw[d];omega];exact b
def wD:List (List UInt8)→List (List UInt8)
 |c::t::r=>([101,108,105,102,32]++c++[32,116,104,101,110,32]++t)::wD r
 |_=>[]
theorem ox:∀b:List (List UInt8),(wD b).length=b.length/2
 |[]=>rfl
 |[_]=>by simp[wD]
 |d::f::c=>by have:=ox c;simp only[wD,To,this];omega
theorem tg:∀(b:List (List UInt8))(i:Nat)(h:i<(wD b).length)(h2:2*i+1<b.length),(wD b)[i]=[101,108,105,102,32]++b[2*i]'Ac++[32,116,104,101,110,32]++b[2*i+1]
 |[],i,h,_=>by simp[wD]at h
 |[_],i,h,_=>by simp[wD]at h
 |d::f::c,0,_,_=>rfl
 |d::f::c,i+1,h,h2=>tg c i (by simpa[wD]using h) BQ
theorem Iw:∀(b:List (List UInt8)),b.length%2=0→og b=((wD b).map (32::·)).flatten
 |[],_=>rfl
 |[_],h=>by simp at h
 |d::f::c,h=>by
  have:=Iw c (by simp only[To]at h;omega)
  simp[og,wD,this]
theorem HT:∀(c:List (List UInt8))(h:c.length%2=1),og c=((wD c).map (32::·)).flatten++[32,101,108,115,101,32]++c[c.length - 1]'Ac
 |[],h=>by simp at h
 |[e],_=>rfl
 |d::f::b,h=>by
  have g:b.length%2=1:=by simp only[To]at h;omega
  have:=HT b g
  have e:(d::f::b)[(d::f::b).length - 1]'Al=b[b.length - 1]'Ac:=by
   simp only[To,Nat.add_sub_cancel]
   rw[List.getElem_cons,dif_neg Ac,List.getElem_cons,dif_neg Ac]
   congr 1
  rw[e]
  simp[og,wD,this]
set_option maxHeartbeats 1000000 in
theorem zq{ks:List N}(hl:ks.length=lJ.length)(b3:∀(i:Nat)(h1:i<(q::p::ks).length)(h2:i<(L::M::lJ).length),CQ (q::p::ks)[i] (L::M::lJ)[i]):km 100 (.mk CA ⟨#[]⟩ V0 [] (q::p::ks) [] []) ([105,102,32]++L++[32,116,104,101,110,32]++M++og lJ++[32,101,110,100]) (kr (.mk CA ⟨#[]⟩ V0 [] (q::p::ks) [] [])):=by
 intro aB I a7 aM hD0 b4 hw
 obtain⟨c5,c6,c7,c8,c9,cA,cB,cC,cD,cE,cF,cG,cH,cI,rfl⟩:=aM.hI
 obtain⟨cJ,cK,cL,cM,cN,cO⟩:=aM.hV
 obtain⟨b5,b6,b7,hkc⟩:=aM.mv
 have b8:N.h9 (q::p::ks)≤1048576:=by simp only[N.wt]at hw;omega
 have hlen:=N.iw (q::p::ks)
 have cP:ks.length+2≤1048576:=by simp only[To]at hlen;omega
 refine cY Tryz.func100 fun c=>ac 2<|bX rfl fun ap b9 bA bk g ae=>have bk:=Tq c.size bk;have c:=c.jP bA.f;au 6<|lD ae rfl rfl ?_
 obtain⟨al,aN⟩:=nm b9
 have cQ:=c.le aN
 have cR:ap<al:=by rw[aN];exact g
 refine cX ((jW (ks:=q::p::ks) (ts:=L::M::lJ) (by simp[hl]) b3) _ I _ _ b5 (b6.fr c Az) (fun i h=>(b7 i h).fr c Az) (fun k hc=>Tj (hD0 k hc) c.size) (b4.at c) b8) ?_
 rintro _ aO aP _ ⟨cS,a8,t,rfl,hgz,A,aq⟩
 have c:=c.jP aP.f
 have ae:=aP.il ae
 have g:=Tj g aP.size
 obtain⟨C,bl,l⟩:=nl aO
 rw[←aN,←bl]at A
 have cT:t.length=ks.length+2:=by rw[hgz];simp
 have cU:=c.le bl
 obtain⟨ar,av,aQ,cV,cW,bB,a0,af,bC,bm,bn⟩:=A.kH (i:=0) Ac
 subst bB
 obtain⟨bE,bF,aR,cZ,da,bG,a4,ag,bH,bo,bp⟩:=A.kH (i:=1) Ac
 obtain⟨rfl,rfl⟩:ar=bE∧av=bF:=by cases bG;exact⟨rfl,rfl⟩
 have J:HF aO (Dm I al C) (.p t[0]) (Pt aQ):=HF.ph bC bm bn
 have K:HF aO (Dm I al C) (.p t[1]) (Pt aR):=HF.ph bH bo bp
 clear bm bn bo bp
 refine au 6<|DC.forget [(4,.slice (some ⟨ar,av,none⟩) (q::p::ks).length a8),(5,.bool true)] ⟨rfl,rfl⟩ (fun a5=>?_)
 refine ac 8<|DL.y rfl rfl (Y.xz (c:=false) rfl rfl (Ti AM))<|au 4<|DC.forget [(4,.slice (some ⟨ar,av,none⟩) (q::p::ks).length a8)] rfl (fun a5=>?_)
 refine ac 1<|dF fun db aw dc m=>have c:=c.jP aw.f;have g:=Tj g aw.size;have A:=A.fr aw.f Ba;have l:=Tq l aw.size;have J:=J.fr aw.f Ba;have K:=K.fr aw.f Ba;have af:=aw.cell af (by first|(simp;done)|exact Dm.mZ hD0 Ac Ac _ a0);have ag:=aw.cell ag (by first|(simp;done)|exact Dm.mZ hD0 Ac Ac _ a4);aK [0]<|kT 1 rfl (fun am a6=>Y.index F.lq rfl rfl (rfl) Al)<|kT 2 rfl (fun am a6=>Y.load F.sP rfl (a6.cell af Al))<|aK [3]<|kT 4 rfl (fun am a6=>Y.index F.lq rfl rfl (rfl) Al)<|kT 5 rfl (fun am a6=>Y.load F.sP rfl (a6.cell ag Al))<|kT 6 rfl (fun am a6=>Y.build (cs:=#[Pt aQ,Pt aR,Zl,Zp]) Au)<|kP 7<|bX rfl ?_
 intro u bq an a9 o r
 have dd:ap<u:=Tj g a9
 have de:C≤u:=Tq l a9
 have df:=Tq m.size a9
 have a9:=Tq c.size a9
 have c:=c.jP an.f
 have m:=m.jP an.f
 have ae:=an.il (aw.il ae)
 have g:=Tj g an.size
 have A:=A.fr an.f Ba
 have l:=Tq l an.size
 have J:=J.fr an.f Ba
 have K:=K.fr an.f Ba
 have af:=an.cell af (by first|(simp;done)|exact Dm.mZ hD0 Ac Ac _ a0)
 have ag:=an.cell ag (by first|(simp;done)|exact Dm.mZ hD0 Ac Ac _ a4)
 refine kN m<|aK [8]<|kD<|DC.forget [(4,.slice (some ⟨ar,av,none⟩) (q::p::ks).length a8),(6,Pt u)] ⟨rfl,rfl⟩ (fun a5=>?_)
 refine ac 6 ?_
 obtain⟨a1,aS,bI⟩:=nl bq
 have dg:ap<a1:=by rw[aS];exact g
 have dh:u<a1:=by rw[aS];exact o
 have di:=r
 have dj:=c.le aS
 have U:∀k,Dm I al C k→k<C:=fun k hc=>by rcases hc with hc|hc;(have:=hD0 _ hc;omega);exact hc.2
 refine lE [u] bq (σ:=Nat×List G×Value×List Value×Nat) [(7,7),(29,55)] [(4,.slice (some ⟨ar,av,none⟩) (q::p::ks).length a8),(6,Pt u)] (fun(i,E,ax,ps,B)=>[(7,.int .i64 ((2*i+2:Nat):Int))]) (fun(i,E,ax,ps,B) aT=>i≤(lJ.length/2)∧E.length=i∧aT.heap[u]? =some (.cells #[Pt aQ,Pt aR,ax,Zp] 197 (0,0))∧js aT (Dm I al C) 198 a1 B E ax ps∧a1≤B∧B≤aT.heap.size∧(∀(O:Nat)(h1:O<E.length)(h2:O<(wD lJ).length),Pr 13 E[O] (wD lJ)[O])) (fun(i,E,ax,ps,B)=>(lJ.length/2) - i) ((0,[],Zl,[],a1)) ?_ ?_
 ·exact⟨Fr.refl _ _,TE _,rfl,r,js.nil _ _ _ _ _,Tv _,bI,fun O h=>by simp at h⟩
 rintro a5 ⟨i,E,ax,ps,B⟩ O aC ⟨ah,dk,aD,r,f,aE,j,aF⟩
 have c:=c.oR ah Ac
 have ae:=ah.jK ae Ac
 have g:=Tj g ah.size
 have A:=A.fr ah Ba
 have l:=Tq l ah.size
 have J:=J.fr ah Ba
 have K:=K.fr ah Ba
 have af:=ah.cell af (by first|(simp;done)|exact Dm.mZ hD0 Ac Ac _ a0)
 have ag:=ah.cell ag (by first|(simp;done)|exact Dm.mZ hD0 Ac Ac _ a4)
 have o:=Tj o ah.size
 have w:=ah
 have ao:=Fr.refl [u] aC
 refine ac 4<|ai ((2*i+3:Nat):Int) rfl rfl<|au 2<|jX rfl rfl (fun bJ=>?_) (fun bJ=>?_)
 ·have hi:i<lJ.length/2:=by omega
  obtain⟨bK,bL,aU,dl,dm,bM,dn,aH,bN,br,bs⟩:=A.kH (i:=2*i+2) Ac
  obtain⟨rfl,rfl⟩:ar=bK∧av=bL:=by cases bM;exact⟨rfl,rfl⟩
  obtain⟨bO,bP,aV,dp,dq,bQ,dr,aI,bR,bt,bu⟩:=A.kH (i:=2*i+3) Ac
  obtain⟨rfl,rfl⟩:ar=bO∧av=bP:=by cases bQ;exact⟨rfl,rfl⟩
  have W:HF aC (Dm I al C) (.p t[2*i+2]) (Pt aU):=HF.ph bN br bs
  have X:HF aC (Dm I al C) (.p t[2*i+3]) (Pt aV):=HF.ph bR bt bu
  clear br bs bt bu
  refine au 5<|dR [] 17 fun ds Q dt m=>have c:=c.jP Q.f;have w:=w.jP Q.f;have ao:=ao.jP Q.f;have g:=Tj g Q.size;have l:=Tq l Q.size;have o:=Tj o Q.size;have r:=Q.il r;have f:=f.fr Q.f (by intro ay b;first|(simp at b;done)|(simp only[Tt]at b;subst b;exact⟨fun y=>by have:=U _ y;omega,by first|(left;omega)|(right;omega)⟩));have j:=Tq j Q.size;have W:=W.fr Q.f Ba;have X:=X.fr Q.f Ba;have aH:=Q.cell aH (by first|(simp;done)|exact Dm.mZ hD0 Ac Ac _ a0);have aI:=Q.cell aI (by first|(simp;done)|exact Dm.mZ hD0 Ac Ac _ a0);aG [0,1,2,3]<|DG.take 4 rfl Au Au Au Au Au rfl rfl (fun am bS=>Y.hY F.Ni rfl (bS.il r) rfl)<|aG [5,6]<|gf 7 rfl (fun am=>Y.index F.lq rfl rfl (rfl) AM)<|aG [9,10]<|gf 11 rfl (fun am=>Y.mm (c:=((2*i+3:Nat):Int)) rfl rfl Ac Ac Ac)<|gf 12 rfl (fun am=>Y.index F.lq rfl rfl (rfl) AM) ?_
  refine gQ 8 13 ?_ ?_
  ·refine lC aH rfl<|gn m<|gp 13<|lC aI rfl<|gn m<|gf 14 rfl (fun am=>Y.build (cs:=#[Pt aU,Pt aV]) Au)<|gp 15<|bX rfl ?_
   intro H du Z z a2 a3
   have bT:ap<H:=Tj g z
   have bU:C≤H:=Tq l z
   have bV:u<H:=Tj o z
   have bW:B≤H:=Tq j z
   have bY:=Tq w.size z
   have bZ:=Tq ao.size z
   have ca:=Tq m.size z
   have z:=Tq c.size z
   have c:=c.jP Z.f
   have w:=w.jP Z.f
   have ao:=ao.jP Z.f
   have m:=m.jP Z.f
   have g:=Tj g Z.size
   have l:=Tq l Z.size
   have o:=Tj o Z.size
   have f:=f.fr Z.f (by intro ay b;first|(simp at b;done)|(simp only[Tt]at b;subst b;exact⟨fun y=>by have:=U _ y;omega,by first|(left;omega)|(right;omega)⟩))
   have j:=Tq j Z.size
   have W:=W.fr Z.f Ba
   have X:=X.fr Z.f Ba
   refine gn m<|gp 16<|DL.iu (cs:=#[Pt H]) rfl rfl (F.wX) rfl rfl rfl fun aj bv aa v cb aW=>have cc:ap<aj:=Tj g v;have cd:C≤aj:=Tq l v;have ce:u<aj:=Tj o v;have cf:B≤aj:=Tq j v;have cg:H<aj:=Tj a2 v;have ch:=Tq w.size v;have ci:=Tq ao.size v;have cj:=Tq m.size v;have v:=Tq c.size v;have m:=m.jP aa;have g:=Tj g aa.size;have l:=Tq l aa.size;have o:=Tj o aa.size;have f:=f.fr aa (by intro ay b;first|(simp at b;done)|(simp only[Tt]at b;subst b;exact⟨fun y=>by have:=U _ y;omega,by first|(left;omega)|(right;omega)⟩));have j:=Tq j aa.size;have W:=W.fr aa Ba;have X:=X.fr aa Ba;have a3:=aa.il a3;have a2:=Tj a2 aa.size;gn m<|gp 17 ?_
   have aX:HF bv (fun k=>(Dm I al C) k∨(B≤k∧k<bv.heap.size)) (.p (.mk [.p t[2*i+2],.p t[2*i+3]])) (Pt H):=
    HF.ph (Tk ⟨Ac,Ac⟩) a3 (HR.c (.cons (W.up (fun k hc=>Ts hc)) (.cons (X.up (fun k hc=>Ts hc)) .nil)))
   refine DL.hJ rfl rfl F.wX rfl rfl f.own (hB.hE aW) rfl AQ Ac Ac Ac ?_
   intro ck bw aJ aY aZ
   have ba:B≤bw.heap.size:=by have:=aJ.size;omega
   have hlo':∀x∈hX ax,a1≤x:=fun x ak=>(ik f.own x ak).1
   have cl:∀x∈hX ax,x<B:=fun x ak=>f.lt x (hF.1 ak)
   have f:=f.snoc Ac aE (fun k hc=>by have:=U k hc;omega) aX aJ aY aZ
   have w:=(w.jP aa).put aJ (fun x hx=>Tk A9)
   have r:=aJ.hO (aa.il (Z.il r)) (fun ak=>by have:=hlo' _ ak;omega)
   clear j
   have j:=Tv bw.heap.size
   refine gl<|aG [18,19]<|gp 20<|sc r rfl rfl f.one rfl fun dv bb dw r=>have w:=w.tr bb.f;have f:=f.fr bb.f (by intro ay b;first|(simp at b;done)|(simp only[Tt]at b;subst b;exact⟨fun y=>by have:=U _ y;omega,by first|(left;omega)|(right;omega)⟩));have j:=Tq j bb.size;gl<|gD<|ac 2<|ai ((2*(i+1)+2:Nat):Int) rfl rfl<|au 2 ?_
   refine⟨(i+1,_,_,_,_),⟨w,hi,by simp[aD],r,f,Tq aE ba,j,fun O h1 h2=>?_⟩,by show(lJ.length/2) - (i+1)<(lJ.length/2) - i;omega,rfl⟩
   by_cases hj:O<E.length
   ·rw[TC hj];exact aF O hj h2
   have bc:O=E.length:=by simp only[Tl,TG]at h1;omega
   subst bc
   rw[Tz (Tv _)]
   simp only[UF,TF]
   have e:=tg lJ i (by rw[ox];exact hi) Ac
   simp only[aD,e]
   have h2:=aq (2*i+2) Ac AM
   have bd:=aq (2*i+3) Ac AM
   exact Pr.J8 h2 bd
  refine lC aI rfl<|gn m<|gp 8<|lC aH rfl<|gn m<|gf 14 rfl (fun am=>Y.build (cs:=#[Pt aU,Pt aV]) Au)<|gp 15<|bX rfl ?_
  intro H dx ab z a2 a3
  have bT:ap<H:=Tj g z
  have bU:C≤H:=Tq l z
  have bV:u<H:=Tj o z
  have bW:B≤H:=Tq j z
  have bY:=Tq w.size z
  have bZ:=Tq ao.size z
  have ca:=Tq m.size z
  have z:=Tq c.size z
  have c:=c.jP ab.f
  have w:=w.jP ab.f
  have ao:=ao.jP ab.f
  have m:=m.jP ab.f
  have g:=Tj g ab.size
  have l:=Tq l ab.size
  have o:=Tj o ab.size
  have f:=f.fr ab.f (by intro ay b;first|(simp at b;done)|(simp only[Tt]at b;subst b;exact⟨fun y=>by have:=U _ y;omega,by first|(left;omega)|(right;omega)⟩))
  have j:=Tq j ab.size
  have W:=W.fr ab.f Ba
  have X:=X.fr ab.f Ba
  refine gn m<|gp 16<|DL.iu (cs:=#[Pt H]) rfl rfl (F.wX) rfl rfl rfl fun aj bx ad v cb aW=>have cc:ap<aj:=Tj g v;have cd:C≤aj:=Tq l v;have ce:u<aj:=Tj o v;have cf:B≤aj:=Tq j v;have cg:H<aj:=Tj a2 v;have ch:=Tq w.size v;have ci:=Tq ao.size v;have cj:=Tq m.size v;have v:=Tq c.size v;have m:=m.jP ad;have g:=Tj g ad.size;have l:=Tq l ad.size;have o:=Tj o ad.size;have f:=f.fr ad (by intro ay b;first|(simp at b;done)|(simp only[Tt]at b;subst b;exact⟨fun y=>by have:=U _ y;omega,by first|(left;omega)|(right;omega)⟩));have j:=Tq j ad.size;have W:=W.fr ad Ba;have X:=X.fr ad Ba;have a3:=ad.il a3;have a2:=Tj a2 ad.size;gn m<|gp 17 ?_
  have aX:HF bx (fun k=>(Dm I al C) k∨(B≤k∧k<bx.heap.size)) (.p (.mk [.p t[2*i+2],.p t[2*i+3]])) (Pt H):=
   HF.ph (Tk ⟨Ac,Ac⟩) a3 (HR.c (.cons (W.up (fun k hc=>Ts hc)) (.cons (X.up (fun k hc=>Ts hc)) .nil)))
  refine DL.hJ rfl rfl F.wX rfl rfl f.own (hB.hE aW) rfl AQ Ac Ac Ac ?_
  intro ck bz aL aY aZ
  have ba:B≤bz.heap.size:=by have:=aL.size;omega
  have hlo':∀x∈hX ax,a1≤x:=fun x ak=>(ik f.own x ak).1
  have cl:∀x∈hX ax,x<B:=fun x ak=>f.lt x (hF.1 ak)
  have f:=f.snoc Ac aE (fun k hc=>by have:=U k hc;omega) aX aL aY aZ
  have w:=(w.jP ad).put aL (fun x hx=>Tk A9)
  have r:=aL.hO (ad.il (ab.il r)) (fun ak=>by have:=hlo' _ ak;omega)
  clear j
  have j:=Tv bz.heap.size
  refine gl<|aG [18,19]<|gp 20<|sc r rfl rfl f.one rfl fun dy be dz cm=>have w:=w.tr be.f;have f:=f.fr be.f (by intro ay b;first|(simp at b;done)|(simp only[Tt]at b;subst b;exact⟨fun y=>by have:=U _ y;omega,by first|(left;omega)|(right;omega)⟩));have j:=Tq j be.size;have r:=cm;gl<|gD<|ac 2<|ai ((2*(i+1)+2:Nat):Int) rfl rfl<|au 2 ?_
  refine⟨(i+1,_,_,_,_),⟨w,hi,by simp[aD],r,f,Tq aE ba,j,fun O h1 h2=>?_⟩,by show(lJ.length/2) - (i+1)<(lJ.length/2) - i;omega,rfl⟩
  by_cases hj:O<E.length
  ·rw[TC hj];exact aF O hj h2
  have bc:O=E.length:=by simp only[Tl,TG]at h1;omega
  subst bc
  rw[Tz (Tv _)]
  simp only[UF,TF]
  have e:=tg lJ i (by rw[ox];exact hi) Ac
  simp only[aD,e]
  have h2:=aq (2*i+2) Ac AM
  have bd:=aq (2*i+3) Ac AM
  exact Pr.J8 h2 bd
 refine au 3<|DC.forget [(4,.slice (some ⟨ar,av,none⟩) (q::p::ks).length a8),(6,Pt u),(7,.int .i64 ((2*i+2:Nat):Int))] ⟨rfl,rfl,rfl⟩ (fun a5=>?_)
 refine ac 6<|jX rfl rfl (fun cn=>?_) (fun cn=>?_)
 ·have co:lJ.length%2=1:=by omega
  have d0:i=lJ.length/2:=by omega
  obtain⟨cp,cq,cr,d1,d2,cs,d4,ct,cu,b0,b1⟩:=A.kH (i:=2*i+2) Ac
  obtain⟨rfl,rfl⟩:ar=cp∧av=cq:=by cases cs;exact⟨rfl,rfl⟩
  have aA:HF aC (Dm I al C) (.p t[2*i+2]) (Pt cr):=HF.ph cu b0 b1
  clear b0 b1
  refine au 6<|iX F.lq AM rfl rfl rfl<|lC ct rfl<|au 2<|sc r rfl rfl rfl rfl fun d5 R d6 r=>have c:=c.oR R.f Ac;have g:=Tj g R.size;have A:=A.fr R.f Ba;have l:=Tq l R.size;have J:=J.fr R.f Ba;have K:=K.fr R.f Ba;have o:=Tj o R.size;have f:=f.fr R.f (by intro ay b;first|(simp at b;done)|(simp only[Tt]at b;subst b;exact⟨fun y=>by have:=U _ y;omega,by first|(left;omega)|(right;omega)⟩));have j:=Tq j R.size;have aA:=aA.fr R.f Ba;au 1<|DC.forget [(6,Pt u)] rfl (fun a5=>?_)
  refine ac 3<|bD #[.int .i64 14,Zp,Zp,Zp,Zp,Zs,Zp,Zs,Zp,Pt u,Zp,Zp,Zp,Zp,Zs,Zp,Zl]<|bX rfl ?_
  intro az bf P S cv bg
  have cw:ap<az:=Tj g S
  have cx:C≤az:=Tq l S
  have cy:u<az:=Tj o S
  have cz:B≤az:=Tq j S
  have S:=Tq c.size S
  have c:=c.jP P.f
  have ae:=P.il (R.jK ae Ac)
  have g:=Tj g P.size
  have A:=A.fr P.f Ba
  have l:=Tq l P.size
  have J:=J.fr P.f Ba
  have K:=K.fr P.f Ba
  have af:=P.cell (R.cell af (by first|(simp;done)|exact Dm.mZ hD0 Ac Ac _ a0)) (by first|(simp;done)|exact Dm.mZ hD0 Ac Ac _ a0)
  have ag:=P.cell (R.cell ag (by first|(simp;done)|exact Dm.mZ hD0 Ac Ac _ a4)) (by first|(simp;done)|exact Dm.mZ hD0 Ac Ac _ a4)
  have o:=Tj o P.size
  have f:=f.fr P.f (by intro ay b;first|(simp at b;done)|(simp only[Tt]at b;subst b;exact⟨fun y=>by have:=U _ y;omega,by first|(left;omega)|(right;omega)⟩))
  have j:=Tq j P.size
  have aA:=aA.fr P.f Ba
  have r:=P.il r
  refine au 4 ?_
  obtain⟨a,k,rfl,hL⟩:=f.done
  have c0:E.length=lJ.length/2:=by omega
  have h0:=aq 0 Ac Al
  have h1:=aq 1 Ac Al
  have b2:=aq (2*i+2) Ac AM
  have c1:(L::M::lJ)[2*i+2]'AM=lJ[lJ.length - 1]'Ac:=by{simp only[TZ];congr 1;omega}
  rw[c1]at b2
  have bh:Pr 12 (.mk [.p t[0],.p t[1],.l E,.p t[2*i+2]]) ([105,102,32]++L++[32,116,104,101,110,32]++M++og lJ++[32,101,110,100]):=by rw[HT lJ co];have:=Pr.PN (c:=t[0]) (d:=t[1]) h0 h1 Ac (by rw[ox];omega) aF b2;simpa using this
  have b:HF bf (Dm I aB.heap.size bf.heap.size) (.p (.mk [.p t[0],.p t[1],.l E,.p t[2*i+2]])) (Pt u):=HF.ph (Tk ⟨Ac,Ac⟩) r (HR.c (.cons (J.up (Dm.mono Ac Ac)) (.cons (K.up (Dm.mono Ac Ac)) (.cons (.lh (hL.up (fun k hc=>by rcases hc with hc|hc;exact Dm.mono Ac Ac k hc;exact Tk ⟨Ac,Ac⟩))) (.cons (aA.up (Dm.mono Ac Ac)) .nil)))))
  have bi:=AS (D:=Dm I aB.heap.size bf.heap.size) (Tk ⟨Ac,Ac⟩) bg b bh Al
  exact rZ c ⟨_,rfl,trivial,bi.up (fun _ h=>h) (fun c2 c3 hc=>⟨fun h=>Tu h (show ¬(CA:ByteArray)=iL by decide),fun h=>Tu h (show ¬(CA:ByteArray)=iL by decide),fun h=>Tu h (show ¬(CA:ByteArray)=jn by decide)⟩)⟩
 refine au 3<|DC.forget [(6,Pt u)] rfl (fun a5=>?_)
 refine ac 3<|bD #[.int .i64 14,Zp,Zp,Zp,Zp,Zs,Zp,Zs,Zp,Pt u,Zp,Zp,Zp,Zp,Zs,Zp,Zl]<|bX rfl fun az bj T S cv bg=>have cw:ap<az:=Tj g S;have cx:C≤az:=Tq l S;have cy:u<az:=Tj o S;have cz:B≤az:=Tq j S;have S:=Tq c.size S;have c:=c.jP T.f;have ae:=T.il ae;have g:=Tj g T.size;have A:=A.fr T.f Ba;have l:=Tq l T.size;have J:=J.fr T.f Ba;have K:=K.fr T.f Ba;have af:=T.cell af (by first|(simp;done)|exact Dm.mZ hD0 Ac Ac _ a0);have ag:=T.cell ag (by first|(simp;done)|exact Dm.mZ hD0 Ac Ac _ a4);have o:=Tj o T.size;have r:=T.il r;have f:=f.fr T.f (by intro ay b;first|(simp at b;done)|(simp only[Tt]at b;subst b;exact⟨fun y=>by have:=U _ y;omega,by first|(left;omega)|(right;omega)⟩));have j:=Tq j T.size;au 4 ?_
 obtain⟨a,k,rfl,hL⟩:=f.done
 have c0:E.length=lJ.length/2:=by omega
 have h0:=aq 0 Ac Al
 have h1:=aq 1 Ac Al
 have c4:lJ.length%2=0:=by omega
 have bh:Pr 12 (.mk [.p t[0],.p t[1],.l E,nP]) ([105,102,32]++L++[32,116,104,101,110,32]++M++og lJ++[32,101,110,100]):=by rw[Iw lJ c4];exact Pr.Qk h0 h1 Ac (by rw[ox];omega) aF
 have b:HF bj (Dm I aB.heap.size bj.heap.size) (.p (.mk [.p t[0],.p t[1],.l E,nP])) (Pt u):=HF.ph (Tk ⟨Ac,Ac⟩) r (HR.c (.cons (J.up (Dm.mono Ac Ac)) (.cons (K.up (Dm.mono Ac Ac)) (.cons (.lh (hL.up (fun k hc=>by rcases hc with hc|hc;exact Dm.mono Ac Ac k hc;exact Tk ⟨Ac,Ac⟩))) (.cons .vv .nil)))))
 have bi:=AS (D:=Dm I aB.heap.size bj.heap.size) (Tk ⟨Ac,Ac⟩) bg b bh Al
 exact rZ c ⟨_,rfl,trivial,bi.up (fun _ h=>h) (fun c2 c3 hc=>⟨fun h=>Tu h (show ¬(CA:ByteArray)=iL by decide),fun h=>Tu h (show ¬(CA:ByteArray)=iL by decide),fun h=>Tu h (show ¬(CA:ByteArray)=jn by decide)⟩)⟩
theorem EH(ae:CQ qA lB)(af:Fc qB lC)(ag:CQ q L)(ah:CQ p M):km 101 (.mk Ct ⟨#[]⟩ V0 [] [qA,q,p] [qB] []) ([114,101,100,117,99,101,32]++bx qA lB++[32,97,115,32]++lC++[32,40]++L++[59,32]++M++[41]) (kr (.mk Ct ⟨#[]⟩ V0 [] [qA,q,p] [qB] [])):=by
 intro G f H c hD0 v hw
 obtain⟨aS,aT,aU,aV,aW,aX,aY,aZ,ba,bb,bc,bd,be,bf,rfl⟩:=c.hI
 obtain⟨bg,bh,bi,bj,bk,bl⟩:=c.hV
 obtain⟨bm,bn,bo,ai,bp,aj,ak,al⟩:=c.kF (i:=0) Al
 cases ai
 have am:N.wt qA≤1048576:=by simp only[N.wt,N.h9]at hw;omega
 obtain⟨bq,br,bs,an,bt,bu,bv,bw⟩:=c.kF (i:=1) Al
 cases an
 have bz:N.wt q≤1048576:=by simp only[N.wt,N.h9]at hw;omega
 obtain⟨b0,b1,b2,ao,b3,b4,b5,b6⟩:=c.kF (i:=2) Al
 cases ao
 have b7:N.wt p≤1048576:=by simp only[N.wt,N.h9]at hw;omega
 obtain⟨b8,b9,bA,ap,bB,aq,ar,av⟩:=c.pat (i:=0) Al
 cases ap
 have aw:N.wt qB≤1048576:=by simp only[N.wt,N.h9]at hw;omega
 have ax:=kZ ae
 obtain⟨bC,ay,az,hkc⟩:=c.mv
 have a0:=hT.E2 (n:=2) ay
 have a1:N.h9 [q,p]≤1048576:=by simp only[N.wt,N.h9]at hw⊢;omega
 refine cY Tryz.func101 fun b=>ac 2<|bX rfl fun j a2 bD bE bF g=>au 6<|lD g rfl rfl<|au 7<|lD g rfl rfl<|au 22<|DC.forget [(1,Pt j),(4,.int .i64 3)] ⟨rfl,rfl⟩ (fun r=>?_)
 refine ac 3<|lD g rfl rfl<|iX F.pS Al rfl rfl rfl<|lA (aq.fr b.g Al) ar rfl ?_
 obtain⟨bG,I⟩:=nm a2
 have bH:=b.g.le I
 refine cX (af _ f _ (av.fr b.g Az) (fun k hc=>Tj (hD0 k hc) b.g.size) (v.at b.g) aw) ?_
 rintro _ J bI bJ ⟨m,bK,rfl,K,a3⟩
 obtain⟨a4,a5,bL⟩:=nl J
 rw[←I,←a5]at K
 refine au 6<|DC.forget [(1,Pt j),(4,.int .i64 3),(5,Pt m),(6,.bool true)] ⟨rfl,rfl,rfl,rfl⟩ (fun r=>?_)
 refine ac 3<|lD (Gb g) rfl rfl<|iX F.iI Al rfl rfl rfl<|lA (aj.fr b.g Al) ak rfl ?_
 obtain⟨a6,t⟩:=nm J
 have bM:=b.g.le t
 have bN:a4≤a6:=by rw[t];exact Ac
 refine cX (ax _ f _ (al.fr b.g Az) (fun k hc=>Tj (hD0 k hc) b.g.size) (v.at b.g) am) ?_
 rintro _ O bO bP ⟨u,rfl,a7,bQ,P,a8⟩
 obtain⟨a9,aA,bR⟩:=nl O
 rw[←t,←aA]at P
 rw[←t]at a7
 refine au 6<|DC.forget [(1,Pt j),(4,.int .i64 3),(5,Pt m),(7,Pt u),(6,.bool true),(8,.bool true)] ⟨rfl,rfl,rfl,rfl,rfl,rfl⟩ (fun r=>?_)
 refine ac 3<|lD (Gb g) rfl rfl<|DL.y rfl rfl (Y.sJ (l:=1) F.iI rfl rfl rfl Al Bt) ?_
 obtain⟨w,y⟩:=nm O
 have bS:=b.g.le y
 have bT:a9≤w:=by rw[y];exact Ac
 refine cX ((jW (ks:=[q,p]) (ts:=[L,M]) rfl (fun i h1 h2=>by match i,h1 with|0,_=>exact ag|1,_=>exact ah)) _ f _ _ _ (a0.fr b.g Az) (fun i h=>(az (i+1) Bs).fr b.g Az) (fun k hc=>Tj (hD0 k hc) b.g.size) (v.at b.g) a1) ?_
 rintro _ z bU bV ⟨bW,Q,A,rfl,hgz,B,R⟩
 obtain⟨S,aB,bY⟩:=nl z
 rw[←y,←aB]at B
 have bZ:A.length=2:=hgz
 obtain⟨C,E,T,ca,cb,aC,cc,aD,aE,U,W⟩:=B.kH (i:=0) Ac
 subst aC
 obtain⟨aF,aG,X,cd,ce,aH,cf,aI,aJ,Z,aa⟩:=B.kH (i:=1) Ac
 obtain⟨rfl,rfl⟩:C=aF∧E=aG:=by cases aH;exact⟨rfl,rfl⟩
 have aL:HF z (Dm f w S) (.p A[0]) (Pt T):=HF.ph aE U W
 have aM:HF z (Dm f w S) (.p A[1]) (Pt X):=HF.ph aJ Z aa
 clear U W Z aa
 refine au 6<|DC.forget [(1,Pt j),(4,.int .i64 3),(5,Pt m),(7,Pt u),(9,.slice (some ⟨C,E,none⟩) [q,p].length Q),(6,.bool true),(8,.bool true),(10,.bool true)] ⟨rfl,rfl,rfl,rfl,rfl,rfl,rfl,rfl⟩ (fun r=>?_)
 refine ac 16<|DC.forget [(1,Pt j),(4,.int .i64 3),(5,Pt m),(7,Pt u),(9,.slice (some ⟨C,E,none⟩) [q,p].length Q)] ⟨rfl,rfl,rfl,rfl,rfl⟩ (fun r=>?_)
 refine ac 4<|lD (Gb g) rfl rfl<|au 4<|dF fun cg aN ch ab=>have ci:=aN.size;aK [0,1,2]<|kT 3 rfl (fun o d=>Y.index F.lq rfl rfl (rfl) Al)<|kT 4 rfl (fun o d=>Y.load F.sP rfl (d.cell (Gc aD) Al))<|aK [5]<|kT 6 rfl (fun o d=>Y.index F.lq rfl rfl (rfl) Al)<|kT 7 rfl (fun o d=>Y.load F.sP rfl (d.cell (Gc aI) Al))<|kT 8 rfl (fun o d=>Y.build (cs:=#[Pt u,Pt m,Pt T,Pt X]) Au)<|kP 9<|bX rfl fun aO cj ck cl cm aP=>kN ab.g<|kT 10 rfl (fun o d=>Y.build (cs:=#[.int .i64 16,Zp,Zp,Zp,Zp,Zs,Zp,Zs,Zp,Zp,Zp,Pt aO,Zp,Zp,Zs,Zp,Zl]) Au)<|kP 11<|bX rfl fun cn ad co cp cq aQ=>kN ab.g<|aK [12,13]<|kD<|ac 1 ?_
 have h0:=R 0 Ac Al
 have h1:=R 1 Ac Al
 have aR:=GG (w:=ad) (D:=Dm f G.heap.size ad.heap.size) (Tk ⟨Ac,Ac⟩) aQ (HF.ph (Tk ⟨Ac,Ac⟩) (Gb aP) (HR.c (.cons (P.g.up (Dm.mono Ac Ac)) (.cons (K.g.up (Dm.mono Ac Ac)) (.cons (aL.g.up (Dm.mono Ac Ac)) (.cons (aM.g.up (Dm.mono Ac Ac)) .nil)))))) (Pr.red a8 a3 h0 h1) Al
 exact hD.ia rfl rfl (hH.mk b.g ⟨_,rfl,trivial,aR.up (fun _ h=>h) (fun cr cs hc=>⟨fun h=>Tu h (show ¬(Ct:ByteArray)=iL by decide),fun h=>Tu h (show ¬(Ct:ByteArray)=iL by decide),fun h=>Tu h (show ¬(Ct:ByteArray)=jn by decide)⟩)⟩)
theorem yj(ad:CQ qA lB)(ae:Fc qB lC)(af:CQ q L)(ag:CQ p M):km 101 (.mk Ck ⟨#[]⟩ V0 [] [qA,q,p] [qB] []) ([102,111,114,101,97,99,104,32]++bx qA lB++[32,97,115,32]++lC++[32,40]++L++[59,32]++M++[41]) (kr (.mk Ck ⟨#[]⟩ V0 [] [qA,q,p] [qB] [])):=by
 intro I f ah c hD0 z hw
 obtain⟨aS,aT,aU,aV,aW,aX,aY,aZ,ba,bb,bc,bd,be,bf,rfl⟩:=c.hI
 obtain⟨bg,bh,bi,bj,bk,bl⟩:=c.hV
 obtain⟨bm,bn,bo,ai,bp,aj,ak,al⟩:=c.kF (i:=0) Al
 cases ai
 have am:N.wt qA≤1048576:=by simp only[N.wt,N.h9]at hw;omega
 obtain⟨bq,br,bs,an,bt,bu,bv,bw⟩:=c.kF (i:=1) Al
 cases an
 have bz:N.wt q≤1048576:=by simp only[N.wt,N.h9]at hw;omega
 obtain⟨b0,b1,b2,ao,b3,b4,b5,b6⟩:=c.kF (i:=2) Al
 cases ao
 have b7:N.wt p≤1048576:=by simp only[N.wt,N.h9]at hw;omega
 obtain⟨b8,b9,bA,ap,bB,aq,ar,av⟩:=c.pat (i:=0) Al
 cases ap
 have aw:N.wt qB≤1048576:=by simp only[N.wt,N.h9]at hw;omega
 have ax:=kZ ad
 obtain⟨bC,ay,az,hkc⟩:=c.mv
 have a0:=hT.E2 (n:=2) ay
 have a1:N.h9 [q,p]≤1048576:=by simp only[N.wt,N.h9]at hw⊢;omega
 refine cY Tryz.func101 fun b=>ac 2<|bX rfl fun m a2 bE bF bG g=>au 6<|lD g rfl rfl<|au 7<|lD g rfl rfl<|au 22<|DC.forget [(1,Pt m),(4,.int .i64 3)] ⟨rfl,rfl⟩ (fun d=>?_)
 refine ac 3<|lD g rfl rfl<|iX F.pS Al rfl rfl rfl<|lA (aq.fr b.g Al) ar rfl ?_
 obtain⟨bH,J⟩:=nm a2
 have bI:=b.g.le J
 refine cX (ae _ f _ (av.fr b.g Az) (fun o hc=>Tj (hD0 o hc) b.g.size) (z.at b.g) aw) ?_
 rintro _ K bJ bK ⟨j,bL,rfl,O,a3⟩
 obtain⟨a4,a5,bM⟩:=nl K
 rw[←J,←a5]at O
 refine au 6<|DC.forget [(1,Pt m),(4,.int .i64 3),(5,Pt j),(6,.bool true)] ⟨rfl,rfl,rfl,rfl⟩ (fun d=>?_)
 refine ac 3<|lD (Gb g) rfl rfl<|iX F.iI Al rfl rfl rfl<|lA (aj.fr b.g Al) ak rfl ?_
 obtain⟨a6,v⟩:=nm K
 have bN:=b.g.le v
 have bO:a4≤a6:=by rw[v];exact Ac
 refine cX (ax _ f _ (al.fr b.g Az) (fun o hc=>Tj (hD0 o hc) b.g.size) (z.at b.g) am) ?_
 rintro _ P bP bQ ⟨r,rfl,a7,bR,Q,a8⟩
 obtain⟨a9,aA,bS⟩:=nl P
 rw[←v,←aA]at Q
 rw[←v]at a7
 refine au 6<|DC.forget [(1,Pt m),(4,.int .i64 3),(5,Pt j),(7,Pt r),(6,.bool true),(8,.bool true)] ⟨rfl,rfl,rfl,rfl,rfl,rfl⟩ (fun d=>?_)
 refine ac 3<|lD (Gb g) rfl rfl<|DL.y rfl rfl (Y.sJ (l:=1) F.iI rfl rfl rfl Al Bt) ?_
 obtain⟨A,B⟩:=nm P
 have bT:=b.g.le B
 have bU:a9≤A:=by rw[B];exact Ac
 refine cX ((jW (ks:=[q,p]) (ts:=[L,M]) rfl (fun i h1 h2=>by match i,h1 with|0,_=>exact af|1,_=>exact ag)) _ f _ _ _ (a0.fr b.g Az) (fun i h=>(az (i+1) Bs).fr b.g Az) (fun o hc=>Tj (hD0 o hc) b.g.size) (z.at b.g) a1) ?_
 rintro _ C bV bW ⟨bY,w,E,rfl,hgz,G,R⟩
 obtain⟨S,aB,bZ⟩:=nl C
 rw[←B,←aB]at G
 have ca:E.length=2:=hgz
 obtain⟨t,u,T,cb,cc,aC,cd,aD,aE,U,W⟩:=G.kH (i:=0) Ac
 subst aC
 obtain⟨aF,aG,X,ce,cf,aH,cg,aI,aJ,Z,aa⟩:=G.kH (i:=1) Ac
 obtain⟨rfl,rfl⟩:t=aF∧u=aG:=by cases aH;exact⟨rfl,rfl⟩
 have aL:HF C (Dm f A S) (.p E[0]) (Pt T):=HF.ph aE U W
 have aM:HF C (Dm f A S) (.p E[1]) (Pt X):=HF.ph aJ Z aa
 clear U W Z aa
 refine au 6<|DC.forget [(1,Pt m),(4,.int .i64 3),(5,Pt j),(7,Pt r),(9,.slice (some ⟨t,u,none⟩) [q,p].length w),(6,.bool true),(8,.bool true),(10,.bool true)] ⟨rfl,rfl,rfl,rfl,rfl,rfl,rfl,rfl⟩ (fun d=>?_)
 refine ac 16<|DC.forget [(1,Pt m),(4,.int .i64 3),(5,Pt j),(7,Pt r),(9,.slice (some ⟨t,u,none⟩) [q,p].length w)] ⟨rfl,rfl,rfl,rfl,rfl⟩ (fun d=>?_)
 refine ac 4<|lD (Gb g) rfl rfl<|au 4<|DC.forget [(4,.int .i64 3),(5,Pt j),(7,Pt r),(9,.slice (some ⟨t,u,none⟩) [q,p].length w)] ⟨rfl,rfl,rfl,rfl⟩ (fun d=>?_)
 refine ac 1<|dF fun ch aN ci aO=>have cj:=aN.size;aK [0,1,2]<|kT 3 rfl (fun y k=>Y.index F.lq rfl rfl (rfl) Al)<|kT 4 rfl (fun y k=>Y.load F.sP rfl (k.cell (Gc aD) Al))<|aK [5]<|kT 6 rfl (fun y k=>Y.index F.lq rfl rfl (rfl) Al)<|kT 7 rfl (fun y k=>Y.load F.sP rfl (k.cell (Gc aI) Al))<|kT 8 rfl (fun y k=>Y.build (cs:=#[Pt r,Pt j,Pt T,Pt X,Zp]) Au)<|kP 9<|bX rfl fun H ck cl cm cn aP=>kN aO.g<|aK [10]<|kD<|DC.forget [(4,.int .i64 3),(9,.slice (some ⟨t,u,none⟩) [q,p].length w),(11,Pt H)] ⟨rfl,rfl,rfl⟩ (fun d=>?_)
 refine ac 8<|DC.forget [(11,Pt H)] rfl (fun d=>?_)
 refine ac 3<|bD #[.int .i64 17,Zp,Zp,Zp,Zp,Zs,Zp,Zs,Zp,Zp,Zp,Zp,Pt H,Zp,Zs,Zp,Zl]<|bX rfl fun co ab cp cq cr aQ=>au 4 ?_
 have h0:=R 0 Ac Al
 have h1:=R 1 Ac Al
 have aR:=w7 (w:=ab) (D:=Dm f I.heap.size ab.heap.size) (Tk ⟨Ac,Ac⟩) aQ (HF.ph (Tk ⟨Ac,Ac⟩) (Gb aP) (HR.c (.cons (Q.g.up (Dm.mono Ac Ac)) (.cons (O.g.up (Dm.mono Ac Ac)) (.cons (aL.g.up (Dm.mono Ac Ac)) (.cons (aM.g.up (Dm.mono Ac Ac)) (.cons .vv .nil))))))) (Pr.uh a8 a3 h0 h1) Al
 exact hD.ia rfl rfl (hH.mk b.g ⟨_,rfl,trivial,aR.up (fun _ h=>h) (fun cs ct hc=>⟨fun h=>Tu h (show ¬(Ck:ByteArray)=iL by decide),fun h=>Tu h (show ¬(Ck:ByteArray)=iL by decide),fun h=>Tu h (show ¬(Ck:ByteArray)=jn by decide)⟩)⟩)
theorem y0{x:N}(ag:CQ qA lE)(ah:Fc qB lF)(ai:CQ q L)(aj:CQ p M)(ak:CQ x lB):km 101 (.mk Ck ⟨#[]⟩ V0 [] [qA,q,p,x] [qB] []) ([102,111,114,101,97,99,104,32]++bx qA lE++[32,97,115,32]++lF++[32,40]++L++[59,32]++M++[59,32]++lB++[41]) (kr (.mk Ck ⟨#[]⟩ V0 [] [qA,q,p,x] [qB] [])):=by
 intro O d al c hD0 E hw
 obtain⟨bd,be,bf,bg,bh,bi,bj,bk,bl,bm,bn,bo,bp,bq,rfl⟩:=c.hI
 obtain⟨br,bs,bt,bu,bv,bw⟩:=c.hV
 obtain⟨bz,b0,b1,am,b2,an,ao,ap⟩:=c.kF (i:=0) Al
 cases am
 have aq:N.wt qA≤1048576:=by simp only[N.wt,N.h9]at hw;omega
 obtain⟨b3,b4,b5,ar,b6,b7,b8,b9⟩:=c.kF (i:=1) Al
 cases ar
 have bA:N.wt q≤1048576:=by simp only[N.wt,N.h9]at hw;omega
 obtain⟨bB,bC,bE,av,bF,bG,bH,bI⟩:=c.kF (i:=2) Al
 cases av
 have bJ:N.wt p≤1048576:=by simp only[N.wt,N.h9]at hw;omega
 obtain⟨bK,bL,bM,aw,bN,bO,bP,bQ⟩:=c.kF (i:=3) Al
 cases aw
 have bR:N.wt x≤1048576:=by simp only[N.wt,N.h9]at hw;omega
 obtain⟨bS,bT,bU,ax,bV,ay,az,a0⟩:=c.pat (i:=0) Al
 cases ax
 have a1:N.wt qB≤1048576:=by simp only[N.wt,N.h9]at hw;omega
 have a2:=kZ ag
 obtain⟨bW,a3,a4,hkc⟩:=c.mv
 have a5:=hT.E2 (n:=3) a3
 have a6:N.h9 [q,p,x]≤1048576:=by simp only[N.wt,N.h9]at hw⊢;omega
 refine cY Tryz.func101 fun b=>ac 2<|bX rfl fun r a7 bY bZ ca f=>au 6<|lD f rfl rfl<|au 7<|lD f rfl rfl<|au 15<|lD f rfl rfl<|au 6<|DC.forget [(1,Pt r),(4,.int .i64 4)] ⟨rfl,rfl⟩ (fun g=>?_)
 refine ac 3<|lD f rfl rfl<|iX F.pS Al rfl rfl rfl<|lA (ay.fr b.g Al) az rfl ?_
 obtain⟨cb,P⟩:=nm a7
 have cc:=b.g.le P
 refine cX (ah _ d _ (a0.fr b.g Az) (fun t hc=>Tj (hD0 t hc) b.g.size) (E.at b.g) a1) ?_
 rintro _ Q cd ce ⟨j,cf,rfl,R,a8⟩
 obtain⟨a9,aA,cg⟩:=nl Q
 rw[←P,←aA]at R
 refine au 6<|DC.forget [(1,Pt r),(4,.int .i64 4),(5,Pt j),(6,.bool true)] ⟨rfl,rfl,rfl,rfl⟩ (fun g=>?_)
 refine ac 3<|lD (Gb f) rfl rfl<|iX F.iI Al rfl rfl rfl<|lA (an.fr b.g Al) ao rfl ?_
 obtain⟨aB,v⟩:=nm Q
 have ch:=b.g.le v
 have ci:a9≤aB:=by rw[v];exact Ac
 refine cX (a2 _ d _ (ap.fr b.g Az) (fun t hc=>Tj (hD0 t hc) b.g.size) (E.at b.g) aq) ?_
 rintro _ S cj ck ⟨u,rfl,aC,cl,T,aD⟩
 obtain⟨aE,aF,cm⟩:=nl S
 rw[←v,←aF]at T
 rw[←v]at aC
 refine au 6<|DC.forget [(1,Pt r),(4,.int .i64 4),(5,Pt j),(7,Pt u),(6,.bool true),(8,.bool true)] ⟨rfl,rfl,rfl,rfl,rfl,rfl⟩ (fun g=>?_)
 refine ac 3<|lD (Gb f) rfl rfl<|DL.y rfl rfl (Y.sJ (l:=1) F.iI rfl rfl rfl Al Bt) ?_
 obtain⟨w,G⟩:=nm S
 have cn:=b.g.le G
 have co:aE≤w:=by rw[G];exact Ac
 refine cX ((jW (ks:=[q,p,x]) (ts:=[L,M,lB]) rfl (fun i h1 h2=>by match i,h1 with|0,_=>exact ai|1,_=>exact aj|2,_=>exact ak)) _ d _ _ _ (a5.fr b.g Az) (fun i h=>(a4 (i+1) Bs).fr b.g Az) (fun t hc=>Tj (hD0 t hc) b.g.size) (E.at b.g) a6) ?_
 rintro _ y cp cq ⟨cr,z,A,rfl,hgz,B,H⟩
 obtain⟨I,aG,cs⟩:=nl y
 rw[←G,←aG]at B
 have ct:A.length=3:=hgz
 obtain⟨k,m,U,cu,cv,aH,cw,aI,aJ,W,X⟩:=B.kH (i:=0) Ac
 subst aH
 obtain⟨aL,aM,Z,cx,cy,aN,cz,aO,aP,aa,ab⟩:=B.kH (i:=1) Ac
 obtain⟨rfl,rfl⟩:k=aL∧m=aM:=by cases aN;exact⟨rfl,rfl⟩
 obtain⟨aQ,aR,aS,c0,c1,aT,c2,aU,aV,ad,ae⟩:=B.kH (i:=2) Ac
 obtain⟨rfl,rfl⟩:k=aQ∧m=aR:=by cases aT;exact⟨rfl,rfl⟩
 have aW:HF y (Dm d w I) (.p A[0]) (Pt U):=HF.ph aJ W X
 have aX:HF y (Dm d w I) (.p A[1]) (Pt Z):=HF.ph aP aa ab
 have aY:HF y (Dm d w I) (.p A[2]) (Pt aS):=HF.ph aV ad ae
 clear W X aa ab ad ae
 refine au 6<|DC.forget [(1,Pt r),(4,.int .i64 4),(5,Pt j),(7,Pt u),(9,.slice (some ⟨k,m,none⟩) [q,p,x].length z),(6,.bool true),(8,.bool true),(10,.bool true)] ⟨rfl,rfl,rfl,rfl,rfl,rfl,rfl,rfl⟩ (fun g=>?_)
 refine ac 16<|DC.forget [(1,Pt r),(4,.int .i64 4),(5,Pt j),(7,Pt u),(9,.slice (some ⟨k,m,none⟩) [q,p,x].length z)] ⟨rfl,rfl,rfl,rfl,rfl⟩ (fun g=>?_)
 refine ac 4<|lD (Gb f) rfl rfl<|au 4<|DC.forget [(4,.int .i64 4),(5,Pt j),(7,Pt u),(9,.slice (some ⟨k,m,none⟩) [q,p,x].length z)] ⟨rfl,rfl,rfl,rfl⟩ (fun g=>?_)
 refine ac 1<|dF fun c3 aZ c4 ba=>have c5:=aZ.size;aK [0,1,2]<|kT 3 rfl (fun C o=>Y.index F.lq rfl rfl (rfl) Al)<|kT 4 rfl (fun C o=>Y.load F.sP rfl (o.cell (Gc aI) Al))<|aK [5]<|kT 6 rfl (fun C o=>Y.index F.lq rfl rfl (rfl) Al)<|kT 7 rfl (fun C o=>Y.load F.sP rfl (o.cell (Gc aO) Al))<|kT 8 rfl (fun C o=>Y.build (cs:=#[Pt u,Pt j,Pt U,Pt Z,Zp]) Au)<|kP 9<|bX rfl fun J c6 c7 c8 c9 K=>kN ba.g<|aK [10]<|kD<|DC.forget [(4,.int .i64 4),(9,.slice (some ⟨k,m,none⟩) [q,p,x].length z),(11,Pt J)] ⟨rfl,rfl,rfl⟩ (fun g=>?_)
 refine ac 10<|iX F.lq Al rfl rfl rfl<|lC (Gc aU) rfl<|au 2<|sc K rfl rfl rfl rfl fun cA cB cC K=>au 1<|DC.forget [(11,Pt J)] rfl (fun g=>?_)
 refine ac 3<|bD #[.int .i64 17,Zp,Zp,Zp,Zp,Zs,Zp,Zs,Zp,Zp,Zp,Zp,Pt J,Zp,Zs,Zp,Zl]<|bX rfl fun cD af cE cF cG bb=>au 4 ?_
 have h0:=H 0 Ac Al
 have h1:=H 1 Ac Al
 have h2:=H 2 Ac Al
 have bc:=w7 (w:=af) (D:=Dm d O.heap.size af.heap.size) (Tk ⟨Ac,Ac⟩) bb (HF.ph (Tk ⟨Ac,Ac⟩) (Gb K) (HR.c (.cons (T.g.up (Dm.mono Ac Ac)) (.cons (R.g.up (Dm.mono Ac Ac)) (.cons (aW.g.up (Dm.mono Ac Ac)) (.cons (aX.g.up (Dm.mono Ac Ac)) (.cons (aY.g.up (Dm.mono Ac Ac)) .nil))))))) (Pr.uI aD a8 h0 h1 h2) Al
 exact hD.ia rfl rfl (hH.mk b.g ⟨_,rfl,trivial,bc.up (fun _ h=>h) (fun cH cI hc=>⟨fun h=>Tu h (show ¬(Ck:ByteArray)=iL by decide),fun h=>Tu h (show ¬(Ck:ByteArray)=iL by decide),fun h=>Tu h (show ¬(Ck:ByteArray)=jn by decide)⟩)⟩)
end Go.Proofs.YtlojelcoibpphaaGreatDoor
