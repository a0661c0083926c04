/- FnQueryText, second form: own texts, joined and made short by a program (part 9): for every argument of bulk at most 1048576 the law answers true. -/
import Derived.Test.YtlojelcoibpphaaGreatDoorMx01
import Derived.Test.YtlojelcoibpphaaGreatDoorMx03
import Derived.Test.YtlojelcoibpphaaGreatDoorMx02
import Derived.Test.YtlojelcoibpphaaGreatDoorMx08
set_option maxRecDepth 100000
set_option maxHeartbeats 2000000
set_option linter.unusedVariables false
set_option linter.unusedSimpArgs false
set_option linter.unusedSectionVars false
set_option linter.defProp false
namespace Go.Proofs.YtlojelcoibpphaaGreatDoor
open Go Go.RowKit D Go.Deep Go.Proofs
variable{L M lA lB lC:List UInt8}{m:Nat}{w:World}{t sA sB:ByteArray}{c:Array Value}{q p qA qB qC qD qE:N}{Q P:List N}{S:List ByteArray}{lJ:List (List UInt8)}{bA:Bool}{uA uB:UInt8}
inductive Ll:List UInt8→List ByteArray→List UInt8→Prop
 |nil {L:List UInt8} (hn:iE L ⟨#[59]⟩=false):Ll L [] L
 |cons {p:ByteArray} {ps:List ByteArray} {L L2 L':List UInt8} (ht:iE L ⟨#[59]⟩=true) (h:RS 82 (lx L).2.2 p L2) (r:Ll L2 ps L'):Ll L (p::ps) L'
inductive DP:List UInt8→List ByteArray→List UInt8→Prop
 |none {L:List UInt8} (hn:iE L ⟨#[40]⟩=false):DP L [] L
 |some {p:ByteArray} {ps:List ByteArray} {L L1 L2:List UInt8} (ht:iE L ⟨#[40]⟩=true) (h:RS 82 (lx L).2.2 p L1) (r:Ll L1 ps L2) (ht2:iE L2 ⟨#[41]⟩=true):DP L (p::ps) (lx L2).2.2
inductive DS:List UInt8→List N→List UInt8→Prop
 |nil {L:List UInt8} (hn:iE L ⟨#[100,101,102]⟩=false):DS L [] L
 |cons {x:ByteArray} {ps:List ByteArray} {k:N} {ds:List N} {L r L1 L2 L':List UInt8} (ht:iE L ⟨#[100,101,102]⟩=true) (e:lx (lx L).2.2=(iY,x,r)) (hx:x.size≤1099511627776) (hP:DP r ps L1) (hpn:ps.length≤1048576) (hpz:∀p∈ps,p.size≤1048576) (hc:iE L1 ⟨#[58]⟩=true) (h:RQ 15 [] (lx L1).2.2 k L2) (hsc:iE L2 ⟨#[59]⟩=true) (r:DS (lx L2).2.2 ds L'):DS L ((.mk ⟨#[]⟩ x V0 ps [k] [] [])::ds) L'
theorem RN.wq{w:World}{D:Nat→Prop}(h:RN w D 0 q c):∃b d f g j k l m o p r t,c=#[b,d,f,g,j,k,l,m,o,p,r,t]:=by
 cases h;exact⟨_,_,_,_,_,_,_,_,_,_,_,_,rfl⟩
theorem zw{L L1:List UInt8}(ay:DS L Q L1)(bg:Q.length≤1048576)(bh:RQ 15 [] L1 q M):RQ 47 [] L (.mk Cs ⟨#[]⟩ V0 [] [q] [] Q) M:=by
 intro z C s hs b
 have aM:=b.lt
 have ck:=b.lt
 refine cY Tryz.func47 fun j=>ac 2<|al F.z31 rfl fun r aN cl cm aO k=>au 3 ?_
 obtain⟨bi,cn,co⟩:=nl aN
 have a0:=RN.jw (w:=aN) (D:=(DV [r] z.heap.size bi)) (op:=Cs) (text:=⟨#[]⟩) Ah Ap
 refine bD #[.string Cs,Zs,Zi,Zi,Zs,Zl,Zl,Zl,Zl,Zl,Zl,Zl]<|al F.z31 rfl fun p cp cq cr aP c=>sA (cs:=#[.string Cs,Zs,Zi,Zi,Zs,Zl,Zl,Zl,Zl,Zl,Zl,Zl]) c rfl rfl rfl a0.hA a0.one ?_
 intro aQ ct cu bj
 have c:=bj
 obtain⟨aR,cv,bk⟩:=nl aQ
 have d:=NC.nil aQ 2 61 14 (fun o=>o=r∨o=p) z.heap.size aR
 refine au 3<|lE [C] z (σ:=List N×List UInt8×List N×Value×List (Array Value)×Nat) [(4,4),(6,70)] [(0,Pt C),(2,Pt r),(3,Pt p)] (fun _=>[]) (fun(R,a1,S,H,T,U) v=>DS a1 R L1∧S++R=Q∧At v C s a1∧v.heap[r]? =some (.cells #[Zs,Zs,Zi,Zi,Zs,Zl,Zl,Zl,Zl,Zl,Zl,Zl] 31 (0,0))∧v.heap[p]? =some (.cells #[.string Cs,Zs,Zi,Zi,Zs,Zl,Zl,Zl,Zl,Zl,Zl,H] 31 (0,0))∧NC v 2 61 14 (fun o=>o=r∨o=p) z.heap.size U S H T∧U≤v.heap.size) (fun(R,_)=>R.length) ((Q,L,[],Zl,[],aR)) ?_ ?_
 ·exact⟨j.g,ay,rfl,b.g,(Gb k),c,d,Ac⟩
 clear j b k a0 c d bk ay
 rintro bl ⟨R,a1,S,H,T,U⟩ bm cw ⟨j,ay,az,b,k,c,d,bn⟩
 have aM:=b.lt
 have aO:=hC k
 have aP:=hC c
 have cx:S.length+R.length≤1048576:=by rw[←Tl,az];exact bg
 refine ac 6 ?_
 obtain⟨a,aS,aT,G⟩:=id b
 refine lD G rfl rfl<|au 3 ?_
 cases ay with
 |nil aa=>
  refine cX (jd aa b) ?_
  rintro _ bo cy cz rfl
  refine au 4<|ac 3 ?_
  obtain⟨c0,aU⟩:=nm bo
  have c1:=j.g.le aU
  refine cX (bh _ _ _ hs b.g) ?_
  rintro _ bp c2 c3 ⟨bq,rfl,b,ab⟩
  obtain⟨br,bs,c4⟩:=nl bp
  rw[←aU,←bs]at ab
  have ab:=ab.up (D':=(DV [r,p] z.heap.size br)) Ad
  refine bN (css:=[bq]) F.ic rfl rfl Ag fun aV c5 c6 c7 c8 bt=>au 1<|sc (Gb c) rfl rfl rfl rfl fun a2 c9 cA c=>have c:a2.heap[p]? =some (.cells #[.string Cs,Zs,Zi,Zi,Zs,Zl,Zl,Zl,.slice (some ⟨aV,0,none⟩) 1 1,Zl,Zl,H] 31 (0,0)):=c;au 3 ?_
  obtain⟨bu,cB,cC⟩:=nl a2
  have ad:=RN.nJ (w:=a2) (D:=(DV [r,p] z.heap.size bu)) (op:=Cs) (text:=⟨#[]⟩) Ap Ap (Rw.one (cap:=1) (Gb bt) Ar ab.hA (ab.g.up Af) Ah) Rs.nil Rw.nil ((d.g.rw Ah Ae).mono Av)
  refine lw c rfl ad.hA<|sA (cs:=#[.string Cs,Zs,Zi,Zi,Zs,Zl,Zl,Zl,.slice (some ⟨aV,0,none⟩) 1 1,Zl,Zl,H]) (Gb k) rfl rfl rfl ad.hA ad.one fun cD cE cF k=>au 2 ?_
  obtain rfl:S=Q:=by simpa using az
  exact hD.hZ rfl (by rw[ad.hA];exact F.hN) (hB.hE k) (hH.mk j.g ⟨_,rfl,b.g,ad.g.up oX⟩)
 | @cons x ps bv cG _ cH cI cJ _ ht e hx bw aW bx hc h aX aY=>
  refine cX (jD ht hs b) ?_
  rintro _ cK cL cM ⟨rfl,b⟩
  refine au 11 ?_
  obtain⟨a,aS,aT,G⟩:=b.ob e
  refine lD G rfl rfl<|bD #[.string x,Zl,Zs,Zs,Zi,Zi,Zs,Zl,Zl,Zl,Zl,Zl,Zl,Zl]<|al F.NT rfl fun A cN cO cP bz f=>sA (cs:=#[.string x,Zl,Zs,Zs,Zi,Zi,Zs,Zl,Zl,Zl,Zl,Zl,Zl,Zl]) f rfl rfl rfl rfl Au ?_
  intro aZ cQ cR a3
  have f:=a3
  obtain⟨B,b0,b1⟩:=nl aZ
  have ba:=j.g.le b0
  have cS:U≤B:=by omega
  have cT:A<B:=by omega
  have cU:p<B:=by omega
  have cV:r<B:=by omega
  have cW:C<B:=by omega
  have l:=SC.nil aZ (fun o=>o=r∨o=p∨o=A) B B
  refine au 7<|lD (Gb G) rfl rfl<|au 5<|lD (Gb G) rfl rfl<|au 4<|DL.vy (cs':=(pG s a iY x)) rfl F.Ov F.Ps rfl rfl rfl (Gb G) (TM rfl) rfl fun cZ a4 da G=>have a4:=Sp.mk a4;have db:=a4.size;au 4<|cX (mn (k:=iY) (t:=x) G aS hs) ?_
  rintro _ dc dd de ⟨rfl,b⟩
  rw[aT]at b
  refine au 5 ?_
  cases bw with
  |none aa=>
   refine cX (jd aa b) ?_
   rintro _ df dg dh rfl
   refine au 6<|cX (im hc hs b.g) ?_
   rintro _ b2 di dj ⟨rfl,b⟩
   refine au 4 ?_
   obtain⟨a5,I⟩:=nm b2
   have b3:=j.g.le I
   refine cX (h _ _ _ hs b) ?_
   rintro _ b4 b5 dk ⟨b6,rfl,b,w⟩
   obtain⟨a6,ae,b7⟩:=nl b4
   rw[←I,←ae]at w
   have b8:=b5.l2 I ae
   have w:=w.up (D':=(DV [r,p,A] a5 a6)) Ad
   refine au 1 ?_
   obtain⟨af,ag,ah,ai,aj,ak,am,an,ao,ap,aq,ar,rfl⟩:=w.wq
   refine DL.mK (new:=#[.string x,Zl,af,ag,ah,ai,aj,ak,am,an,ao,ap,aq,ar]) rfl F.hN rfl rfl rfl w.one (Gb f) rfl rfl fun dl a7 dm f=>have a7:=Sp.mk a7;have dn:=a7.size;au 4<|cX (im aX hs b.g) ?_
   rintro _ bb dp dq ⟨rfl,b⟩
   refine au 3<|lD (Gb c) rfl rfl ?_
   obtain⟨a8,b9,bA⟩:=nl bb
   have E:=RN.Qv (w:=bb) (D:=DV [r,p,A] B a8) (text:=x) (s1:=Zl) hx Rs.nil (w.g.up A6)
   refine lw (Gb f) rfl rfl<|bN (css:=[#[.string x,Zl,af,ag,ah,ai,aj,ak,am,an,ao,ap,aq,ar]]) F.wh rfl rfl (by intro o hc;simp only[Tr,Tp,TD]at hc;rcases hc with rfl;exact E.nR) fun bB dr ds bC a9 aA=>DL.hJ rfl rfl F.wh rfl rfl d.g.own (hB.hE aA) (hW (sz:=14) (m:=1) (by intro o hc;simp only[Tr,Tp,TD]at hc;rcases hc with rfl;exact E.g.nR) rfl) (hM Aq) Ae Ae Ac ?_
   intro aB bE W J K
   have y:=d.g.lo';have u:=fun g=>d.g.nx (b:=g);have hL:=fun g=>d.lt (b:=g)
   have d:=d.g.kI Ac As E.g.nR (E.g.up Ai) W J K
   have j:=j.g.put W (fun x hx=>Tk (y x hx))
   have k:=W.hO (Gb k) (u _ As)
   have c:=W.hO (Gb c) (u _ As)
   have b:=b.g.fr W (hL _ Ac)
   have a9:=Tj Ac W.size
   clear y u hL
   obtain⟨bF,aC,bG⟩:=nl bE
   rw[←aC]at d
   exact au 1<|sc c rfl rfl d.one rfl fun bH dt du c=>have c:bH.heap[p]? =some (.cells #[.string Cs,Zs,Zi,Zi,Zs,Zl,Zl,Zl,Zl,Zl,Zl,aB] 31 (0,0)):=c;au 1 ⟨(_,_,_,_,_,_),⟨j.g,aY,by rw[←az];simp only[Ty,TH,TN],b.g,(Gb k),c,d.g,Ac⟩,TY _,trivial⟩
  | @some av aD _ bI bJ bK bL bc bM=>
   refine cX (jD bK hs b) ?_
   rintro _ dv dw dx ⟨rfl,b⟩
   refine au 3<|dR [C] 5 fun dy bO dz aw=>have d0:=bO.size;aG [0]<|gM 1 (Gb f) rfl rfl rfl<|aG [2]<|gp 3<|cX (bL _ _ _ hs b.g) ?_
   rintro _ d1 d2 d4 ⟨rfl,b⟩
   refine gn aw.g<|gp 4<|DL.iu (cs:=#[.string av]) rfl rfl (F.lT) rfl rfl rfl fun d5 d6 aE d7 bP bQ=>have aE:=Sp.mk aE;have d8:=aE.size;gn aw.g<|gp 5<|DL.hJ (news:=#[.string av]) rfl rfl F.lT rfl rfl l.g.own (hB.hE bQ) rfl AQ Ae Ae Ac ?_
   intro bd bR O J K
   have y:=l.g.lo';have u:=fun g=>l.g.nx (b:=g);have hL:=fun g=>l.lt (b:=g)
   have l:=l.g.snoc As J K
   have j:=j.g.put O (fun x hx=>Tk (Tq ba (y x hx)))
   have k:=O.hO (Gb k) (u _ As)
   have c:=O.hO (Gb c) (u _ As)
   have d:=d.g.fr O (fun g aF=>by have:=y g aF;omega)
   have f:=O.hO (Gb f) (u _ As)
   have b:=b.g.fr O (hL _ Ac)
   have bP:=Tj Ac O.size
   clear y u hL
   obtain⟨bS,bT,d9⟩:=nl bR
   rw[←bT]at l
   refine gl<|aG [6]<|gp 7<|sc f rfl rfl l.one rfl fun bU dA dB a3=>have f:=a3;have f:bU.heap[A]? =some (.cells #[(.string x),bd,Zs,Zs,Zi,Zi,Zs,Zl,Zl,Zl,Zl,Zl,Zl,Zl] 61 (0,0)):=f;gl<|gD<|ac 2<|lE [C] z (σ:=List ByteArray×List UInt8×List ByteArray×Value×Nat) [(47,55)] [(0,Pt C),(2,Pt r),(3,Pt p),(4,Pt A)] (fun _=>[]) (fun(X,aH,ax,Y,aI) v=>Ll aH X bJ∧ax++X=av::aD∧At v C s aH∧v.heap[r]? =some (.cells #[Zs,Zs,Zi,Zi,Zs,Zl,Zl,Zl,Zl,Zl,Zl,Zl] 31 (0,0))∧v.heap[p]? =some (.cells #[.string Cs,Zs,Zi,Zi,Zs,Zl,Zl,Zl,Zl,Zl,Zl,H] 31 (0,0))∧NC v 2 61 14 (fun o=>o=r∨o=p) z.heap.size U S H T∧U≤v.heap.size∧v.heap[A]? =some (.cells #[.string x,Y,Zs,Zs,Zi,Zi,Zs,Zl,Zl,Zl,Zl,Zl,Zl,Zl] 61 (0,0))∧SC v (fun o=>o=r∨o=p∨o=A) B aI ax Y∧aI≤v.heap.size∧B≤v.heap.size) (fun(X,_)=>X.length) ((aD,bI,[av],bd,bS)) ?_ ?_
   ·exact⟨j.g,bc,rfl,b.g,(Gb k),(Gb c),d.g,Ac,f,l.g,Ac,Ac⟩
   clear j k c d b l f bc
   rintro bl ⟨X,aH,ax,Y,aI⟩ bm dC ⟨j,bV,aJ,b,k,c,d,bn,f,l,dD,b1⟩
   have aM:=b.lt
   have aO:=hC k
   have aP:=hC c
   have bz:=hC f
   have dE:ax.length+X.length≤1048576:=by rw[←Tl,aJ];exact aW
   refine ac 4 ?_
   cases bV with
   |nil aa=>
    refine cX (jd aa b) ?_
    rintro _ dF dG dH rfl
    refine au 3<|ac 2<|cX (im bM hs b.g) ?_
    rintro _ dI dJ dK ⟨rfl,b⟩
    refine au 3 ?_
    obtain rfl:ax=av::aD:=by simpa using aJ
    refine au 1<|cX (im hc hs b) ?_
    rintro _ bW dL dM ⟨rfl,b⟩
    refine au 4 ?_
    obtain⟨a5,I⟩:=nm bW
    have b3:=j.g.le I
    refine cX (h _ _ _ hs b) ?_
    rintro _ bX bY dN ⟨b6,rfl,b,w⟩
    obtain⟨a6,ae,b7⟩:=nl bX
    rw[←I,←ae]at w
    have b8:=bY.l2 I ae
    have w:=w.up (D':=(DV [r,p,A] a5 a6)) Ad
    refine au 1 ?_
    obtain⟨af,ag,ah,ai,aj,ak,am,an,ao,ap,aq,ar,rfl⟩:=w.wq
    refine DL.mK (new:=#[.string x,Y,af,ag,ah,ai,aj,ak,am,an,ao,ap,aq,ar]) rfl F.hN rfl rfl rfl w.one (Gb f) rfl rfl fun dO aK dP f=>have aK:=Sp.mk aK;have dQ:=aK.size;au 4<|cX (im aX hs b.g) ?_
    rintro _ be dS dT ⟨rfl,b⟩
    refine au 3<|lD (Gb c) rfl rfl ?_
    obtain⟨a8,b9,bA⟩:=nl be
    have E:=RN.Qv (w:=be) (D:=DV [r,p,A] B a8) (text:=x) (s1:=Y) hx ((l.g.rs (Tq aW Ah) (fun x hx=>Tq (bx x hx) Ah)).mono Av) (w.g.up A6)
    refine lw (Gb f) rfl rfl<|bN (css:=[#[.string x,Y,af,ag,ah,ai,aj,ak,am,an,ao,ap,aq,ar]]) F.wh rfl rfl (by intro o hc;simp only[Tr,Tp,TD]at hc;rcases hc with rfl;exact E.nR) fun bB dU dV bC a9 aA=>DL.hJ rfl rfl F.wh rfl rfl d.g.own (hB.hE aA) (hW (sz:=14) (m:=1) (by intro o hc;simp only[Tr,Tp,TD]at hc;rcases hc with rfl;exact E.g.nR) rfl) (hM Aq) Ae Ae Ac ?_
    intro aB bZ Z J K
    have y:=d.g.lo';have u:=fun g=>d.g.nx (b:=g);have hL:=fun g=>d.lt (b:=g)
    have d:=d.g.kI Ac As E.g.nR (E.g.up Ai) Z J K
    have j:=j.g.put Z (fun x hx=>Tk (y x hx))
    have k:=Z.hO (Gb k) (u _ As)
    have c:=Z.hO (Gb c) (u _ As)
    have b:=b.g.fr Z (hL _ Ac)
    have a9:=Tj Ac Z.size
    clear y u hL
    obtain⟨bF,aC,bG⟩:=nl bZ
    rw[←aC]at d
    exact au 1<|sc c rfl rfl d.one rfl fun ca dW dX c=>have c:ca.heap[p]? =some (.cells #[.string Cs,Zs,Zi,Zi,Zs,Zl,Zl,Zl,Zl,Zl,Zl,aB] 31 (0,0)):=c;au 1 ⟨(_,_,_,_,_,_),⟨j.g,aY,by rw[←az];simp only[Ty,TH,TN],b.g,(Gb k),c,d.g,Ac⟩,TY _,trivial⟩
   | @cons bf dY _ dZ _ ht cb cc=>
    refine cX (jD ht hs b) ?_
    rintro _ ea eb ec ⟨rfl,b⟩
    refine au 4<|dR [C] 5 fun ed cd ee aw=>have ef:=cd.size;aG [0]<|gM 1 (Gb f) rfl rfl rfl<|aG [2]<|gp 3<|cX (cb _ _ _ hs b.g) ?_
    rintro _ eg eh ei ⟨rfl,b⟩
    refine gn aw.g<|gp 4<|DL.iu (cs:=#[.string bf]) rfl rfl (F.lT) rfl rfl rfl fun ej ek aL el ce cf=>have aL:=Sp.mk aL;have em:=aL.size;gn aw.g<|gp 5<|DL.hJ (news:=#[.string bf]) rfl rfl F.lT rfl rfl l.g.own (hB.hE cf) rfl AQ Ae Ae Ac ?_
    intro cg ch P J K
    have y:=l.g.lo';have u:=fun g=>l.g.nx (b:=g);have hL:=fun g=>l.lt (b:=g)
    have l:=l.g.snoc As J K
    have j:=j.g.put P (fun x hx=>Tk (Tq ba (y x hx)))
    have k:=P.hO (Gb k) (u _ As)
    have c:=P.hO (Gb c) (u _ As)
    have d:=d.g.fr P (fun g aF=>by have:=y g aF;omega)
    have f:=P.hO (Gb f) (u _ As)
    have b:=b.g.fr P (hL _ Ac)
    have ce:=Tj Ac P.size
    clear y u hL
    obtain⟨en,ci,eo⟩:=nl ch
    rw[←ci]at l
    exact gl<|aG [6]<|gp 7<|sc f rfl rfl l.one rfl fun cj ep eq f=>have f:cj.heap[A]? =some (.cells #[(.string x),cg,Zs,Zs,Zi,Zi,Zs,Zl,Zl,Zl,Zl,Zl,Zl,Zl] 61 (0,0)):=f;gl<|gD ⟨(_,_,_,_,_),⟨j.g,cc,by rw[←aJ];simp only[Ty,TH,TN],b.g,(Gb k),(Gb c),d.g,Ac,f,l.g,Ac,Ac⟩,TY _,trivial⟩
theorem zr{s:ByteArray}{x:N}{L':List UInt8}(hs:s.size≤1099511627776)(h:RQ 15 [] s.data.toList x L')(k:(lx L').1=v8):Calls Tryz.prog 7 #[.string s] w (hH w [] fun t q=>∃f,t=.tuple #[.agg f,.bool true]∧RN q (Dn w.heap.size q.heap.size) 0 x f):=by
 refine cY Tryz.func7 fun j=>ac 2<|al F.z31 rfl fun u G H I J c=>au 5<|bD (pG s 0 ⟨#[]⟩ ⟨#[]⟩)<|bX rfl fun v K L M O g=>au 5<|cX (mn (a:=0) g (TE _) hs) ?_
 rintro _ y P Q ⟨rfl,o⟩
 rw[VD]at o
 refine au 4 ?_
 obtain⟨z,r⟩:=nm y
 have R:=j.g.le r
 refine cX (h _ _ _ hs o) ?_
 rintro _ A S T ⟨l,rfl,o,b⟩
 obtain⟨B,C,U⟩:=nl A
 rw[←r,←C]at b
 have b:=b.up (D':=DV [u,v] z B) (by intro W hc;have h1:=hc.1;have h2:=hc.2;refine⟨Ac,Ac,?_⟩;simp only[Tr,Tp,TD,U9];omega)
 obtain⟨a,X,Z,g⟩:=o
 refine al F.z31 rfl fun aa ab ad ae af p=>sA p rfl rfl rfl b.hA b.one fun ag ah ai p=>au 2<|dR [] 14 fun aj D ak m=>have am:=D.size;gT 0 rfl (fun an E=>Y.jl rfl (E.il (Gb p)) (by rw[b.hA];exact F.hN))<|aG [1,2,3]<|gL 4 (Gb g) rfl rfl rfl<|aG [5,6]<|gQ 7 14 ?_ ?_
 ·refine au 1<|gn m<|gQ 8 14 ?_ ?_
  ·refine au 1<|gn m<|gQ 9 14 ?_ ?_
   ·refine au 1<|gn m<|gQ 10 14 ?_ ?_
    ·refine au 1<|gn m<|gQ 11 14 ?_ ?_
     ·refine lD (Gb g) rfl rfl<|gn m<|gQ 12 14 ?_ ?_
      ·exact sT k rfl rfl<|gn m<|aG [13]<|gp 14<|sA (Gb c) rfl rfl rfl b.hA b.one fun ao ap aq d=>have c:=d;gl<|aG [15]<|gD<|ac 1<|hD.qm rfl (cs:=l) (by rw[b.hA];exact F.hN) (.hE c) rfl (hH.mk j.g ⟨_,rfl,b.g.up oX⟩)
      exact sA (Gb c) rfl rfl rfl b.hA b.one fun ar av aw d=>have c:=d;gl<|gp 12<|sT k rfl rfl<|gl<|aG [13,15]<|gD<|ac 1<|hD.qm rfl (cs:=l) (by rw[b.hA];exact F.hN) (.hE c) rfl (hH.mk j.g ⟨_,rfl,b.g.up oX⟩)
     exact sA (Gb c) rfl rfl rfl b.hA b.one fun ax ay az d=>have c:=d;gl<|gp 11<|lD (Gb g) rfl rfl<|gl<|gp 12<|sT k rfl rfl<|gl<|aG [13,15]<|gD<|ac 1<|hD.qm rfl (cs:=l) (by rw[b.hA];exact F.hN) (.hE c) rfl (hH.mk j.g ⟨_,rfl,b.g.up oX⟩)
    exact sA (Gb c) rfl rfl rfl b.hA b.one fun a0 a1 a2 d=>have c:=d;gl<|gp 10<|au 1<|gl<|gp 11<|lD (Gb g) rfl rfl<|gl<|gp 12<|sT k rfl rfl<|gl<|aG [13,15]<|gD<|ac 1<|hD.qm rfl (cs:=l) (by rw[b.hA];exact F.hN) (.hE c) rfl (hH.mk j.g ⟨_,rfl,b.g.up oX⟩)
   exact sA (Gb c) rfl rfl rfl b.hA b.one fun a3 a4 a5 d=>have c:=d;gl<|gp 9<|au 1<|gl<|gp 10<|au 1<|gl<|gp 11<|lD (Gb g) rfl rfl<|gl<|gp 12<|sT k rfl rfl<|gl<|aG [13,15]<|gD<|ac 1<|hD.qm rfl (cs:=l) (by rw[b.hA];exact F.hN) (.hE c) rfl (hH.mk j.g ⟨_,rfl,b.g.up oX⟩)
  exact sA (Gb c) rfl rfl rfl b.hA b.one fun a6 a7 a8 d=>have c:=d;gl<|gp 8<|au 1<|gl<|gp 9<|au 1<|gl<|gp 10<|au 1<|gl<|gp 11<|lD (Gb g) rfl rfl<|gl<|gp 12<|sT k rfl rfl<|gl<|aG [13,15]<|gD<|ac 1<|hD.qm rfl (cs:=l) (by rw[b.hA];exact F.hN) (.hE c) rfl (hH.mk j.g ⟨_,rfl,b.g.up oX⟩)
 exact sA (Gb c) rfl rfl rfl b.hA b.one fun a9 aA aB c=>gl<|gp 7<|au 1<|gl<|gp 8<|au 1<|gl<|gp 9<|au 1<|gl<|gp 10<|au 1<|gl<|gp 11<|lD (Gb g) rfl rfl<|gl<|gp 12<|sT k rfl rfl<|gl<|aG [13,15]<|gD<|ac 1<|hD.qm rfl (cs:=l) (by rw[b.hA];exact F.hN) (.hE c) rfl (hH.mk j.g ⟨_,rfl,b.g.up oX⟩)
theorem An(ht:iE L C5)(h1:RQ 161 [] (lx L).2.2 q M):RQ 161 [] L (.mk CG ⟨#[]⟩ V0 [] [q] [] []) M:=by
 intro f z s hs b
 have A:=b.lt
 have B:=b.lt
 refine cY Tryz.func161 fun j=>ac 2<|al F.z31 rfl fun k C E G H g=>au 5<|cX (jD ht hs b.g) ?_
 rintro _ o I J ⟨rfl,b⟩
 refine au 5 ?_
 obtain⟨K,l⟩:=nm o
 have O:=j.g.le l
 refine cX (h1 _ _ _ hs b) ?_
 rintro _ p P Q ⟨r,rfl,b,c⟩
 obtain⟨t,u,R⟩:=nl p
 rw[←l,←u]at c
 have c:=c.up (D':=(DV [k] f.heap.size t)) Ad
 refine bN (css:=[r]) F.ic rfl rfl Ag fun v S T U W w=>cX (jA _ _ _ _ _) ?_
 rintro _ m X Y rfl
 obtain⟨y,Z,aa⟩:=nl m
 have d:=RN.r0 (w:=m) (D:=(DV [k] f.heap.size y)) (op:=CG) (text:=⟨#[]⟩) (cap:=1) Ap Ap (Gb w) Ar (c.g.up Af) Ah
 exact sA (cs:=#[.string CG,Zs,Zi,Zi,Zs,Zl,Zl,Zl,.slice (some ⟨v,0,none⟩) 1 1,Zl,Zl,Zl]) (Gb g) rfl rfl rfl d.hA d.one fun ab ad ae g=>au 2<|hD.hZ rfl (by rw[d.hA];exact F.hN) (hB.hE g) (hH.mk j.g ⟨_,rfl,b.g,d.g.up oX⟩)
theorem JX(h:wd (uA::L)≠0):∃b,(uA::L).take (wd (uA::L))=uA::b:=by
 obtain⟨n,c⟩:=Nat.exists_eq_succ_of_ne_zero h
 rw[c];exact⟨_,rfl⟩
theorem oz{L:List UInt8}(m:t.data.toList=uA::M)(h:kM (p6 L)≠uA):iE L t=false:=by
 apply Bool.eq_false_iff.2
 intro ht
 simp only[iE,Tx,TO,TA]at ht
 obtain⟨hk,hx⟩:=ht
 have hl:(lx L).2.1.data.toList=uA::M:=by rw[hx,m]
 have e:lx L=p5 (p6 L):=rfl
 rw[e]at hk hl
 revert hk hl h
 generalize p6 L=o
 intro h hk hl
 cases o with
 |nil=>rcases hk with hk|hk<;>cases hk
 |cons b c=>
  simp only[kM]at h
  unfold p5 at hk hl
  by_cases h1:wd (b::c)≠0
  ·simp only[TU h1]at hl
   obtain⟨p,d⟩:=JX h1
   rw[d]at hl
   simp only[ba,Ve]at hl
   exact h hl.1
  simp only[TI h1]at hk hl
  by_cases h2:b=34
  ·simp only[TU h2]at hk;rcases hk with hk|hk<;>cases hk
  simp only[TI h2]at hk hl
  by_cases g:b=46∧wd c≠0
  ·simp only[TU g]at hk;rcases hk with hk|hk<;>cases hk
  simp only[TI g]at hk hl
  by_cases j:b=36∧wd c≠0
  ·simp only[TU j]at hk;rcases hk with hk|hk<;>cases hk
  simp only[TI j]at hk hl
  by_cases k:b=64∧wd c≠0
  ·simp only[TU k]at hk;rcases hk with hk|hk<;>cases hk
  simp only[TI k]at hk hl
  by_cases l:p4 b=true
  ·simp only[TU l]at hk;rcases hk with hk|hk<;>cases hk
  simp only[TI l]at hk hl
  unfold sg at hl
  cases hf:ly.find? (fun s=>s.data.toList.isPrefixOf (b::c))with
  |some s=>
   rw[hf]at hl
   have f:=List.find?_some hf
   have d:s.data.toList=uA::M:=hl
   rw[d]at f
   simp only[List.isPrefixOf,Tx,Uh]at f
   exact h f.1.symm
  |none=>
   rw[hf]at hl
   simp only[ba,List.take,Ve]at hl
   exact h hl.1
theorem oa(hc:jK uA=false)(b:t.data.toList=uB::lA)(h:uA≠uB):iE (uA::L++M) t=false:=
 oz b (by rw[TH,od hc];exact h)
theorem jB(e:lx L=(sB,t,M))(h:t≠sA):iE L sA=false:=by rw[sS e,Ti h,VQ]
theorem jj(e:lx L=(jU,t,M)):iE L t=true:=by rw[sS e,Th (rfl:t=t)];rfl
theorem kz(e:lx L=(iY,t,M)):iE L t=true:=by rw[sS e,Th (rfl:t=t)];rfl
theorem DR(c:List UInt8):∀b,1≤b∧b≤24→lx (mI b++32::c)=(if b=14∨b=15 then iY else jU,jQ b,32::c)
 |0,h=>by omega
 |1,_=>rfl
 |2,_=>rfl
 |3,_=>rfl
 |4,_=>rfl
 |5,_=>rfl
 |6,_=>rfl
 |7,_=>rfl
 |8,_=>rfl
 |9,_=>rfl
 |10,_=>rfl
 |11,_=>rfl
 |12,_=>rfl
 |13,_=>rfl
 |14,_=>rfl
 |15,_=>rfl
 |16,_=>rfl
 |17,_=>rfl
 |18,_=>rfl
 |19,_=>rfl
 |20,_=>rfl
 |21,_=>rfl
 |22,_=>rfl
 |23,_=>rfl
 |24,_=>rfl
 |_+25,h=>by omega
structure Fo(t L:List UInt8):Prop where
 nm:jt false (kM L)=false
 dt:iJ t=true→kM L≠46
 st:(lx L).1≠kU
 sl:kM L≠47
 pr:iE L CV=false
structure NS(L:List UInt8):Prop where
 f:(lx L).1≠kB
 b:iE L CN=false
 q:iE L CH=false
 d:iE L CE=false
theorem NS.ts(h:NS L)(b:N):TS 0 b L b L:=.nil h.f h.b h.q h.d
def RO:List ByteArray:=[C9,CR,Ed,C1,CU,C6,CS,CW,⟨#[]⟩]
def LU(x:ByteArray):Bool:=RO.any (fun y=>decide (x=y))
structure Cl(L:List UInt8):Prop where
 nm:jt false (kM L)=false
 dt:kM L≠46
 sl:kM L≠47
 tk:LU (lx L).2.1=true
 kd:(lx L).1=jU∨(lx L).1=iY∨(lx L).1=v8
theorem Cl.no(h:Cl L){x:ByteArray}(hx:LU x=false):iE L x=false:=by
 unfold iE
 rw[Ti (fun e:(lx L).2.1=x=>by have:=h.tk;rw[e,hx]at this;cases this),VQ]
theorem Cl.kn(h:Cl L)(h1:t≠jU)(h2:t≠iY)(b:t≠v8):(lx L).1≠t:=fun e=>by
 rcases h.kd with h|h|h<;>rw[h]at e
 ·exact h1 e.symm
 ·exact h2 e.symm
 ·exact b e.symm
theorem Cl.fo(h:Cl L)(b:List UInt8):Fo b L:=⟨h.nm,fun _=>h.dt,h.kn Ah Ah Ah,h.sl,h.no rfl⟩
theorem Cl.ns(h:Cl L):NS L:=⟨h.kn Ah Ah Ah,h.no Ah,h.no Ah,h.no Ah⟩
theorem Cl.lo(h:Cl L)(n:Nat):rI n L=false:=by
 have c:(iW n).all (fun b=> !LU b)=true:=by
  match n with
  |0=>decide|1=>decide|2=>decide|3=>decide|4=>decide|_+5=>exact(by decide:(iW 5).all (fun b=> !LU b)=true)
 unfold rI
 rw[List.any_eq_false.2 (fun b d=>by rw[TA];intro e;have:=Uk.1 c b d;rw[←e,h.tk]at this;cases this),VQ]
theorem j4{c:UInt8}{L:List UInt8}(hc:c∈[41,93,59,58]):Cl (c::L)∧lx (c::L)=(jU,ba [c],L):=by
 simp only[Tr,Tp,TD]at hc
 rcases hc with rfl|rfl|rfl|rfl
 all_goals exact⟨⟨rfl,(fun h=>by cases h),(fun h=>by cases h),rfl,Ts rfl⟩,rfl⟩
theorem Kh:Cl []:=⟨rfl,by decide,by decide,rfl,Tk (Tk rfl)⟩
abbrev LV(n:Nat)(L:List UInt8)(x:N)(L':List UInt8):Prop:=kO 0 118 [.int .i64 (n:Int)] L x L'
theorem II{x:N}{k:Nat}(hk:k≤5)(h:LV (k+1) M x L)(b:rI k L=false):LV k M x L:=Fq hk h b
theorem Ej{d c:List UInt8}{x:N}{n:Nat}(b:Nat)(hj:n+b≤6)(h:LV (n+b) d x c)(f:∀i,n≤i→i<n+b→rI i c=false):LV n d x c:=by
 induction b with
 |zero=>exact h
 |succ b g=>exact g Ac (II (k:=n+b) Ac h (f (n+b) Ac Ac)) (fun i h1 h2=>f i h1 Ac)
theorem mE{x:N}(n:Nat)(c:n≤6)(h:RQ 129 [] M x L)(b:∀i,n≤i→i≤5→rI i L=false):LV n M x L:=by
 refine Ej (6 - n) Ac ?_ (fun i h1 h2=>b i h1 Ac)
 have e:n+(6 - n)=6:=by omega
 rw[e]
 exact Fs h
theorem ti{x:N}(h:LV 0 M x L)(hc:Cl L):RQ 84 [] M x L:=xP h (hc.no rfl)
theorem tz{x:N}(h:RQ 84 [] L x M)(hc:Cl M)(b:iE L Cs=false):RQ 15 [] L x M:=
 vZ (nt h (.nil (hc.no rfl))) (hc.no rfl) b
theorem q3{x:N}(h:RQ 129 [] L x M)(hc:Cl M)(b:iE L Cs=false):RQ 15 [] L x M:=
 tz (ti (mE 0 Ah h (fun i _ _=>hc.lo i)) hc) hc b
structure St(t:List UInt8)(neg:Bool):Prop where
 c:∃c r,t=c::r∧jK c=false∧(c≠93∧c≠58∧c≠125∧c≠61)∧(neg=false→c≠45)
 d:∀L,jt false (kM L)=false→iE (t++L) Cs=false
theorem St.nn(h:St L false)(b:List UInt8):iE (L++b) C5=false:=by
 obtain⟨d,f,rfl,h1,_,c⟩:=h.c
 exact oa h1 rfl (c rfl)
theorem St.mono(h:St L false):St L true:=by
 obtain⟨b,c,e,h1,h2,_⟩:=h.c
 exact⟨⟨b,c,e,h1,h2,fun h=>by cases h⟩,h.d⟩
structure Te(x:N)(t:List UInt8):Prop where
 st:St t false
 rd:∀L,Fo t L→∀m q' L',TS m x L q' L'→RQ 135 [] (t++L) q' L'
theorem Te.u{x:N}(h:Te x M)(b:Fo M L)(c:NS L)(d:iE L Cy=false):RQ 129 [] (M++L) x L:=
 tf (h.st.nn L) (h.rd L b _ _ _ (c.ts x)) (xT d)
theorem Te.pipe{x:N}(h:Te x M)(hc:Cl L):RQ 15 [] (M++L) x L:=
 q3 (h.u (hc.fo M) hc.ns (hc.no rfl)) hc (h.st.d L hc.nm)
structure S0(t:List UInt8):Prop where
 c:∃c r,t=c::r∧jK c=false∧c≠93∧c≠58∧c≠125
theorem St.s0(h:St L bA):S0 L:=let⟨c,r,e,h1,h2,_⟩:=h.c;⟨c,r,e,h1,h2.1,h2.2.1,h2.2.2.1⟩
theorem S0.no(h:S0 L)(b:List UInt8):iE (L++b) CR=false∧iE (L++b) C1=false∧iE (L++b) C3=false:=by
 obtain⟨f,g,rfl,h1,h2,c,d⟩:=h.c
 exact⟨oa h1 rfl h2,oa h1 rfl c,oa h1 rfl d⟩
structure Pq(x:N)(t:List UInt8):Prop where
 st:S0 t
 rd:∀L,Cl L→RQ 15 [] (t++L) x L
theorem Te.pp{x:N}(h:Te x L):Pq x L:=⟨h.st.s0,fun b hc=>h.pipe hc⟩
theorem ml{r:List UInt8}(h1:jK uA=false)(h2:(uA≠93∧uA≠58∧uA≠125∧uA≠61)∧uA≠100)(b:bA=false→uA≠45):St (uA::r) bA:=
 ⟨⟨uA,r,rfl,h1,h2.1,b⟩,fun c _=>oa h1 rfl h2.2⟩
theorem tt{c:UInt8}{neg:Bool}(hl:∃b,L=c::b)(h1:jK c=false)(h2:(c≠93∧c≠58∧c≠125∧c≠61)∧c≠100)(d:neg=false→c≠45):St L neg:=by
 obtain⟨b,rfl⟩:=hl;exact ml h1 h2 d
theorem Te.par{x:N}(h:∀b,Cl b→RQ 15 [] (L++b) x b):Te x ([40]++L++[41]):=by
 refine⟨by rw[show[40]++L++[41]=40::(L++[41]) by simp];exact ml rfl Ah (fun _=>by decide),fun b g j k l d=>?_⟩
 obtain⟨hc,e⟩:=j4 (c:=41) (L:=b) Ah
 have h1:=h (41::b) hc
 have f:([40]++L++[41])++b=40::(L++41::b):=by simp
 rw[f]
 refine iZ (L1:=b) ?_ d
 have:=yx (L:=40::(L++41::b)) (r:=L++41::b) rfl h1 (jj e)
 rwa[e]at this
theorem MQ{t:List UInt8}{R:List UInt8}(f:1≤m∧m≤24):Fo t (32::(mI m++32::R))∧NS (32::(mI m++32::R))∧iE (32::(mI m++32::R)) Cy=false:=by
 have e:lx (32::(mI m++32::R))=(if m=14∨m=15 then iY else jU,jQ m,32::R):=DR R m f
 have hk:∀c,c≠iY→c≠jU→(lx (32::(mI m++32::R))).1≠c:=fun c h1 h2=>by
  rw[e];intro h;simp only at h
  split at h
  ·exact h1 h.symm
  exact h2 h.symm
 have b:∀d:ByteArray,((List.range 25).all fun m=>m==0||decide (jQ m≠d))=true→iE (32::(mI m++32::R)) d=false:=fun d g=>by
  refine jB e ?_
  have:=Uk.1 g m (UH.2 Ac)
  simp only[TO,Uh,TA]at this
  rcases this with h|h
  ·omega
  exact h
 exact⟨⟨rfl,(fun _=>(by decide:(32:UInt8)≠46)),hk _ Ah Ah,(by decide:(32:UInt8)≠47),b _ Ah⟩,⟨hk _ Ah Ah,b _ Ah,b _ Ah,b _ Ah⟩,b _ Ah⟩
def n7(o:Nat):Nat:=if o=3∨o=4 then 4 else if o=5∨o=6∨o=7 then 5 else if 8≤o∧o≤13 then 3 else if o=14 then 2 else if o=15 then 1 else 0
theorem xE(b:1≤m∧m≤24)(i:Nat)(hi:i≤5):rI i (32::(mI m++32::L))=(decide (i=n7 m)&&decide (3≤m)&&decide (m≠16)):=by
 have e:lx (32::(mI m++32::L))=(if m=14∨m=15 then iY else jU,jQ m,32::L):=DR L m b
 have c:∀m,m<25→∀i,i<6→m=0∨((decide ((if m=14∨m=15 then iY else jU)=jU)||decide ((if m=14∨m=15 then iY else jU)=iY))&&(iW i).any (fun d=>decide (jQ m=d)))=(decide (i=n7 m)&&decide (3≤m)&&decide (m≠16)):=by decide
 have:=(c m Ac i Ac).resolve_left Ac
 unfold rI
 rw[e]
 exact this
theorem zB{a:List UInt8}(d:Te q a):St (a++(if m=2 then[]else[32])++mI m++[32]++L) true:=by
 obtain⟨b,c,rfl,h1,h2,g⟩:=d.st.c
 refine⟨⟨b,c++(if m=2 then[]else[32])++mI m++[32]++L,by simp,h1,h2,fun h=>by cases h⟩,fun f hL=>?_⟩
 have:(b::c++(if m=2 then[]else[32])++mI m++[32]++L)++f=(b::c)++((if m=2 then[]else[32])++mI m++[32]++L++f):=by simp
 rw[this]
 refine d.st.d _ ?_
 split
 ·rename_i h;subst h;rfl
 rfl
theorem I6{a:List UInt8}(d:1≤m∧m≤24)(f:Te q a)(g:Te p L):Pq (.mk (jQ m) ⟨#[]⟩ V0 [] [q,p] [] []) (a++(if m=2 then[]else[32])++mI m++[32]++L):=by
 refine⟨(zB f).s0,fun b hc=>?_⟩
 by_cases h2:m=2
 ·subst h2
  have j:(a++(if 2=2 then[]else[32])++mI 2++[32]++L)++b=a++(44::32::(L++b)):=by simp[mI]
  rw[j]
  have e:lx (44::32::(L++b))=(jU,CM,32::(L++b)):=rfl
  have hu:RQ 129 [] (a++(44::32::(L++b))) q (44::32::(L++b)):=f.u ⟨rfl,(fun _=>(by decide:(44:UInt8)≠46)),(by rw[e];exact(by decide:jU≠kU)),(by decide:(44:UInt8)≠47),jB e Ah⟩ ⟨by rw[e];exact(by decide:jU≠kB),jB e Ah,jB e Ah,jB e Ah⟩ (jB e Ah)
  have B:∀i,0≤i→i≤5→rI i (44::32::(L++b))=false:=fun i _ hi=>by
   unfold rI;rw[e]
   match i,hi with
   |0,_=>rfl
   |1,_=>rfl
   |2,_=>rfl
   |3,_=>rfl
   |4,_=>rfl
   |5,_=>rfl
  have k:RQ 84 [] (a++(44::32::(L++b))) q (44::32::(L++b)):=xP (mE 0 Ah hu B) (jB e Ah)
  have C:RQ 84 [] (L++b) p b:=ti (mE 0 Ah (g.u (hc.fo L) hc.ns (hc.no rfl)) (fun i _ _=>hc.lo i)) hc
  have D:CT 1 q (44::32::(L++b)) (.mk CM ⟨#[]⟩ V0 [] [q,p] [] []) b:=.cons (jj e) (by rw[e];exact C) (.nil (hc.no rfl))
  exact vZ (nt k D) (hc.no rfl)<|f.st.d _ rfl
 have j:(a++(if m=2 then[]else[32])++mI m++[32]++L)++b=a++(32::(mI m++32::(L++b))):=by rw[TI h2];simp
 rw[j]
 obtain⟨E,F,G⟩:=MQ (t:=a) (R:=L++b) d
 have e:lx (32::(mI m++32::(L++b)))=(if m=14∨m=15 then iY else jU,jQ m,32::(L++b)):=DR (L++b) m d
 have hu:=f.u E F G
 have r:RQ 129 [] (L++b) p b:=g.u (hc.fo L) hc.ns (hc.no rfl)
 have l:iE (a++(32::(mI m++32::(L++b)))) Cs=false:=f.st.d _ rfl
 by_cases h1:m=1
 ·subst h1
  have c:lx (32::(mI 1++32::(L++b)))=(jU,CI,32::(L++b)):=e
  have k:RQ 84 [] _ q _:=xP (mE 0 Ah hu (fun i _ hi=>by rw[xE d i hi];simp)) (jB c Ah)
  refine KL (nt k (.nil (jB c Ah))) (jj c) ?_ l
  rw[c]
  exact g.pipe hc
 by_cases u:m=16
 ·subst u
  have c:lx (32::(mI 16++32::(L++b)))=(jU,CY,32::(L++b)):=e
  have H:RQ 84 [] (L++b) p b:=ti (mE 0 Ah r (fun i _ _=>hc.lo i)) hc
  refine tz (LS (mE 0 Ah hu (fun i _ hi=>by rw[xE d i hi];simp)) (jj c) (by rw[c];exact H)) hc l
 have o:n7 m≤5:=by unfold n7;(repeat' split);all_goals omega
 have v:LV (n7 m+1) _ q _:=mE (n7 m+1) Ac hu (fun i h1 hi=>by rw[xE d i hi,Ti Ac];rfl)
 have w:LV (n7 m+1) (L++b) p b:=mE (n7 m+1) Ac r (fun i _ _=>hc.lo i)
 have y:rI (n7 m) (32::(mI m++32::(L++b)))=true:=by rw[xE d _ o,Th (rfl:n7 m=n7 m),Th (by omega:3≤m),Th u];rfl
 have z:(lx (32::(mI m++32::(L++b)))).2.1.size≤1099511627776:=by
  rw[e]
  have I:∀m,m<25→(jQ m).size≤1099511627776:=by decide
  exact I m Ac
 have J:LV (n7 m) (a++(32::(mI m++32::(L++b)))) (.mk (jQ m) ⟨#[]⟩ V0 [] [q,p] [] []) b:=by
  have K:(lx (32::(mI m++32::(L++b)))).2.1=jQ m:=by rw[e]
  have A:(lx (32::(mI m++32::(L++b)))).2.2=32::(L++b):=by rw[e]
  rw[←K]
  by_cases M:n7 m=0∨n7 m=3
  ·exact FG o v y (by rw[A];exact w) M z
  exact He o v y (by rw[A];exact w) Ac (hc.lo _) z
 refine tz (ti ?_ hc) hc l
 refine Ej (n:=0) (n7 m) Ac ?_ (fun i _ _=>hc.lo i)
 rw[T9];exact J
theorem B9(h:uA≠61):lx (45::uA::L)=(jU,C5,uA::L):=by
 refine wg rfl rfl Ah (fun h=>by cases h) rfl (sI fun s hs=>?_) rfl
 simp only[ly,Tr,Tp,TD]at hs
 have b:¬(61:UInt8)=uA:=fun e=>h e.symm
 rcases hs with rfl|rfl|rfl|rfl|rfl|rfl|rfl|rfl|rfl|rfl|rfl|rfl|rfl|rfl<;>simp[List.isPrefixOf,b]
theorem HN{x:N}(h:Te x M)(d:Fo M L)(f:NS L)(g:iE L Cy=false):RQ 129 [] ([45]++M++L) (.mk CG ⟨#[]⟩ V0 [] [x] [] []) L:=by
 have hu:=h.u d f g
 obtain⟨b,c,rfl,h1,h2,j⟩:=h.st.c
 have e:lx ([45]++(b::c)++L)=(jU,C5,(b::c)++L):=B9 h2.2.2.2
 exact FH (jj e) (by rw[e];exact hu)
theorem KK{x:N}(h:Te x L):Pq (.mk CG ⟨#[]⟩ V0 [] [x] [] []) ([45]++L):=by
 have hs:St ([45]++L) true:=ml (r:=L) rfl Ah (fun h=>by cases h)
 exact⟨hs.s0,fun b hc=>q3 (HN h (hc.fo L) hc.ns (hc.no rfl)) hc (hs.d b hc.nm)⟩
theorem Ke(h:jt false (kM L)=false)(h2:kM L≠46):lx (46::L)=(jU,CE,L):=by
 refine wg rfl rfl Ah (fun _=>JD h) rfl (sI fun s hs=>?_) rfl
 have b:¬(46:UInt8)=kM L:=fun e=>h2 e.symm
 simp only[ly,Tr,Tp,TD]at hs
 cases L with
 |nil=>rcases hs with rfl|rfl|rfl|rfl|rfl|rfl|rfl|rfl|rfl|rfl|rfl|rfl|rfl|rfl<;>simp[List.isPrefixOf]
 |cons c d=>
  simp only[kM]at b
  rcases hs with rfl|rfl|rfl|rfl|rfl|rfl|rfl|rfl|rfl|rfl|rfl|rfl|rfl|rfl<;>simp[List.isPrefixOf,b]
theorem MC(h2:kM L≠47):lx (63::L)=(jU,CH,L):=by
 refine wg rfl rfl Ah (fun h=>by cases h) rfl (sI fun s hs=>?_) rfl
 have b:¬(47:UInt8)=kM L:=fun e=>h2 e.symm
 simp only[ly,Tr,Tp,TD]at hs
 cases L with
 |nil=>rcases hs with rfl|rfl|rfl|rfl|rfl|rfl|rfl|rfl|rfl|rfl|rfl|rfl|rfl|rfl<;>simp[List.isPrefixOf]
 |cons c d=>
  simp only[kM]at b
  rcases hs with rfl|rfl|rfl|rfl|rfl|rfl|rfl|rfl|rfl|rfl|rfl|rfl|rfl|rfl<;>simp[List.isPrefixOf,b]
abbrev nG(s:ByteArray):Prop:=s.size≤1048576
theorem rr{s:ByteArray}(h:nG s):s.size≤1099511627776:=Tq h Ah
theorem zs:Te (.mk CE ⟨#[]⟩ V0 [] [] [] []) [46]:=
 ⟨ml rfl Ah (fun _=>by decide),fun d b f g j c=>iZ (yS (Ke b.nm (b.dt rfl)) b.st) c⟩
theorem IP:Te (.mk CL ⟨#[]⟩ V0 [] [] [] []) [46,46]:=
 ⟨ml rfl Ah (fun _=>by decide),fun b d f g j c=>iZ (xY (L:=46::46::b) rfl) c⟩
theorem Jo{s:ByteArray}(hs:jI s.data.toList)(b:nG s):Te (mu s) (36::s.data.toList):=
 ⟨ml rfl Ah (fun _=>by decide),fun f c g j k d=>by
  have e:=mQ hs c.nm
  rw[iO]at e
  exact iZ (x5 e (rr b)) d⟩
theorem qf{s:ByteArray}(h:s∈ri):∃b,s.data.toList=64::b∧jI b=true∧nG s:=by
 simp only[ri,Tr,Tp,TD]at h
 rcases h with rfl|rfl|rfl|rfl|rfl|rfl|rfl|rfl|rfl<;>exact⟨_,rfl,rfl,by decide⟩
theorem Ji{s:ByteArray}(hs:s∈ri):Te (.mk Cz s V0 [] [] [] []) s.data.toList:=by
 obtain⟨g,e,hw,d⟩:=qf hs
 rw[e]
 refine⟨ml rfl Ah (fun _=>by decide),fun j b k l m f=>?_⟩
 have c:=zl hw b.nm
 rw[←e,iO]at c
 exact iZ (yd c (rr d) b.st) f
theorem sx(hw:jI L)(hu:∀b,jt false (kM b)=false→jt false (kM (M++b))=false)(c:ba L≠Cs):St (L++M) false:=by
 obtain⟨d,f,rfl,hc⟩:=sn hw
 refine⟨⟨d,f++M,rfl,zg hc,?_,fun _ h=>?_⟩,fun b hL=>?_⟩
 ·refine⟨?_,?_,?_,?_⟩<;>(intro h;subst h;cases hc)
 ·subst h;cases hc
 rw[Ty]
 exact jB (kY hw (hu b hL)) c
theorem nH{w u:List UInt8}{x:N}(hw:jI w)(hu:∀b,jt false (kM b)=false→jt false (kM (u++b))=false)(d:ba w≠Cs)
  (h:∀b,Fo (w++u) b→kO 0 149 [.string (ba w)] (u++b) x b):Te x (w++u):=
 ⟨sx hw hu d,fun b c g j k f=>by
  rw[Ty]
  exact iZ (oe (kY hw (hu b c.nm)) (h b c)) f⟩
theorem D8{x:N}(hw:jI L)(c:ba L≠Cs)(h:∀b,kO 0 149 [.string (ba L)] b x b):Te x L:=by
 have:=nH (u:=[]) hw (fun b h=>h) c (fun b _=>h b)
 rwa[T3]at this
theorem wJ:Te (.mk Cr ⟨#[]⟩ (.mk 0 0 ⟨#[]⟩ [] [] []) [] [] [] []) [110,117,108,108]:=D8 rfl Ah (fun b=>yy)
theorem xH:Te (.mk Cr ⟨#[]⟩ (.mk 2 0 ⟨#[]⟩ [] [] []) [] [] [] []) [116,114,117,101]:=D8 rfl Ah (fun b=>yP)
theorem u2:Te (.mk Cr ⟨#[]⟩ (.mk 1 0 ⟨#[]⟩ [] [] []) [] [] [] []) [102,97,108,115,101]:=D8 rfl Ah (fun b=>wk)
theorem Ku{s:ByteArray}(hs:jI s.data.toList)(c:nG s):Te (.mk CC s V0 [] [] [] []) ([98,114,101,97,107,32]++(36::s.data.toList)):=
 nH (w:=[98,114,101,97,107]) (u:=32::36::s.data.toList) rfl (fun b _=>rfl) Ah (fun b d=>by
  have e:=mQ hs d.nm
  rw[iO]at e
  exact wz (rr c) (show lx (32::(36::(s.data.toList++b)))=_ from e))
theorem qo:∀(n:Nat),∀b∈kJ n,48≤b.toNat∧b.toNat≤57:=by
 intro n
 induction n using Nat.strongRecOn with
 |ind n c=>
  by_cases h:n<10
  ·rw[mx h];intro b hc;rw[Tt.1 hc,UG];omega
  rw[nk Ac]
  intro b hc
  rcases Uc.1 hc with hc|hc
  ·exact c (n/10) Ac b hc
  rw[Tt.1 hc,UG];omega
theorem tN:∀(c b:List UInt8)(a:Nat),pW a (c++b)=pW (pW a c) b
 |[],b,a=>rfl
 |d::c,b,a=>tN c b _
theorem rQ:∀(n:Nat),pW 0 (kJ n)=n:=by
 intro n
 induction n using Nat.strongRecOn with
 |ind n c=>
  by_cases h:n<10
  ·have e:(UInt8.ofNat (48+n)).toNat=48+n:=by rw[UG];omega
   have b:pW 0 [UInt8.ofNat (48+n)]=10*0+((UInt8.ofNat (48+n)).toNat - 48):=rfl
   rw[mx h,b,e];omega
  have e:(UInt8.ofNat (48+n%10)).toNat=48+n%10:=by rw[UG];omega
  have b:∀a,pW a [UInt8.ofNat (48+n%10)]=10*a+((UInt8.ofNat (48+n%10)).toNat - 48):=fun a=>rfl
  rw[nk Ac,tN,c (n/10) Ac,b,e];omega
theorem FZ:∀(n:Nat),∃b c,kJ n=b::c:=by
 intro n
 by_cases h:n<10
 ·exact⟨_,_,mx h⟩
 cases h2:kJ n with
 |nil=>rw[nk Ac]at h2;simp at h2
 |cons b c=>exact⟨b,c,rfl⟩
theorem K6(h:48≤uA.toNat∧uA.toNat≤57):p4 uA=true:=(lX uA).2 h
theorem v7:∀(b c:List UInt8),(∀d∈b,p4 d=true)→nu (b++c)=b.length+nu c
 |[],c,_=>by simp
 |d::b,c,h=>by
  rw[TH,nu,h d Al,Bool.true_or,TU rfl,v7 b c (fun d hc=>h d (by simp[hc])),To];omega
theorem wT(h:jt false (kM L)=false)(h2:kM L≠46):nu L=0:=by
 cases L with
 |nil=>rfl
 |cons b f=>
  simp only[kM]at h h2
  have c:p4 b=false:=by
   unfold jt at h
   simp only[Uq,Bool.not_false,VH]at h
   exact h.2
  have d:(b==46)=false:=by simpa using h2
  rw[nu,c,d];rfl
theorem En{c:UInt8}{r:List UInt8}(hl:L=c::r)(hc:p4 c)(f:nu (L++M)=L.length):lx (L++M)=(vf,ba L,M):=by
 have g:=(lX c).1 hc
 have j:jK c=false:=by
  unfold jK
  simp only[Uq,beq_eq_false_iff_ne,ne_eq,←TV]
  refine⟨⟨⟨?_,?_⟩,?_⟩,?_⟩<;>(intro h;rw[h]at g;simp at g)
 have k:jt true c=false:=by
  unfold jt
  simp only[Uq,Bool.and_eq_false_iff,TJ,T1,beq_eq_false_iff_ne,ne_eq,←TV,Bool.not_true,VY,and_true]
  simp only[UInt8.reduceToNat]
  omega
 have b:∀d:UInt8,d.toNat<48∨57<d.toNat→c≠d:=fun d l e=>by subst e;omega
 subst hl
 unfold lx
 rw[TH,od j]
 unfold p5
 rw[TH]at f
 have hw:wd (c::(r++M))=0:=EO k
 simp only[hw,f]
 rw[TI Al,TI (b 34 Ah),TI (fun h=>b 46 Ah h.1),TI (fun h=>b 36 Ah h.1),TI (fun h=>b 64 Ah h.1),TU hc]
 simp
theorem yu{n:Nat}(h:n≤18014398509481984):(kJ n).length≤20:=oJ 19 n Ac
theorem vh{h:Nat}(w:h≤18014398509481984):Te (.mk Cr ⟨#[]⟩ (.mk 3 (h:Int) ⟨#[]⟩ [] [] []) [] [] [] []) (mi h):=by
 obtain⟨b,g,j⟩:=FZ (h/2)
 have m:∀b∈kJ (h/2),p4 b=true:=fun b hc=>K6 (qo _ b hc)
 have p:p4 b=true:=m b (by rw[j];simp)
 have y:=(lX b).1 p
 have z:=yu (n:=h/2) Ac
 refine⟨?_,fun d o A B C u=>?_⟩
 ·have:∃v,mi h=b::v:=⟨g++(if h%2=1 then[46,53]else[]),by unfold mi;rw[j];rfl⟩
  obtain⟨v,e⟩:=this
  rw[e]
  have c:∀f:UInt8,f.toNat<48∨57<f.toNat→b≠f:=fun f q e=>by subst e;omega
  refine ml ?_ ⟨⟨c _ Ah,c _ Ah,c _ Ah,c _ Ah⟩,c _ Ah⟩ (fun _=>c _ Ah)
  unfold jK
  simp only[Uq,beq_eq_false_iff_ne]
  exact⟨⟨⟨c _ Ah,c _ Ah⟩,c _ Ah⟩,c _ Ah⟩
 by_cases h2:h%2=1
 ·have k:mi h=kJ (h/2)++[46,53]:=by unfold mi;rw[TU h2]
  have hdt:iJ (mi h)=true:=by rw[k,pg Al];rfl
  have r:nu ((kJ (h/2)++[46,53])++d)=(kJ (h/2)++[46,53]).length:=by
   rw[Ty,v7 _ _ m]
   have:nu ([46,53]++d)=2:=by
    show nu (46::53::d)=2
    rw[show nu (46::53::d)=nu (53::d)+1 from rfl,show nu (53::d)=nu d+1 from rfl,wT o.nm (o.dt hdt)]
   rw[this];simp
  rw[k]
  have e:=En (c:=b) (r:=g++[46,53]) (by rw[j];rfl) p r
  have hx:(ba (kJ (h/2)++[46,53])).data.toList=kJ (h/2)++[46,53]:=by unfold ba;simp
  refine iZ (rN e (h:=h) Ac (fun t l=>?_)) u
  have:=ID (br:=l) t hx (qo _) (rQ _) Ac (by rw[lZ];simp;omega)
  rwa[show 2*(h/2)+1=h by omega]at this
 have k:mi h=kJ (h/2):=by unfold mi;rw[TI h2,T3]
 have hdt:iJ (mi h)=true:=by
  rw[k]
  unfold iJ
  cases hg:(kJ (h/2)).getLast? with
  |none=>rw[List.getLast?_eq_none_iff,j]at hg;cases hg
  |some f=>
   have q:=m f (List.mem_of_getLast? hg)
   unfold p4 at q
   simp only[q,Bool.or_true]
 have r:nu (kJ (h/2)++d)=(kJ (h/2)).length:=by rw[v7 _ _ m,wT o.nm (o.dt hdt)];rfl
 rw[k]
 have e:=En (c:=b) (r:=g) j p r
 have hx:(ba (kJ (h/2))).data.toList=kJ (h/2)++[]:=by unfold ba;simp
 refine iZ (rN e (h:=h) Ac (fun t l=>?_)) u
 have:=IN (br:=l) t hx (qo _) (rQ _) Ac (by rw[lZ];omega)
 rwa[show 2*(h/2)=h by omega]at this
theorem vu{d j:List UInt8}{k:List ByteArray}{ks:List N}:∀(b:List UInt8)(c:Nat),TX c d [] k ks j→∃f,TX f (iS b++d) b k ks j
 |[],c,h=>⟨c,h⟩
 |g::b,c,h=>by
  obtain⟨f,l⟩:=vu b c h
  have e:iS (g::b)++d=kK g++(iS b++d):=by simp[iS]
  rw[e]
  by_cases hc:kK g=[g]
  ·rw[hc];exact⟨f+1,.Qc hc l⟩
  ·exact⟨f+1,.PJ hc l⟩
theorem Er(b c:List UInt8):∃d,TX d (iS b++34::c) b [] [] c:=vu b 0 .fin
theorem HU{L:List UInt8}:∀(m:List ByteArray)(b:List (List UInt8))(d:List N),m.length=d.length+1→d.length=b.length→(∀(i:Nat)(h1:i<d.length)(h2:i<b.length),Pq d[i] b[i])→∃j n g,m=n::g∧TX j (lj m b++34::L) n.data.toList g d L
 |[],_,_,h,_,_=>by simp at h
 |n::g,[],d,h,hl,_=>by
  have:d=[]:=Tn Bo
  subst this
  have:g=[]:=Tn AU
  subst this
  obtain⟨j,o⟩:=Er n.data.toList L
  exact⟨j,n,[],rfl,o⟩
 |n::g,l::b,[],h,hl,_=>by simp at hl
 |n::g,l::b,x::d,h,hl,p=>by
  obtain⟨j,f,k,rfl,o⟩:=HU g b d AU Bo (fun i h1 h2=>p (i+1) AW A4)
  obtain⟨hc,e⟩:=j4 (c:=41) (L:=lj (f::k) b++34::L) Ah
  have h0:=(p 0 Al Al).rd _ hc
  have r:ba f.data.toList=f:=iO f
  have hi:TX (j+1) (92::40::(l++41::(lj (f::k) b++34::L))) [] (ba f.data.toList::k) (x::d) L:=.int h0 e o
  obtain⟨t,q⟩:=vu n.data.toList (j+1) hi
  rw[r]at q
  refine⟨t,n,f::k,rfl,?_⟩
  have u:lj (n::f::k) (l::b)++34::L=iS n.data.toList++92::40::(l++41::(lj (f::k) b++34::L)):=by simp[lj]
  rw[u];exact q
theorem lL{s:ByteArray}(c:nG s)(b:List UInt8):kO 0 141 [Zs] (qL s.data.toList++b) (jk s) b:=by
 obtain⟨f,d⟩:=Er s.data.toList b
 have e:qL s.data.toList++b=34::(iS s.data.toList++34::b):=by simp[qL]
 rw[e]
 have:=sa (L:=34::(iS s.data.toList++34::b)) (fm:=⟨#[]⟩) (na:=[s]) rfl d (by rw[iO]) rfl Ah Al Al (fun x hx=>by rw[Tt.1 hx];exact c)
 exact this
theorem Dg(b c:List UInt8):lx (qL b++c)=(kU,bE,iS b++[34]++c):=rfl
theorem Dj{s:ByteArray}(c:nG s):Te (jk s) (qL s.data.toList):=
 ⟨ml rfl Ah (fun _=>by decide),fun b f g j k d=>iZ (r2 (Dg _ b) (lL c b)) d⟩
theorem sW(f:t.size≤1099511627776)(d:S.length=Q.length+1)(hl:Q.length=lJ.length)(g:∀(i:Nat)(h1:i<Q.length)(h2:i<lJ.length),Pq Q[i] lJ[i])(j:S.length≤1048576)(k:∀x∈S,nG x)(b:List UInt8):
  kO 0 141 [.string t] ([34]++lj S lJ++[34]++b) (xy t S Q) b:=by
 obtain⟨m,n,c,rfl,l⟩:=HU (L:=b) S lJ Q d hl g
 have e:[34]++lj (n::c) lJ++[34]++b=34::(lj (n::c) lJ++34::b):=by simp
 rw[e]
 exact sa (L:=34::(lj (n::c) lJ++34::b)) rfl l (by rw[iO]) d f j Ac k
theorem GC(d:S.length=Q.length+1)(hl:Q.length=lJ.length)(f:∀(i:Nat)(h1:i<Q.length)(h2:i<lJ.length),Pq Q[i] lJ[i])(g:S.length≤1048576)(j:∀x∈S,nG x):Te (xy ⟨#[]⟩ S Q) ([34]++lj S lJ++[34]):=
 ⟨tt (c:=34) ⟨_,rfl⟩ rfl Ah (fun _=>by decide),fun b l m o p k=>iZ (r2 (L:=[34]++lj S lJ++[34]++b) (r:=lj S lJ++[34]++b) rfl (sW Ah d hl f g j b)) k⟩
theorem FO(f:t∈ri)(g:S.length=Q.length+1)(hl:Q.length=lJ.length)(j:∀(i:Nat)(h1:i<Q.length)(h2:i<lJ.length),Pq Q[i] lJ[i])(k:S.length≤1048576)(m:∀x∈S,nG x):Te (xy t S Q) (t.data.toList++[32]++([34]++lj S lJ++[34])):=by
 obtain⟨o,e,hw,p⟩:=qf f
 refine⟨by rw[e];exact tt (c:=64) ⟨_,rfl⟩ rfl Ah (fun _=>by decide),fun b u v w y q=>?_⟩
 have d:=zl (l:=32::([34]++lj S lJ++[34]++b)) hw rfl
 rw[←e,iO]at d
 have r:t.data.toList++[32]++([34]++lj S lJ++[34])++b=64::(o++32::([34]++lj S lJ++[34]++b)):=by rw[e];simp
 rw[r]
 exact iZ (wx d (r':=lj S lJ++[34]++b) rfl (sW (rr p) g hl j k m b)) q
theorem HV(b c:List UInt8):Fo b (91::c):=⟨rfl,(fun _=>(by decide:(91:UInt8)≠46)),(by decide:jU≠kU),(by decide:(91:UInt8)≠47),rfl⟩
theorem xO(x:N)(s:ByteArray):Ev x (jk s)=.mk Cu s V0 [] [x] [] []:=by
 unfold Ev;exact TU rfl
theorem St.app(h:St M bA)(hu:∀b,jt false (kM b)=false→jt false (kM (L++b))=false):St (M++L) bA:=by
 obtain⟨c,d,rfl,h1,h2⟩:=h.c
 refine⟨⟨c,d++L,rfl,h1,h2⟩,fun b hL=>?_⟩
 rw[Ty];exact h.d _ (hu b hL)
theorem xh{x:N}{s:List UInt8}(h:Te x L)(hs:∀b,tE 140 x (s++b) q b):Te q (ib L (false,91::s)):=by
 have e:ib L (false,91::s)=L++91::s:=by simp[ib]
 rw[e]
 refine⟨h.st.app (fun b _=>rfl),fun b j c d f g=>?_⟩
 rw[Ty]
 exact h.rd _ (HV _ _) (c+1) d f<|.za (L:=91::(s++b)) rfl (hs b) g
theorem Hq{s:List UInt8}(hs:∀b,tE 140 (.mk CE ⟨#[]⟩ V0 [] [] [] []) (s++b) q b):Te q (46::91::s):=by
 refine⟨ml rfl Ah (fun _=>by decide),fun b j c d f g=>?_⟩
 exact zs.rd (91::(s++b)) (HV _ _) (c+1) d f<|.za (L:=91::(s++b)) rfl (hs b) g
theorem JE{x:N}(h:Te x L):Te (.mk CH ⟨#[]⟩ V0 [] [x] [] []) (ib L (false,[63])):=by
 have e:ib L (false,[63])=L++[63]:=by simp[ib]
 rw[e]
 refine⟨h.st.app (fun b _=>rfl),fun b d f g j k=>?_⟩
 rw[Ty]
 have c:lx (63::b)=(jU,CH,b):=MC d.sl
 have l:Fo L (63::b):=⟨rfl,(fun _=>(by decide:(63:UInt8)≠46)),by rw[c];exact(by decide:jU≠kU),(by decide:(63:UInt8)≠47),jB c Ah⟩
 exact h.rd _ l (f+1) g j<|.opt (jj c) (by rw[c];exact k)
theorem Im(h:(lx (46::L)).1≠kU):Fo M ((if iJ M then[32]else[])++46::L):=by
 cases hd:iJ M with
 |true=>exact⟨rfl,(fun _=>(by decide:(32:UInt8)≠46)),h,(by decide:(32:UInt8)≠47),oz (L:=46::L) rfl (by decide:(46:UInt8)≠40)⟩
 |false=>exact⟨rfl,(fun e=>by rw[hd]at e;cases e),h,(by decide:(46:UInt8)≠47),oz (L:=46::L) rfl (by decide:(46:UInt8)≠40)⟩
theorem JW{x:N}{s:ByteArray}(h:Te x L)(c:nG s):Te (.mk Cu s V0 [] [x] [] []) (ib L (true,46::iq s)):=by
 have e:ib L (true,46::iq s)=L++((if iJ L then[32]else[])++46::iq s):=by simp[ib]
 rw[e]
 refine⟨h.st.app (fun b _=>by split<;>rfl),fun b m g j k f=>?_⟩
 have o:L++((if iJ L then[32]else[])++46::iq s)++b=L++((if iJ L then[32]else[])++46::(iq s++b)):=by simp
 rw[o]
 by_cases hs:jI s.data.toList=true
 ·have l:iq s=s.data.toList:=TU hs
  rw[l]
  have d:=zG hs m.nm
  rw[iO]at d
  refine h.rd _ (Im (by rw[d];exact(by decide:kB≠kU))) (g+1) j k ?_
  have:TS (g+1) x (46::(s.data.toList++b)) j k:=.FP d (rr c) f
  split
  ·exact .FP (show lx (32::(46::(s.data.toList++b)))=_ from d) (rr c) f
  exact this
 have l:iq s=qL s.data.toList:=TI hs
 rw[l]
 have d:lx (46::(qL s.data.toList++b))=(jU,CE,qL s.data.toList++b):=rfl
 rw[←xO x s]at f
 refine h.rd _ (Im (by rw[d];exact(by decide:jU≠kU))) (g+1) j k ?_
 split
 ·exact .str (L:=32::(46::(qL s.data.toList++b))) rfl rfl (lL c b) (Tk ⟨s,rfl,rr c⟩) f
 exact .str (L:=46::(qL s.data.toList++b)) rfl rfl (lL c b) (Tk ⟨s,rfl,rr c⟩) f
theorem Ha{s:ByteArray}(b:nG s):Te (.mk Cu s V0 [] [.mk CE ⟨#[]⟩ V0 [] [] [] []] [] []) (46::iq s):=by
 refine⟨ml rfl Ah (fun _=>by decide),fun c j k l m d=>?_⟩
 by_cases hs:jI s.data.toList=true
 ·have f:iq s=s.data.toList:=TU hs
  rw[f]
  have g:=zG hs j.nm
  rw[iO]at g
  exact iZ (yO g (rr b)) d
 have f:iq s=qL s.data.toList:=TI hs
 rw[f]
 rw[←xO (.mk CE ⟨#[]⟩ V0 [] [] [] []) s]at d
 exact iZ (vT (L:=46::(qL s.data.toList++c)) rfl rfl (lL b c) (Tk ⟨s,rfl,rr b⟩)) d
theorem HE{x:N}(b:List UInt8):tE 140 x ([93]++b) (.mk CK ⟨#[]⟩ V0 [] [x] [] []) b:=Dy (L:=93::b) rfl
theorem Jh{x:N}(h:Pq p L)(b:List UInt8):tE 140 x (L++[93]++b) (.mk CF ⟨#[]⟩ V0 [] [x,p] [] []) b:=by
 obtain⟨hc,e⟩:=j4 (c:=93) (L:=b) Ah
 rw[Ty]
 have:=Gv (q:=x) (h.st.no _).1 (h.st.no _).2.1 (h.rd _ hc) (jB e Ah) (jj e)
 rwa[e]at this
theorem Ns{x:N}(h:Pq qA M)(h2:Pq qB L)(b:List UInt8):tE 140 x (M++[58]++L++[93]++b) (.mk Co ⟨#[]⟩ V0 [] [x,qA,qB] [] []) b:=by
 obtain⟨f,d⟩:=j4 (c:=93) (L:=b) Ah
 obtain⟨hc,e⟩:=j4 (c:=58) (L:=L++93::b) Ah
 have g:M++[58]++L++[93]++b=M++58::(L++93::b):=by simp
 rw[g]
 have:=Jt (q:=x) (L1:=58::(L++93::b)) (L2:=93::b) (k:=qA) (p:=qB) (h.st.no _).1 (h.st.no _).2.1 (h.rd _ hc) (jj e) (by rw[e];exact(h2.st.no _).1) (by rw[e];exact h2.rd _ f) (jj d)
 rwa[d]at this
theorem G2{x:N}(h:Pq p L)(b:List UInt8):tE 140 x (L++[58]++[93]++b) (.mk Co ⟨#[]⟩ V0 [] [x,p,je] [] []) b:=by
 obtain⟨g,d⟩:=j4 (c:=93) (L:=b) Ah
 obtain⟨hc,e⟩:=j4 (c:=58) (L:=93::b) Ah
 have f:L++[58]++[93]++b=L++58::93::b:=by simp
 rw[f]
 have:=EV (q:=x) (L1:=58::93::b) (k:=p) (h.st.no _).1 (h.st.no _).2.1 (h.rd _ hc) (jj e) (by rw[e];exact jj d)
 rw[e]at this
 rwa[d]at this
theorem Mk{x:N}(h2:Pq p L)(b:List UInt8):tE 140 x ([58]++L++[93]++b) (.mk Co ⟨#[]⟩ V0 [] [x,je,p] [] []) b:=by
 obtain⟨f,d⟩:=j4 (c:=93) (L:=b) Ah
 obtain⟨hc,e⟩:=j4 (c:=58) (L:=L++93::b) Ah
 have g:[58]++L++[93]++b=58::(L++93::b):=by simp
 rw[g]
 have:=Kw (q:=x) (L:=58::(L++93::b)) (L1:=93::b) (k:=p) (jB e Ah) (jj e) (by rw[e];exact h2.rd _ f) (jj d)
 rwa[d]at this
theorem tw:Te (.mk Cv ⟨#[]⟩ V0 [] [] [] []) [91,93]:=
 ⟨ml rfl Ah (fun _=>by decide),fun b d f g j c=>iZ (vz (L:=91::93::b) rfl rfl) c⟩
theorem xe{x:N}(h:Pq x L):Te (.mk Cv ⟨#[]⟩ V0 [] [x] [] []) ([91]++L++[93]):=
 ⟨tt (c:=91) ⟨_,rfl⟩ rfl Ah (fun _=>by decide),fun b g j k l d=>by
  obtain⟨hc,e⟩:=j4 (c:=93) (L:=b) Ah
  have f:[91]++L++[93]++b=91::(L++93::b):=by simp
  rw[f]
  have h1:=vU (L:=91::(L++93::b)) rfl (h.st.no _).1 (h.rd _ hc) (jj e)
  rw[e]at h1
  exact iZ h1 d⟩
theorem Ie{L:List UInt8}:∀(f:List N)(d:List (List UInt8)),f.length=d.length→(∀(i:Nat)(h1:i<f.length)(h2:i<d.length),Pq f[i] d[i])→PS ((d.map fun b=>[59,32]++b).flatten++41::L) f (41::L)
 |[],[],_,_=>.nil rfl
 |[],_::_,h,_=>by simp at h
 |_::_,[],h,_=>by simp at h
 |x::f,b::d,h,g=>by
  have j:=Ie (L:=L) f d AU (fun i h1 h2=>g (i+1) AW A4)
  have k:(((b::d).map fun b=>[59,32]++b).flatten++41::L)=59::32::(b++((d.map fun b=>[59,32]++b).flatten++41::L)):=by simp
  rw[k]
  have hc:Cl ((d.map fun b=>[59,32]++b).flatten++41::L):=by
   cases d with
   |nil=>exact(j4 (c:=41) Ah).1
   |cons l d=>exact(j4 (c:=59) Ah).1
  exact .cons (L:=59::32::(b++((d.map fun b=>[59,32]++b).flatten++41::L))) rfl ((g 0 Al Al).rd _ hc) j
theorem mq(d c:List UInt8)(b:List (List UInt8)):ih d (c::b)=c++(b.map fun f=>d++f).flatten:=by
 induction b generalizing c with
 |nil=>simp[ih]
 |cons f b g=>rw[ih,g];simp
theorem FU{s:ByteArray}(hs:BE s)(j:nG s)(hl:Q.length=lJ.length)(k:∀(i:Nat)(h1:i<Q.length)(h2:i<lJ.length),Pq Q[i] lJ[i])(o:Q.length≤1048576):Te (.mk Cw s V0 [] Q [] []) (s.data.toList++(if lJ=[]then[]else[40]++ih [59,32] lJ++[41])):=by
 have l:ba s.data.toList≠Cs:=by rw[iO];exact jJ hs.2 Bk
 cases lJ with
 |nil=>
  have:Q=[]:=Tn Bo
  subst this
  rw[TU rfl]
  refine⟨sx hs.1 (fun b h=>h) l,fun b g r t u p=>?_⟩
  rw[T3]at g⊢
  have m:=kY hs.1 g.nm
  rw[iO]at m
  exact iZ (oe m (vR (rr j) hs.2 g.pr)) p
 |cons f lJ=>
  cases Q with
  |nil=>simp at hl
  |cons x Q=>
   rw[TI Al,mq]
   refine nH hs.1 (fun b _=>rfl) l (fun b g=>?_)
   rw[iO]
   have q:([40]++(f++(lJ.map fun d=>[59,32]++d).flatten)++[41])++b=40::(f++((lJ.map fun d=>[59,32]++d).flatten++41::b)):=by simp
   rw[q]
   have hc:Cl ((lJ.map fun f=>[59,32]++f).flatten++41::b):=by
    cases lJ with
    |nil=>exact(j4 (c:=41) Ah).1
    |cons d lJ=>exact(j4 (c:=59) Ah).1
   exact yv (L:=40::(f++((lJ.map fun d=>[59,32]++d).flatten++41::b))) (rr j) hs.2 rfl ((k 0 Al Al).rd _ hc) (Ie Q lJ Bo (fun i h1 h2=>k (i+1) AW A4)) o rfl
theorem mH{w L:List UInt8}(hw:jI w)(h:jt false (kM L)=false):lx (32::(w++L))=(iY,ba w,L):=kY hw h
theorem rS(hw:jI L)(h:jt false (kM M)=false)(hc:LU (ba L)):Cl (32::(L++M)):=by
 have e:=mH hw h
 exact⟨rfl,(by decide:(32:UInt8)≠46),(by decide:(32:UInt8)≠47),by rw[e];exact hc,Tk (Ts (by rw[e]))⟩
theorem zc(b:List UInt8)(hw:jI L)(h:jt false (kM M)=false)(h1:ba L≠CV∧ba L≠CN∧ba L≠CH∧ba L≠CE):Fo b (32::(L++M))∧NS (32::(L++M)):=by
 have e:=mH hw h
 exact⟨⟨rfl,(fun _=>(by decide:(32:UInt8)≠46)),by rw[e];exact(by decide:iY≠kU),(by decide:(32:UInt8)≠47),jB e h1.1⟩,⟨by rw[e];exact(by decide:iY≠kB),jB e h1.2.1,jB e h1.2.2.1,jB e h1.2.2.2⟩⟩
theorem Te.end{x:N}(h:Te x M)(b:Fo M L∧NS L):RQ 135 [] (M++L) x L:=h.rd L b.1 _ _ _ (b.2.ts x)
theorem M9{b:List UInt8}(hL:jt false (kM b)=false):∀(n:Nat)(d:List N)(c:List (List UInt8)),d.length≤n→d.length=c.length→(∀(i:Nat)(h1:i<d.length)(h2:i<c.length),Pq d[i] c[i])→
  ∃g j,Cl (og c++(32::([101,110,100]++b)))∧IT (og c++(32::([101,110,100]++b))) g j∧((d=g∧j=32::([101,110,100]++b))∨∃e f,d=g++[e]∧Pq e f∧j=32::([101,108,115,101]++32::(f++(32::([101,110,100]++b))))):=by
 have o:Cl (32::([101,110,100]++b)):=rS rfl hL rfl
 have p:=mH (w:=[101,110,100]) rfl hL
 intro n
 induction n with
 |zero=>
  intro d c q hl k
  have:d=[]:=Tn Ac
  subst this
  have:c=[]:=Tn (by simpa using hl.symm)
  subst this
  exact⟨[],_,o,.nil (jB p Ah),Ts ⟨rfl,rfl⟩⟩
 |succ n u=>
  intro d c q hl k
  match d,c with
  |[],[]=>exact⟨[],_,o,.nil (jB p Ah),Ts ⟨rfl,rfl⟩⟩
  |[],_::_=>simp at hl
  |_::_,[]=>simp at hl
  |[x],_::_::_=>simp at hl
  |_::_::_,[_]=>simp at hl
  |[x],[f]=>
   have m:og [f]++(32::([101,110,100]++b))=32::([101,108,115,101]++32::(f++(32::([101,110,100]++b)))):=by simp[og]
   have e:=mH (w:=[101,108,115,101]) (L:=32::(f++(32::([101,110,100]++b)))) rfl rfl
   rw[m]
   exact⟨[],_,rS rfl rfl rfl,.nil (jB e Ah),Tk ⟨x,f,rfl,k 0 Al Al,rfl⟩⟩
  |x::v::d,f::l::c=>
   obtain⟨g,j,hc,y,z⟩:=u d c (by simp at q;omega) Bo (fun i h1 h2=>k (i+2) AW A4)
   have m:og (f::l::c)++(32::([101,110,100]++b))=32::([101,108,105,102]++32::(f++(32::([116,104,101,110]++32::(l++(og c++(32::([101,110,100]++b)))))))):=by simp[og]
   rw[m]
   have r:=mH (w:=[101,108,105,102]) (L:=32::(f++(32::([116,104,101,110]++32::(l++(og c++(32::([101,110,100]++b)))))))) rfl rfl
   have t:=mH (w:=[116,104,101,110]) (L:=32::(l++(og c++(32::([101,110,100]++b))))) rfl rfl
   refine⟨x::v::g,j,rS rfl rfl rfl,.cons (kz r) (by rw[r];exact(k 0 Al Al).rd _ (rS rfl rfl rfl)) (kz t) (by rw[t];exact(k 1 Al Al).rd _ hc) y,?_⟩
   rcases z with⟨rfl,rfl⟩|⟨e,A,rfl,h1,h2⟩
   ·exact Ts ⟨rfl,rfl⟩
   exact Tk ⟨e,A,rfl,h1,h2⟩
theorem Lt{x:N}(h0:Pq x M)(h1:Pq q L)(hl:Q.length=lJ.length)(o:∀(i:Nat)(h1:i<Q.length)(h2:i<lJ.length),Pq Q[i] lJ[i])(g:(x::q::Q).length≤1048576):
  Te (.mk CA ⟨#[]⟩ V0 [] (x::q::Q) [] []) ([105,102,32]++M++[32,116,104,101,110,32]++L++og lJ++[32,101,110,100]):=by
 have p:[105,102,32]++M++[32,116,104,101,110,32]++L++og lJ++[32,101,110,100]=[105,102]++(32::(M++[32,116,104,101,110,32]++L++og lJ++[32,101,110,100])):=by simp
 rw[p]
 refine nH rfl (fun b _=>rfl) Ah (fun b d=>GU ?_)
 obtain⟨y,z,hc,j,r⟩:=M9 d.nm Q.length Q lJ (Tv _) hl o
 have t:(32::(M++[32,116,104,101,110,32]++L++og lJ++[32,101,110,100]))++b=32::(M++(32::([116,104,101,110]++32::(L++(og lJ++(32::([101,110,100]++b))))))):=by simp
 rw[t]
 have f:=mH (w:=[116,104,101,110]) (L:=32::(L++(og lJ++(32::([101,110,100]++b))))) rfl rfl
 have c:=mH (w:=[101,110,100]) rfl d.nm
 have k:RQ 15 [] (32::(M++(32::([116,104,101,110]++32::(L++(og lJ++(32::([101,110,100]++b)))))))) x _:=h0.rd _ (rS rfl rfl rfl)
 have l:RQ 15 [] (lx (32::([116,104,101,110]++32::(L++(og lJ++(32::([101,110,100]++b))))))).2.2 q (og lJ++(32::([101,110,100]++b))):=by rw[f];exact h1.rd _ hc
 rcases r with⟨rfl,rfl⟩|⟨e,u,rfl,v,rfl⟩
 ·have:=Jd k (kz f) l j g (jB c Ah) (kz c)
  rwa[c]at this
 have m:=mH (w:=[101,108,115,101]) (L:=32::(u++(32::([101,110,100]++b)))) rfl rfl
 have:=KX k (kz f) l j (by simp at g⊢;omega) (kz m) (by rw[m];exact v.rd _ (rS rfl d.nm rfl)) (kz c)
 rw[c]at this
 exact this
def Pa(p:N)(t:List UInt8):Prop:=∀L,jt false (kM L)=false→kO 1 138 [] (t++L) p L
theorem wQ{x:N}{R:List UInt8}(b:Te x lA)(c:Pa q M):RQ 135 [] (32::(lA++(32::([97,115]++32::(M++32::40::R))))) x (32::([97,115]++32::(M++32::40::R)))∧iE (32::([97,115]++32::(M++32::40::R))) Cy=true∧kO 1 138 [] (lx (32::([97,115]++32::(M++32::40::R)))).2.2 q (32::40::R):=by
 have e:=mH (w:=[97,115]) (L:=32::(M++32::40::R)) rfl rfl
 exact⟨b.end (zc _ rfl rfl ⟨by decide,by decide,by decide,by decide⟩),kz e,by rw[e];exact c (32::40::R) rfl⟩
theorem wM{x:N}(f:L=[114,101,100,117,99,101]∨L=[102,111,114,101,97,99,104])(m:Te x lB)(o:Pa qA lC)(r:Pq q lA)(t:Pq p M):
  Te (.mk (ba L) ⟨#[]⟩ V0 [] [x,q,p] [qA] []) (L++(32::(lB++[32,97,115,32]++lC++[32,40]++lA++[59,32]++M++[41]))):=by
 have hw:jI L=true:=by rcases f with rfl|rfl<;>rfl
 have u:ba L≠Cs:=by rcases f with rfl|rfl<;>decide
 refine nH hw (fun b _=>rfl) u (fun b z=>?_)
 have v:(32::(lB++[32,97,115,32]++lC++[32,40]++lA++[59,32]++M++[41]))++b=32::(lB++(32::([97,115]++32::(lC++32::40::(lA++59::32::(M++41::b)))))):=by simp
 rw[v]
 obtain⟨h1,h2,j⟩:=wQ (R:=lA++59::32::(M++41::b)) m o
 obtain⟨w,g⟩:=j4 (c:=59) (L:=32::(M++41::b)) Ah
 obtain⟨y,d⟩:=j4 (c:=41) (L:=b) Ah
 have k:RQ 15 [] (lx (32::40::(lA++59::32::(M++41::b)))).2.2 q (59::32::(M++41::b)):=r.rd _ w
 have l:RQ 15 [] (lx (59::32::(M++41::b))).2.2 p (41::b):=by rw[g];exact t.rd _ y
 rcases f with rfl|rfl
 ·have:=Ky h1 h2 j rfl k (jj g) l (jj d)
  rw[d]at this
  exact ue this
 have:=JB h1 h2 j rfl k (jj g) l (jj d) (jB d Ah)
 rw[d]at this
 exact oP this
theorem DN{x a:N}(j:Te x lB)(k:Pa qA lC)(l:Pq q lA)(m:Pq p M)(o:Pq a L):
  Te (.mk Ck ⟨#[]⟩ V0 [] [x,q,p,a] [qA] []) ([102,111,114,101,97,99,104]++(32::(lB++[32,97,115,32]++lC++[32,40]++lA++[59,32]++M++[59,32]++L++[41]))):=by
 refine nH rfl (fun b _=>rfl) Ah (fun b y=>oP ?_)
 have r:(32::(lB++[32,97,115,32]++lC++[32,40]++lA++[59,32]++M++[59,32]++L++[41]))++b=32::(lB++(32::([97,115]++32::(lC++32::40::(lA++59::32::(M++59::32::(L++41::b))))))):=by simp
 rw[r]
 obtain⟨h1,h2,t⟩:=wQ (R:=lA++59::32::(M++59::32::(L++41::b))) j k
 obtain⟨u,d⟩:=j4 (c:=59) (L:=32::(M++59::32::(L++41::b))) Ah
 obtain⟨v,f⟩:=j4 (c:=59) (L:=32::(L++41::b)) Ah
 obtain⟨w,g⟩:=j4 (c:=41) (L:=b) Ah
 have:=Kt h1 h2 t rfl (l.rd _ u) (jj d) (by rw[d];exact m.rd _ v) (jj f) (by rw[f];exact o.rd _ w) (jj g)
 rw[g]at this
 exact this
theorem ze{x:N}(hs:St L false)(h:∀b,Cl b→RQ 139 [] (L++b) x b):Pq x L:=
 ⟨hs.s0,fun b hc=>q3 (tf (hs.nn b) (iZ (h b hc) (hc.ns.ts x)) (xT (hc.no rfl))) hc (hs.d b hc.nm)⟩
theorem sK{x:N}(hw:jI L)(c:ba L≠Cs)(h:∀b,Cl b→kO 0 149 [.string (ba L)] (32::(M++b)) x b):Pq x (L++32::M):=
 ze (sx hw (fun b _=>rfl) c) (fun b hc=>by rw[Ty];exact oe (kY hw rfl) (h b hc))
theorem Hy{x:N}(h:Te x L):Pq (.mk CB ⟨#[]⟩ V0 [] [x] [] []) ([116,114,121]++32::L):=
 sK rfl Ah (fun b hc=>x6 (L:=32::(L++b)) (h.end ⟨hc.fo _,hc.ns⟩) (hc.no rfl))
theorem GV{x:N}(h:Te x M)(h2:Te q L):Pq (.mk CB ⟨#[]⟩ V0 [] [x,q] [] []) ([116,114,121]++32::(M++[32,99,97,116,99,104,32]++L)):=
 sK rfl Ah (fun b hc=>by
  have c:32::((M++[32,99,97,116,99,104,32]++L)++b)=32::(M++(32::([99,97,116,99,104]++32::(L++b)))):=by simp
  rw[c]
  have e:=mH (w:=[99,97,116,99,104]) (L:=32::(L++b)) rfl rfl
  exact yN (L:=32::(M++(32::([99,97,116,99,104]++32::(L++b))))) (h.end (zc _ rfl rfl ⟨by decide,by decide,by decide,by decide⟩)) (kz e) (by rw[e];exact h2.end ⟨hc.fo _,hc.ns⟩))
theorem Du{s:ByteArray}{x:N}(hs:jI s.data.toList)(c:nG s)(h:Pq x L):Pq (.mk CD s V0 [] [x] [] []) ([108,97,98,101,108]++32::(36::s.data.toList++[32,124,32]++L)):=
 sK rfl Ah (fun b hc=>by
  have d:32::((36::s.data.toList++[32,124,32]++L)++b)=32::(36::(s.data.toList++32::124::32::(L++b))):=by simp
  rw[d]
  have e:=mQ (l:=32::124::32::(L++b)) hs rfl
  rw[iO]at e
  exact wC (L:=32::(36::(s.data.toList++32::124::32::(L++b)))) (rr c) e rfl (h.rd b hc))
theorem EJ{c:List UInt8}:∀(ps:List N)(b:List (List UInt8)),ps.length=b.length→(∀(i:Nat)(h1:i<ps.length)(h2:i<b.length),Pa ps[i] b[i])→Lf (32::(iR false b++124::32::c)) ps (32::124::32::c)
 |[],[],_,_=>.nil rfl
 |_::_,[],h,_=>by simp at h
 |[],_::_,h,_=>by simp at h
 |j::ps,d::b,h,f=>by
  have g:32::(iR false (d::b)++124::32::c)=32::63::47::47::32::(d++32::(iR false b++124::32::c)):=by simp[iR]
  rw[g]
  exact .cons (L:=32::63::47::47::32::(d++32::(iR false b++124::32::c))) rfl (f 0 Al Al (32::(iR false b++124::32::c)) rfl) (EJ ps b AU (fun i h1 h2=>f (i+1) AW A4))
theorem M7{x:N}{ps:List N}(d:Te x M)(g:Pq q L)(h0:0<ps.length)(hl:ps.length=lJ.length)(f:∀(i:Nat)(h1:i<ps.length)(h2:i<lJ.length),Pa ps[i] lJ[i])(j:ps.length≤1048576):
  Pq (.mk Cy ⟨#[]⟩ V0 [] [x,q] ps []) (M++[32]++iR true lJ++[124,32]++L):=by
 cases ps with
 |nil=>simp at h0
 |cons k ps=>
  cases lJ with
  |nil=>simp at hl
  |cons c lJ=>
   have l:M++[32]++iR true (c::lJ)++[124,32]++L=M++(32::([97,115]++32::(c++32::(iR false lJ++124::32::L)))):=by simp[iR]
   rw[l]
   refine⟨(d.st.app (fun b _=>rfl)).s0,fun b hc=>?_⟩
   have m:(M++(32::([97,115]++32::(c++32::(iR false lJ++124::32::L)))))++b=M++(32::([97,115]++32::(c++32::(iR false lJ++124::32::(L++b))))):=by simp
   rw[m]
   have e:=mH (w:=[97,115]) (L:=32::(c++32::(iR false lJ++124::32::(L++b)))) rfl rfl
   have o:tE 134 x (32::([97,115]++32::(c++32::(iR false lJ++124::32::(L++b))))) (.mk Cy ⟨#[]⟩ V0 [] [x,q] (k::ps) []) b:=
    FW (kz e) (by rw[e];exact f 0 Al Al (32::(iR false lJ++124::32::(L++b))) rfl) (EJ ps lJ Bo (fun i h1 h2=>f (i+1) AW A4)) rfl j rfl (g.rd b hc)
   exact q3 (tf (d.st.nn _) (d.end (zc _ rfl rfl ⟨by decide,by decide,by decide,by decide⟩)) o) hc (d.st.d _ rfl)
theorem IX{s:ByteArray}(hs:jI s.data.toList)(b:nG s):Pa (.mk Cx s V0 [] [] [] []) (36::s.data.toList):=fun c hL=>by
 have e:=mQ hs hL
 rw[iO]at e
 exact Jp e (rr b)
theorem H2{L:List UInt8}:∀(ps:List N)(c:List (List UInt8)),ps.length=c.length→(∀(i:Nat)(h1:i<ps.length)(h2:i<c.length),Pa ps[i] c[i])→PC ((c.map fun b=>[44,32]++b).flatten++93::L) ps (93::L)∧jt false (kM ((c.map fun b=>[44,32]++b).flatten++93::L))=false
 |[],[],_,_=>⟨.nil rfl,rfl⟩
 |_::_,[],h,_=>by simp at h
 |[],_::_,h,_=>by simp at h
 |k::ps,b::c,h,d=>by
  obtain⟨f,g⟩:=H2 (L:=L) ps c AU (fun i h1 h2=>d (i+1) AW A4)
  have j:(((b::c).map fun b=>[44,32]++b).flatten++93::L)=44::32::(b++((c.map fun b=>[44,32]++b).flatten++93::L)):=by simp
  rw[j]
  exact⟨.cons (L:=44::32::(b++((c.map fun b=>[44,32]++b).flatten++93::L))) rfl (d 0 Al Al _ g) f,rfl⟩
theorem KE{ps:List N}(h0:0<ps.length)(hl:ps.length=lJ.length)(d:∀(i:Nat)(h1:i<ps.length)(h2:i<lJ.length),Pa ps[i] lJ[i])(f:ps.length≤1048576):Pa (.mk CN ⟨#[]⟩ V0 [] [] ps []) ([91]++ih [44,32] lJ++[93]):=fun c hL=>by
 cases ps with
 |nil=>simp at h0
 |cons k ps=>
  cases lJ with
  |nil=>simp at hl
  |cons b lJ=>
   obtain⟨hc,g⟩:=H2 (L:=c) ps lJ Bo (fun i h1 h2=>d (i+1) AW A4)
   have j:[91]++ih [44,32] (b::lJ)++[93]++c=91::(b++((lJ.map fun b=>[44,32]++b).flatten++93::c)):=by rw[mq];simp
   rw[j]
   exact JR (L:=91::(b++((lJ.map fun b=>[44,32]++b).flatten++93::c))) rfl (d 0 Al Al _ g) hc f rfl
def Lj(L:List UInt8):Prop:=∃R,L=44::R∨L=125::R∨L=32::125::R
theorem Lj.out{L:List UInt8}(h:Lj L)(f:List UInt8):Fo f L∧NS L∧iE L C1=false∧iE L CI=false:=by
 obtain⟨g,h⟩:=h
 have d:∀(c:UInt8)(b:ByteArray),lx L=(jU,b,g)→kM L=c→jt false c=false∧c≠46∧c≠47→b≠CV∧b≠CN∧b≠CH∧b≠CE∧b≠C1∧b≠CI→Fo f L∧NS L∧iE L C1=false∧iE L CI=false:=by
  intro c b e hc h1 h2
  exact⟨⟨by rw[hc];exact h1.1,fun _=>by rw[hc];exact h1.2.1,by rw[e];exact(by decide:jU≠kU),by rw[hc];exact h1.2.2,jB e h2.1⟩,⟨by rw[e];exact(by decide:jU≠kB),jB e h2.2.1,jB e h2.2.2.1,jB e h2.2.2.2.1⟩,jB e h2.2.2.2.2.1,jB e h2.2.2.2.2.2⟩
 rcases h with rfl|rfl|rfl
 ·exact d 44 CM rfl rfl Ah Ah
 ·exact d 125 C3 rfl rfl Ah Ah
 exact d 32 C3 rfl rfl Ah Ah
def Pe(k p:N)(t:List UInt8):Prop:=∀L,Lj L→PE (t++L) k p L
theorem OV{s:ByteArray}(hs:jI s.data.toList)(b:nG s):Pe (mu s) je (36::s.data.toList):=fun c hL=>by
 have e:=mQ hs (hL.out []).1.nm
 rw[iO]at e
 exact .v e (rr b) (hL.out []).2.2.1
theorem MA{s:ByteArray}(hs:jI s.data.toList)(c:nG s)(d:Pa q L):Pe (mu s) q (36::s.data.toList++[58,32]++L):=fun b hL=>by
 have f:36::s.data.toList++[58,32]++L++b=36::(s.data.toList++58::32::(L++b)):=by simp
 rw[f]
 have e:=mQ (l:=58::32::(L++b)) hs rfl
 rw[iO]at e
 exact .vp e (rr c) rfl (d b (hL.out []).1.nm)
theorem Lx{s:ByteArray}(c:nG s)(d:Pa q L):Pe (jk s) q (qL s.data.toList++[58,32]++L):=fun b hL=>by
 have f:qL s.data.toList++[58,32]++L++b=qL s.data.toList++58::32::(L++b):=by simp
 rw[f]
 exact .kp (L:=qL s.data.toList++58::32::(L++b)) (L1:=58::32::(L++b)) BM (pY (Dg _ _) (lL c _)) rfl (d b (hL.out []).1.nm)
theorem No(h:PE L q p M):PE (32::L) q p M:=by
 cases h with
 |v e hx c=>exact .v e hx c
 |vp e hx ht b=>exact .vp e hx ht b
 |kp d hk ht b=>exact .kp d hk ht b
theorem Mq{ks ps:List N}(h:PM true L ks ps M):PM true (32::L) ks ps M:=by
 cases h with
 |Dc h b c=>exact .Dc (No h) b c
theorem H3{L:List UInt8}:∀(ks ps:List N)(c:List (List UInt8)),0<c.length→ks.length=c.length→ps.length=c.length→(∀(i:Nat)(h0:i<ks.length)(h1:i<ps.length)(h2:i<c.length),Pe ks[i] ps[i] c[i])→PM true (ih [44,32] c++125::L) ks ps (125::L)
 |_,_,[],h,_,_,_=>by simp at h
 |[],_,_::_,_,h,_,_=>by simp at h
 |_::_,[],_::_,_,_,h,_=>by simp at h
 |j::ks,k::ps,[g],_,hk,hl,d=>by
  have:ks=[]:=Tn Cd
  subst this
  have:ps=[]:=Tn Bo
  subst this
  exact .Dc (b:=false) (d 0 Al Al Al (125::L) ⟨L,Tk (Ts rfl)⟩) rfl .done
 |j::ks,k::ps,g::f::c,_,hk,hl,d=>by
  have l:=H3 (L:=L) ks ps (f::c) Al Cd Bo (fun i h0 h1 h2=>d (i+1) (by simpa using h0) AW A4)
  have m:ih [44,32] (g::f::c)++125::L=g++44::32::(ih [44,32] (f::c)++125::L):=by simp[ih]
  rw[m]
  exact .Dc (b:=true) (L1:=44::32::(ih [44,32] (f::c)++125::L)) (d 0 Al Al Al _ ⟨_,Ts rfl⟩) rfl (Mq l)
theorem IW{ks ps:List N}(h0:0<ps.length)(hk:ks.length=ps.length)(hl:ps.length=lJ.length)(c:∀(i:Nat)(h0:i<ks.length)(h1:i<ps.length)(h2:i<lJ.length),Pe ks[i] ps[i] lJ[i])(d:ps.length≤1048576):Pa (.mk CJ ⟨#[]⟩ V0 [] ks ps []) ([123]++ih [44,32] lJ++[125]):=fun b hL=>by
 have f:[123]++ih [44,32] lJ++[125]++b=123::(ih [44,32] lJ++125::b):=by simp
 rw[f]
 exact Ks (L:=123::(ih [44,32] lJ++125::b)) rfl (H3 ks ps lJ Ac Ac hl c) Ac d rfl
def Oe(k v:N)(t:List UInt8):Prop:=(∀L,iE (t++L) C3=false)∧∀L,Lj L→OE (t++L) k v L
theorem OQ{s:ByteArray}(hs:jI s.data.toList)(b:nG s):Oe (mu s) je (36::s.data.toList):=⟨fun c=>oa rfl rfl Ah,fun c hL=>by
 have e:=mQ hs (hL.out []).1.nm
 rw[iO]at e
 exact .v e (rr b)⟩
theorem Pc{s:ByteArray}(hs:jI s.data.toList)(b:nG s):Oe (jk s) je s.data.toList:=⟨fun c=>by
 obtain⟨d,f,e,hc⟩:=sn hs
 rw[e];exact oa (zg hc) rfl (fun h=>by subst h;cases hc),fun c hL=>by
 have e:=kY hs (hL.out []).1.nm
 rw[iO]at e
 exact .k (by rw[e];exact(by decide:iY≠lP)) (Di e (rr b)) (hL.out []).2.2.1⟩
theorem OD{s:ByteArray}(c:nG s):Oe (jk s) je (qL s.data.toList):=⟨fun b=>oz (L:=qL s.data.toList++b) rfl (by decide:(34:UInt8)≠125),fun b hL=>
 .k BM (pY (Dg _ _) (lL c _)) (hL.out []).2.2.1⟩
theorem O5(c:S.length=Q.length+1)(hl:Q.length=lJ.length)(d:∀(i:Nat)(h1:i<Q.length)(h2:i<lJ.length),Pq Q[i] lJ[i])(f:S.length≤1048576)(g:∀x∈S,nG x):Oe (xy ⟨#[]⟩ S Q) je ([34]++lj S lJ++[34]):=⟨fun b=>oz (L:=[34]++lj S lJ++[34]++b) rfl (by decide:(34:UInt8)≠125),fun b hL=>
 .k (L:=[34]++lj S lJ++[34]++b) (by decide:kU≠lP) (pY (r:=lj S lJ++[34]++b) rfl (sW Ah c hl d f g b)) (hL.out []).2.2.1⟩
theorem MB(hk:Pq q M)(d:Te p L):Oe q p ([40]++M++[41]++[58,32]++L):=⟨fun b=>oz (L:=[40]++M++[41]++[58,32]++L++b) rfl (by decide:(40:UInt8)≠125),fun b hL=>by
 have g:[40]++M++[41]++[58,32]++L++b=40::(M++41::58::32::(L++b)):=by simp
 rw[g]
 obtain⟨hc,e⟩:=j4 (c:=41) (L:=58::32::(L++b)) Ah
 obtain⟨j,k,h1,h2⟩:=hL.out L
 have f:=Fg (L:=40::(M++41::58::32::(L++b))) rfl (hk.rd _ hc) (jj e)
 rw[e]at f
 exact .kv (L:=40::(M++41::58::32::(L++b))) (by decide:jU≠lP) f rfl (rh (L:=32::(L++b)) (d.st.nn b) (d.end ⟨j,k⟩) h2)⟩
theorem LF(h:OE L q p M):OE (32::L) q p M:=by
 cases h with
 |v e hx=>exact .v e hx
 |kv b hk ht c=>exact .kv b hk ht c
 |k b hk d=>exact .k b hk d
theorem Ij{ks:List N}(h:OM true L ks M):OM true (32::L) ks M:=by
 cases h with
 |Dc h b c=>exact .Dc (LF h) b c
theorem Ih{L:List UInt8}:∀(ks:List N)(c:List (List UInt8)),0<c.length→ks.length=2*c.length→(∀(i:Nat)(h1:2*i+1<ks.length)(h2:i<c.length),Oe (ks[2*i]'(TW h1)) ks[2*i+1] c[i])→OM true (ih [44,32] c++32::125::L) ks (32::125::L)
 |_,[],h,_,_=>by simp at h
 |[],_::_,_,h,_=>by simp at h
 |[_],_::_,_,h,_=>by simp at h;omega
 |j::k::ks,[g],_,hl,d=>by
  have:ks=[]:=Tn (by simp only[To,Tw]at hl;omega)
  subst this
  exact .Dc (b:=false) ((d 0 Al Al).2 (32::125::L) ⟨L,Tk (Tk rfl)⟩) rfl .done
 |j::k::ks,g::f::c,_,hl,d=>by
  have l:=Ih (L:=L) ks (f::c) Al (by simp at hl⊢;omega) (fun i h1 h2=>d (i+1) (by simp;omega) A4)
  have m:ih [44,32] (g::f::c)++32::125::L=g++44::32::(ih [44,32] (f::c)++32::125::L):=by simp[ih]
  rw[m]
  exact .Dc (b:=true) (L1:=44::32::(ih [44,32] (f::c)++32::125::L)) ((d 0 Al Al).2 _ ⟨_,Ts rfl⟩) rfl (Ij l)
theorem DY{ks:List N}{ts:List (List UInt8)}(hl:ks.length=2*ts.length)(f:∀(i:Nat)(h1:2*i+1<ks.length)(h2:i<ts.length),Oe (ks[2*i]'(TW h1)) ks[2*i+1] ts[i])(g:ks.length≤1048576):Te (.mk Cm ⟨#[]⟩ V0 [] ks [] []) (if ts=[]then[123,125]else[123,32]++ih [44,32] ts++[32,125]):=by
 by_cases h0:ts=[]
 ·subst h0
  have:ks=[]:=Tn Bo
  subst this
  rw[TU rfl]
  exact⟨ml rfl Ah (fun _=>by decide),fun b j k l m d=>iZ (r1 (L:=123::125::b) rfl (MM (L:=125::b) rfl)) d⟩
 rw[TI h0]
 refine⟨tt (c:=123) ⟨_,rfl⟩ rfl Ah (fun _=>by decide),fun b j k l m d=>?_⟩
 have o:0<ts.length:=UJ.2 h0
 have p:[123,32]++ih [44,32] ts++[32,125]++b=123::32::(ih [44,32] ts++32::125::b):=by simp
 rw[p]
 have q:iE (32::(ih [44,32] ts++32::125::b)) C3=false:=by
  cases ts with
  |nil=>exact Tu rfl h0
  |cons r ts=>
   show iE (ih [44,32] (r::ts)++32::125::b) C3=false
   rw[mq,Ty]
   exact(f 0 (by simp at hl;omega) Al).1 _
 exact iZ (r1 (L:=123::32::(ih [44,32] ts++32::125::b)) rfl (Mw q (Ij (Ih ks ts o hl f)) g rfl)) d
theorem D2(f:uZ t)(d:nG t)(hL:jt false (kM L)=false):RS 82 (t.data.toList++L) t L:=by
 intro k l s hs c
 rcases f with h|⟨b,hl,h⟩
 ·have e:=kY h hL
  rw[iO]at e
  exact FL e (rr d) hs c
 rw[hl]at c
 have e:=mQ h hL
 have g:(ba b).size≤1099511627776:=by
  have:t.size=b.length+1:=by rw[hK,hl];simp
  rw[lZ];have:=rr d;omega
 have:=Fy e g hs c
 have j:(Cx++ba b:ByteArray)=t:=by
  rw[←iO t,hl,←iO (Cx++ba b)]
  unfold ba;simp[Un]
 rwa[j]at this
theorem zR{L:List UInt8}:∀(ps:List ByteArray),(∀b∈ps,uZ b∧nG b)→Ll ((ps.map fun b=>[59,32]++b.data.toList).flatten++41::L) ps (41::L)∧jt false (kM ((ps.map fun b=>[59,32]++b.data.toList).flatten++41::L))=false
 |[],_=>⟨.nil rfl,rfl⟩
 |b::ps,h=>by
  obtain⟨c,d⟩:=zR (L:=L) ps (fun f g=>h f (by simp[g]))
  have j:(((b::ps).map fun b=>[59,32]++b.data.toList).flatten++41::L)=59::32::(b.data.toList++((ps.map fun b=>[59,32]++b.data.toList).flatten++41::L)):=by simp
  rw[j]
  exact⟨.cons (L:=59::32::(b.data.toList++((ps.map fun b=>[59,32]++b.data.toList).flatten++41::L))) rfl (D2 (h b Al).1 (h b Al).2 d) c,rfl⟩
theorem MO{ps:List ByteArray}(h:∀b∈ps,uZ b∧nG b)(c:List UInt8):DP (oj ps++58::c) ps (58::c)∧jt false (kM (oj ps++58::c))=false:=by
 cases ps with
 |nil=>exact⟨.none rfl,rfl⟩
 |cons b ps=>
  obtain⟨d,f⟩:=zR (L:=58::c) ps (fun g j=>h g (by simp[j]))
  have k:oj (b::ps)++58::c=40::(b.data.toList++((ps.map fun b=>[59,32]++b.data.toList).flatten++41::58::c)):=by
   unfold oj;rw[TI Al,T8,mq];simp[List.map_map,Function.comp_def]
  rw[k]
  exact⟨.some (L:=40::(b.data.toList++((ps.map fun b=>[59,32]++b.data.toList).flatten++41::58::c))) (L2:=41::58::c) rfl (D2 (h b Al).1 (h b Al).2 f) d rfl,rfl⟩
def Df(d:N)(u:List UInt8):Prop:=∀ds T E,DS (32::T) ds E→DS (u++32::T) (d::ds) E
theorem M8{s:ByteArray}{ps:List ByteArray}(hs:jI s.data.toList)(m:nG s)(f:∀d∈ps,uZ d∧nG d)(o:ps.length≤1048576)(h:Pq q M):Df (.mk ⟨#[]⟩ s V0 ps [q] [] []) ([100,101,102,32]++s.data.toList++oj ps++[58,32]++M++[59]):=fun y b z p=>by
 obtain⟨r,t⟩:=MO f (32::(M++59::32::b))
 have u:[100,101,102,32]++s.data.toList++oj ps++[58,32]++M++[59]++32::b=[100,101,102]++32::(s.data.toList++(oj ps++58::32::(M++59::32::b))):=by simp
 rw[u]
 have g:lx ([100,101,102]++32::(s.data.toList++(oj ps++58::32::(M++59::32::b))))=(iY,_,_):=kY (w:=[100,101,102]) (l:=32::(s.data.toList++(oj ps++58::32::(M++59::32::b)))) rfl rfl
 have j:=kY hs t
 rw[iO]at j
 obtain⟨hc,k⟩:=j4 (c:=59) (L:=32::b) Ah
 exact .cons (kz g) (by rw[g];exact j) (rr m) r o (fun d v=>(f d v).2) rfl (h.rd _ hc) (jj k) (by rw[k];exact p)
theorem MD(h:DS L (q::Q) M):DS (32::L) (q::Q) M:=by
 cases h with
 |cons ht e hx b c d hc h f g=>exact .cons ht e hx b c d hc h f g
theorem Iq{d f:List UInt8}{g:List N}(j:DS (32::d) g f):∀(c:List N)(b:List (List UInt8)),c.length=b.length→(∀(i:Nat)(h1:i<c.length)(h2:i<b.length),Df c[i] b[i])→DS (32::((b.map (· ++[32])).flatten++d)) (c++g) f
 |[],[],_,_=>j
 |_::_,[],h,_=>by simp at h
 |[],_::_,h,_=>by simp at h
 |p::c,k::b,h,l=>by
  have m:=Iq j c b AU (fun i h1 h2=>l (i+1) AW A4)
  have:=l 0 Al Al _ _ _ m
  have o:32::(((k::b).map (· ++[32])).flatten++d)=32::(k++32::((b.map (· ++[32])).flatten++d)):=by simp
  rw[o]
  exact MD this
abbrev qN(v:V):N:=.mk Cr ⟨#[]⟩ v [] [] [] []
abbrev nY(x y:N):N:=.mk CM ⟨#[]⟩ V0 [] [x,y] [] []
abbrev Jv(x:N):N:=.mk CG ⟨#[]⟩ V0 [] [x] [] []
abbrev xm(l:List N):N:=.mk Cv ⟨#[]⟩ V0 [] l [] []
abbrev HD(l:List N):N:=.mk Cm ⟨#[]⟩ V0 [] l [] []
def Fa:N→List N→N
 |x,[]=>x
 |x,y::ys=>Fa (nY x y) ys
def oN:List ByteArray→List N→List N
 |k::ks,x::xs=>jk k::x::oN ks xs
 |_,_=>[]
theorem ov:∀(ks:List ByteArray)(b:List N),ks.length=b.length→(oN ks b).length=2*b.length
 |[],[],_=>rfl
 |[],_::_,h=>by simp at h
 |_::_,[],h=>by simp at h
 |c::ks,x::b,h=>by have:=ov ks b AU;simp only[oN,To,this];omega
inductive Xv:V→N→Prop
 |null:Xv (.mk 0 0 ⟨#[]⟩ [] [] []) (qN (.mk 0 0 ⟨#[]⟩ [] [] []))
 |vQ:Xv (.mk 1 0 ⟨#[]⟩ [] [] []) (qN (.mk 1 0 ⟨#[]⟩ [] [] []))
 |IA:Xv (.mk 2 0 ⟨#[]⟩ [] [] []) (qN (.mk 2 0 ⟨#[]⟩ [] [] []))
 |num {h:Nat} (hb:h≤18014398509481984):Xv (.mk 3 (h:Int) ⟨#[]⟩ [] [] []) (qN (.mk 3 (h:Int) ⟨#[]⟩ [] [] []))
 |neg {h:Nat} (h0:0<h) (hb:h≤18014398509481984):Xv (.mk 3 (-(h:Int)) ⟨#[]⟩ [] [] []) (Jv (qN (.mk 3 (h:Int) ⟨#[]⟩ [] [] [])))
 |text {s:ByteArray}:Xv (.mk 4 0 s [] [] []) (jk s)
 |H0:Xv (.mk 5 0 ⟨#[]⟩ [] [] []) (xm [])
 |list {v:V} {vs:List V} {x:N} {xs:List N} (h0:Xv v x) (hl:vs.length=xs.length) (h:∀(i:Nat)(h1:i<vs.length)(h2:i<xs.length),Xv vs[i] xs[i]):Xv (.mk 5 0 ⟨#[]⟩ (v::vs) [] []) (xm [Fa x xs])
 |map {ks:List ByteArray} {vs:List V} {xs:List N} (hk:ks.length=vs.length) (hl:vs.length=xs.length) (h:∀(i:Nat)(h1:i<vs.length)(h2:i<xs.length),Xv vs[i] xs[i]):Xv (.mk 6 0 ⟨#[]⟩ [] ks vs) (HD (oN ks xs))
def Vf(L:List UInt8):Prop:=(∃R,L=44::R)∨Cl L
structure Vr(x:N)(t:List UInt8):Prop where
 st:St t true
 u:∀L,Vf L→RQ 129 [] (t++L) x L
 m:∀L,Lj L→RQ 161 [] (t++L) x L
theorem Vf.out{L:List UInt8}(h:Vf L)(c:List UInt8):Fo c L∧NS L∧iE L Cy=false∧(∀n,rI n L=false)∧iE L CY=false:=by
 rcases h with⟨b,rfl⟩|h
 ·obtain⟨d,f,_,_⟩:=Lj.out (L:=44::b) ⟨b,Ts rfl⟩ c
  refine⟨d,f,oz (L:=44::b) rfl (by decide:(44:UInt8)≠97),fun n=>?_,oz (L:=44::b) rfl (by decide:(44:UInt8)≠47)⟩
  unfold rI
  rw[show lx (44::b)=(jU,CM,b)from rfl]
  match n with
  |0=>rfl|1=>rfl|2=>rfl|3=>rfl|4=>rfl|_+5=>rfl
 exact⟨h.fo c,h.ns,h.no rfl,h.lo,h.no rfl⟩
theorem Te.vr{x:N}(h:Te x L):Vr x L:=
 ⟨h.st.mono,fun d hL=>by obtain⟨b,c,f,_⟩:=hL.out L;exact h.u b c f,fun d hL=>by obtain⟨b,c,_,g⟩:=hL.out L;exact rh (h.st.nn d) (h.end ⟨b,c⟩) g⟩
theorem K0{x:N}(h:Te x L):Vr (Jv x) ([45]++L):=by
 refine⟨tt (c:=45) ⟨_,rfl⟩ rfl Ah (fun h=>by cases h),fun b hL=>by obtain⟨d,f,j,_⟩:=hL.out L;exact HN h d f j,fun b hL=>?_⟩
 obtain⟨d,f,_,k⟩:=hL.out L
 have l:=rh (h.st.nn b) (h.end ⟨d,f⟩) k
 obtain⟨c,g,rfl,h1,h2,m⟩:=h.st.c
 have e:lx ([45]++(c::g)++b)=(jU,C5,(c::g)++b):=B9 h2.2.2.2
 exact An (jj e) (by rw[e];exact l)
theorem Vr.alt{x:N}(h:Vr x M)(hL:Vf L):RQ 84 [] (M++L) x L:=by
 obtain⟨_,_,_,b,c⟩:=hL.out M
 exact xP (mE 0 Ah (h.u L hL) (fun i _ _=>b i)) c
theorem H7{d:List UInt8}(hc:Cl d):∀(f:List N)(c:List (List UInt8))(x:N),f.length=c.length→(∀(i:Nat)(h1:i<f.length)(h2:i<c.length),Vr f[i] c[i])→(∃g,CT g x ((c.map fun b=>[44,32]++b).flatten++d) (Fa x f) d)∧Vf ((c.map fun b=>[44,32]++b).flatten++d)
 |[],[],x,_,_=>⟨⟨0,.nil (hc.no rfl)⟩,Tk hc⟩
 |_::_,[],_,h,_=>by simp at h
 |[],_::_,_,h,_=>by simp at h
 |k::l,b::c,x,h,j=>by
  obtain⟨⟨g,m⟩,o⟩:=H7 hc l c (nY x k) AU (fun i h1 h2=>j (i+1) AW A4)
  have p:(((b::c).map fun b=>[44,32]++b).flatten++d)=44::32::(b++((c.map fun b=>[44,32]++b).flatten++d)):=by simp
  rw[p]
  exact⟨⟨g+1,.cons (L:=44::32::(b++((c.map fun b=>[44,32]++b).flatten++d))) rfl ((j 0 Al Al).alt o) m⟩,Ts ⟨_,rfl⟩⟩
theorem GY{x:N}{t:List UInt8}(h0:Vr x t)(hl:Q.length=lJ.length)(b:∀(i:Nat)(h1:i<Q.length)(h2:i<lJ.length),Vr Q[i] lJ[i]):Pq (Fa x Q) (ih [44,32] (t::lJ)):=by
 rw[mq]
 refine⟨(h0.st.app (fun c hL=>by cases lJ with
  |nil=>exact hL
  |cons d f=>rfl)).s0,fun c hc=>?_⟩
 obtain⟨⟨k,g⟩,j⟩:=H7 hc Q lJ x hl b
 rw[Ty]
 refine vZ (nt (h0.alt j) g) (hc.no rfl) (h0.st.d _ ?_)
 cases lJ with
 |nil=>exact hc.nm
 |cons d f=>rfl
theorem O6{x:N}(c:nG t)(h:Vr x L):Oe (jk t) x (qL t.data.toList++[58,32]++L):=⟨fun b=>oz (L:=qL t.data.toList++[58,32]++L++b) rfl (by decide:(34:UInt8)≠125),fun b hL=>by
 have d:qL t.data.toList++[58,32]++L++b=qL t.data.toList++58::32::(L++b):=by simp
 rw[d]
 exact .kv BM (pY (Dg _ _) (lL c _)) rfl (h.m b hL)⟩
theorem xb:∀(ks:List ByteArray)(b:List N)(i:Nat)(hk:i<ks.length)(hx:i<b.length)(h1:2*i+1<(oN ks b).length),(oN ks b)[2*i]'(TW h1)=jk ks[i]∧(oN ks b)[2*i+1]=b[i]
 |[],_,i,hk,_,_=>by simp at hk
 |_::_,[],i,_,hx,_=>by simp at hx
 |c::ks,x::b,0,_,_,_=>⟨rfl,rfl⟩
 |c::ks,x::b,i+1,hk,hx,h1=>by
  have:=xb ks b i Cd (by simpa using hx) (by simp only[oN,To]at h1;omega)
  exact this
theorem IZ{ks:List ByteArray}{xs:List N}{ts:List (List UInt8)}(hk:ks.length=xs.length)(hl:xs.length=ts.length)(d:∀b∈ks,nG b)(f:∀(i:Nat)(h1:i<xs.length)(h2:i<ts.length),Vr xs[i] ts[i])(l:xs.length≤524288):Te (HD (oN ks xs)) (tB ks ts):=by
 have g:=ov ks xs hk
 have:=DY (ks:=oN ks xs) (ts:=List.zipWith (fun b c=>qL b.data.toList++[58,32]++c) ks ts) (by rw[g,List.length_zipWith];omega) (fun i h1 h2=>by
  have hi:i<xs.length:=by omega
  obtain⟨j,k⟩:=xb ks xs i Ac hi h1
  rw[j,k,List.getElem_zipWith]
  exact O6 (d _ (T2 _)) (f i hi Ac)) Ac
 have e:(if List.zipWith (fun b c=>qL b.data.toList++[58,32]++c) ks ts=[]then[123,125]else[123,32]++ih [44,32] (List.zipWith (fun b c=>qL b.data.toList++[58,32]++c) ks ts)++[32,125])=tB ks ts:=by
  unfold tB
  cases ks with
  |nil=>simp
  |cons b ks=>
   cases ts with
   |nil=>simp only[To,Tw]at hk hl;omega
   |cons c ts=>rw[TI Al,TI Al]
 rwa[e]at this
theorem Ki{o:V}{j:List UInt8}(h:sk o j)(hw:o.wt≤1048576):∃x,Xv o x∧Vr x j∧(isNeg (qN o)=false→Te x j):=by
 induction h with
 |null=>exact⟨_,.null,wJ.vr,fun _=>wJ⟩
 |vQ=>exact⟨_,.vQ,u2.vr,fun _=>u2⟩
 |IA=>exact⟨_,.IA,xH.vr,fun _=>xH⟩
 |num k=>exact⟨_,.num k,(vh k).vr,fun _=>vh k⟩
 | @neg h h0 k=>exact⟨_,.neg h0 k,K0 (vh k),fun t=>by simp[isNeg]at t;omega⟩
 | @text s u=>
  have r:nG s:=by simp only[V.wt]at hw;show s.size≤_;omega
  exact⟨_,.text,(Dj r).vr,fun _=>Dj r⟩
 | @list f c hl h q=>
  have v:V.h9 f≤1048575:=by simp only[V.wt]at hw;omega
  have hx:∃b:List N,b.length=f.length∧∀(i:Nat)(h1:i<f.length)(h2:i<b.length)(g:i<c.length),Xv f[i] b[i]∧Vr b[i] c[i]:=by
   have p:∀i,∃x,∀(h1:i<f.length)(g:i<c.length),Xv f[i] x∧Vr x c[i]:=fun i=>by
    by_cases hi:i<f.length
    ·obtain⟨x,h1,h2,_⟩:=q i hi Ac (by have:=V.iP hi;omega)
     exact⟨x,fun _ _=>⟨h1,h2⟩⟩
    exact⟨je,fun h=>Tu h hi⟩
   refine⟨(List.range f.length).map (fun i=>Classical.choose (p i)),by simp,fun i h1 h2 g=>?_⟩
   simp only[Uw,Us]
   exact Uo (p i) h1 g
  obtain⟨b,hxl,l⟩:=hx
  cases f with
  |nil=>
   have:c=[]:=Tn (by simpa using hl.symm)
   subst this
   exact⟨_,.H0,tw.vr,fun _=>tw⟩
  |cons o d=>
   cases c with
   |nil=>simp at hl
   |cons j c=>
    cases b with
    |nil=>simp at hxl
    |cons x b=>
     have h0:=l 0 Al Al Al
     have w:∀(i:Nat)(h1:i<b.length)(h2:i<c.length),Vr b[i] c[i]:=fun i h1 h2=>(l (i+1) (by simp at hxl⊢;omega) AW A4).2
     have ht:=xe (GY (x:=x) (t:=j) h0.2 (by simp at hxl hl;omega) w)
     exact⟨_,.list h0.1 (by simpa using hxl.symm) (fun i h1 h2=>(l (i+1) AW A4 (by simp at hl⊢;omega)).1),ht.vr,fun _=>ht⟩
 | @map ks d c hk hl u h q=>
  have v:V.h9 d≤1048575∧(ks.map fun m=>m.size+1).sum≤1048575∧V.h9 d+(ks.map fun m=>m.size+1).sum≤1048575:=by simp only[V.wt]at hw;omega
  have hx:∃b:List N,b.length=d.length∧∀(i:Nat)(h1:i<d.length)(h2:i<b.length)(g:i<c.length),Xv d[i] b[i]∧Vr b[i] c[i]:=by
   have p:∀i,∃x,∀(h1:i<d.length)(g:i<c.length),Xv d[i] x∧Vr x c[i]:=fun i=>by
    by_cases hi:i<d.length
    ·obtain⟨x,h1,h2,_⟩:=q i hi Ac (by have:=V.iP hi;omega)
     exact⟨x,fun _ _=>⟨h1,h2⟩⟩
    exact⟨je,fun h=>Tu h hi⟩
   refine⟨(List.range d.length).map (fun i=>Classical.choose (p i)),by simp,fun i h1 h2 g=>?_⟩
   simp only[Uw,Us]
   exact Uo (p i) h1 g
  obtain⟨b,hxl,l⟩:=hx
  have y:∀m∈ks,nG m:=fun m z=>by
   obtain⟨i,hi,rfl⟩:=T0 z
   have:=lM hi;show _≤_;omega
  have hlen:d.length≤524288:=by
   have h1:=V.iw d
   have h2:=jY ks
   omega
  have ht:=IZ (ks:=ks) (xs:=b) (ts:=c) Ac Ac y (fun i h1 h2=>(l i Ac h1 h2).2) Ac
  exact⟨_,.map hk hxl.symm (fun i h1 h2=>(l i h1 h2 Ac).1),ht.vr,fun _=>ht⟩
abbrev nK(ds:List N)(k:N):N:=.mk Cs ⟨#[]⟩ V0 [] [k] [] ds
def O4:List ByteArray:=[Cr,Cn,Cs]
def OO(l:List ByteArray)(x:ByteArray):Bool:=l.any (fun y=>decide (x=y))
inductive Xr:Nat→N→N→Prop
 |none:Xr 0 je je
 |val {v:V} {x:N} (h:Xv v x):Xr 0 (qN v) x
 |rm {s:ByteArray}:Xr 0 (.mk ⟨#[116,101,120,116]⟩ ⟨#[]⟩ V0 [s] [] [] []) (jk s)
 |node {op text:ByteArray} {names:List ByteArray} {kids xs pats:List N} (ho:OO O4 op=false) (ht:op=⟨#[116,101,120,116]⟩→0<kids.length∨text≠⟨#[]⟩) (hl:kids.length=xs.length) (h:∀(i:Nat)(h1:i<kids.length)(h2:i<xs.length),Xr 0 kids[i] xs[i]):Xr 0 (.mk op text V0 names kids pats []) (.mk op text V0 names xs pats [])
 |vF {ds dx:List N} {k x:N} (hk:iz k≠⟨#[100,101,102]⟩) (hl:ds.length=dx.length) (hd:∀(i:Nat)(h1:i<ds.length)(h2:i<dx.length),Xr 2 ds[i] dx[i]) (h:Xr 0 k x):Xr 0 (nK ds k) (nK dx x)
 |sL {ds dx dy:List N} {k b:N} (hk:iz k=⟨#[100,101,102]⟩) (hl:ds.length=dx.length) (hd:∀(i:Nat)(h1:i<ds.length)(h2:i<dx.length),Xr 2 ds[i] dx[i]) (h:Xr 0 k (nK dy b)):Xr 0 (nK ds k) (nK (dx++dy) b)
 |d {s:ByteArray} {ps:List ByteArray} {k x:N} (h:Xr 0 k x):Xr 2 (.mk ⟨#[]⟩ s V0 ps [k] [] []) (.mk ⟨#[]⟩ s V0 ps [x] [] [])
structure Rd(n x:N)(t:List UInt8):Prop where
 xr:Xr 0 n x
 pq:Pq x t
 te:nN n=true→Te x t
 st:iz n≠Cs→∀L,jt false (kM L)=false→iE (t++L) Cs=false
 df:iz n=Cs→∃dx b tb,x=nK dx b∧dx.length≤n.wt∧Pq b tb∧(∀L,jt false (kM L)=false→DS (32::(t++L)) dx (32::(tb++L)))
theorem Rd.bx{n x:N}(h:Rd n x L):Te x (bx n L):=by
 unfold Go.Proofs.YtlojelcoibpphaaGreatDoor.bx
 split
 ·rename_i hu;exact h.te hu
 exact Te.par h.pq.rd
theorem Rd.mc{n x:N}(hx:Xr 0 n x)(h:Te x L)(b:iz n≠Cs):Rd n x L:=⟨hx,h.pp,fun _=>h,fun _=>h.st.d,fun e=>Tu e b⟩
theorem Rd.x9{n x:N}{neg:Bool}(hx:Xr 0 n x)(h:Pq x L)(hs:St L neg)(hu:nN n=false)(b:iz n≠Cs):Rd n x L:=⟨hx,h,(fun e=>by rw[hu]at e;cases e),fun _=>hs.d,fun e=>Tu e b⟩
theorem many{P:N→N→List UInt8→Prop}{ks:List N}(h:∀(i:Nat)(h1:i<ks.length)(h2:i<lJ.length),∃x,P ks[i] x lJ[i])(hl:ks.length=lJ.length):
  ∃b:List N,ks.length=b.length∧∀(i:Nat)(h1:i<ks.length)(h2:i<b.length)(c:i<lJ.length),P ks[i] b[i] lJ[i]:=by
 have d:∀i,∃x,∀(h1:i<ks.length)(c:i<lJ.length),P ks[i] x lJ[i]:=fun i=>by
  by_cases hi:i<ks.length
  ·obtain⟨x,hx⟩:=h i hi Ac;exact⟨x,fun _ _=>hx⟩
  exact⟨je,fun h=>Tu h hi⟩
 refine⟨(List.range ks.length).map (fun i=>Classical.choose (d i)),by simp,fun i h1 h2 c=>?_⟩
 simp only[Uw,Us]
 exact Uo (d i) h1 c
theorem iK{xs:List N}(b:OO O4 t=false)(ht:t≠Cp)(h:Q.length=xs.length∧∀(i:Nat)(h1:i<Q.length)(h2:i<xs.length),Xr 0 Q[i] xs[i]):Xr 0 (.mk t sA V0 S Q P []) (.mk t sA V0 S xs P []):=.node b (fun e=>Tu e ht) h.1 h.2
theorem l1{x:N}(h:Xr 0 q x):[q].length=[x].length∧∀(i:Nat)(h1:i<[q].length)(h2:i<[x].length),Xr 0 [q][i] [x][i]:=⟨rfl,fun i h1 h2=>by have:i=0:=AW;subst this;exact h⟩
theorem l2{x:N}(h:Xr 0 q x)(b:Xr 0 p qA):[q,p].length=[x,qA].length∧∀(i:Nat)(h1:i<[q,p].length)(h2:i<[x,qA].length),Xr 0 [q,p][i] [x,qA][i]:=⟨rfl,fun i h1 h2=>by
 match i,h1 with
 |0,_=>exact h
 |1,_=>exact b⟩
theorem l3{x:N}(h:Xr 0 q x)(b:Xr 0 p qA)(c:Xr 0 qB qC):[q,p,qB].length=[x,qA,qC].length∧∀(i:Nat)(h1:i<[q,p,qB].length)(h2:i<[x,qA,qC].length),Xr 0 [q,p,qB][i] [x,qA,qC][i]:=⟨rfl,fun i h1 h2=>by
 match i,h1 with
 |0,_=>exact h
 |1,_=>exact b
 |2,_=>exact c⟩
theorem l4{x:N}(h:Xr 0 q x)(b:Xr 0 p qA)(c:Xr 0 qB qC)(d:Xr 0 qD qE):[q,p,qB,qD].length=[x,qA,qC,qE].length∧∀(i:Nat)(h1:i<[q,p,qB,qD].length)(h2:i<[x,qA,qC,qE].length),Xr 0 [q,p,qB,qD][i] [x,qA,qC,qE][i]:=⟨rfl,fun i h1 h2=>by
 match i,h1 with
 |0,_=>exact h
 |1,_=>exact b
 |2,_=>exact c
 |3,_=>exact d⟩
theorem Rd.bs{n x:N}(h:Rd n x L)(b:Bool):Te x (n4 b n L):=by
 unfold n4
 split
 ·exact Te.par h.pq.rd
 exact h.bx
theorem zZ{n x:N}(h:Xr 0 n x)(d:iz n=CE)(f:∃g,Gd 0 n g):n=.mk CE ⟨#[]⟩ V0 [] [] [] []∧x=.mk CE ⟨#[]⟩ V0 [] [] [] []:=by
 obtain⟨g,f⟩:=f
 have j:n=.mk CE ⟨#[]⟩ V0 [] [] [] []:=by
  cases f<;>first|rfl|(exfalso;revert d;simp[iz];done)|skip
  rename_i c o p g q k h1 h2
  exfalso
  have l:∀c,c<25→c=0∨jQ c≠CE:=by decide
  exact((l c Ac).resolve_left Ac) d
 subst j
 refine⟨rfl,?_⟩
 generalize b:(N.mk CE ⟨#[]⟩ V0 [] [] [] [])=n at h
 cases h with
 |none=>cases b
 |val h=>cases b
 |rm=>cases b
 |node k ht hl h=>
  cases b
  rename_i m
  have:m=[]:=Tn hl.symm
  subst this;rfl
 |vF hk hl d h=>cases b
 |sL hk hl d h=>cases b
theorem p2{n x:N}{s:List UInt8}(h:Rd n x L)(d:Gd 0 n L)(hs:∀c b,c=x→tE 140 c (s++b) q b):Te q (qz n L (91::s)):=by
 unfold qz
 split
 ·rename_i f
  obtain⟨_,hx⟩:=zZ h.xr f ⟨L,d⟩
  exact Hq (fun b=>hs _ b hx.symm)
 exact xh (h.bs false) (fun b=>hs _ b rfl)
theorem Hg{n x:N}{s:ByteArray}(h:Rd n x L)(c:Gd 0 n L)(b:nG s):Te (.mk Cu s V0 [] [x] [] []) (tH n L (iq s)):=by
 unfold tH
 split
 ·rename_i d
  obtain⟨_,hx⟩:=zZ h.xr d ⟨L,c⟩
  subst hx
  exact Ha b
 exact JW (h.bs false) b
end Go.Proofs.YtlojelcoibpphaaGreatDoor
