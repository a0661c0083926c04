/- FnQueryText, second form: own texts, joined and made short by a program (part 8): for every argument of bulk at most 1048576 the law answers true. -/
import Derived.Test.YtlojelcoibpphaaGreatDoorMx01
import Derived.Test.YtlojelcoibpphaaGreatDoorMx03
import Derived.Test.YtlojelcoibpphaaGreatDoorMx02
import Derived.Test.YtlojelcoibpphaaGreatDoorMx07
set_option maxRecDepth 100000
set_option maxHeartbeats 2000000
set_option linter.unusedVariables false
set_option linter.unusedSimpArgs false
set_option linter.unusedSectionVars false
set_option linter.defProp false
namespace Go.Proofs.YtlojelcoibpphaaGreatDoor
open Go Go.RowKit D Go.Deep Go.Proofs
variable{L M lA lB lC lD:List UInt8}{m:Nat}{w:World}{t sA:ByteArray}{q p qA qB:N}{Q:List N}{uA:UInt8}
inductive IT:List UInt8→List N→List UInt8→Prop
 |nil {L:List UInt8} (hn:iE L ⟨#[101,108,105,102]⟩=false):IT L [] L
 |cons {c t:N} {ps:List N} {L L1 L2 L':List UInt8} (ht:iE L ⟨#[101,108,105,102]⟩=true) (h:RQ 15 [] (lx L).2.2 c L1) (ht2:iE L1 ⟨#[116,104,101,110]⟩=true) (h2:RQ 15 [] (lx L1).2.2 t L2) (r:IT L2 ps L'):IT L (c::t::ps) L'
inductive PC:List UInt8→List N→List UInt8→Prop
 |nil {L:List UInt8} (hn:iE L ⟨#[44]⟩=false):PC L [] L
 |cons {p:N} {ps:List N} {L L2 L':List UInt8} (ht:iE L ⟨#[44]⟩=true) (h:kO 1 138 [] (lx L).2.2 p L2) (r:PC L2 ps L'):PC L (p::ps) L'
theorem Jd(h:RQ 15 [] lB q lA)(ht:iE lA CU)(h2:RQ 15 [] (lx lA).2.2 p L)(aa:IT L Q M)(ap:(q::p::Q).length≤1048576)(aq:iE M CS=false)(ar:iE M CW):RQ 159 [] lB (.mk CA ⟨#[]⟩ V0 [] (q::p::Q) [] []) (lx M).2.2:=by
 intro r v s hs b
 have av:=b.lt
 have bn:=b.lt
 refine cY Tryz.func159 fun g=>ac 2<|al F.z31 rfl fun o aw bo bp ax j=>au 4 ?_
 obtain⟨bq,ab⟩:=nm aw
 have br:=g.g.le ab
 refine cX (h _ _ _ hs b.g) ?_
 rintro _ ay bs bt ⟨ad,rfl,b,w⟩
 obtain⟨az,a0,bu⟩:=nl ay
 rw[←ab,←a0]at w
 have w:=w.up (D':=(DV [o] r.heap.size az)) Ad
 refine bN (css:=[ad]) F.ic rfl rfl Ag fun a1 bv bw bx bz ae=>cX (jA _ _ _ _ _) ?_
 rintro _ af b0 b1 rfl
 obtain⟨a2,b2,b3⟩:=nl af
 have ag:=RN.r0 (w:=af) (D:=(DV [o] r.heap.size a2)) (op:=CA) (text:=⟨#[]⟩) (cap:=1) Ap Ap (Gb ae) Ar (w.g.up Af) Ah
 refine al F.z31 rfl fun k b4 b5 b6 a3 c=>sA (cs:=#[.string CA,Zs,Zi,Zi,Zs,Zl,Zl,Zl,.slice (some ⟨a1,0,none⟩) 1 1,Zl,Zl,Zl]) c rfl rfl rfl ag.hA ag.one ?_
 intro ah b7 b8 T
 have c:=T
 obtain⟨a4,b9,bA⟩:=nl ah
 have d:NC ah 0 31 12 (fun E=>E=o∨E=k) r.heap.size a4 [_] _ _:=NC.hE (Gb ae) Ac Ac As w.hA (w.g.up AA)
 refine au 4<|cX (im ht hs b.g) ?_
 rintro _ bB bC bD ⟨rfl,b⟩
 refine au 2<|dR [v] 5 fun a5 a6 bE t=>have bF:=a6.size;aG [0]<|gM 1 (Gb c) rfl rfl rfl<|aG [2]<|gp 3 ?_
 obtain⟨a7,U⟩:=nm a5
 have bG:=g.g.le U
 refine cX (h2 _ _ _ hs b.g) ?_
 rintro _ a8 a9 bH ⟨ai,rfl,b,G⟩
 obtain⟨aA,aj,bI⟩:=nl a8
 rw[←U,←aj]at G
 have bJ:=a9.l2 U aj
 have G:=G.up (D':=(DV [o,k] a7 aA)) Ad
 refine gn t.g<|gp 4<|bN (css:=[ai]) F.ic rfl rfl Ag fun bK bL bM bO aB aC=>gn t.g<|gp 5<|DL.hJ rfl rfl F.ic rfl rfl d.g.own (hB.hE aC) (hW (sz:=12) (m:=1) Ag rfl) (hM Aq) Ae Ae Ac ?_
 intro ak aD z H I
 have u:=d.g.lo';have l:=fun f=>d.g.nx (b:=f);have hL:=fun f=>d.lt (b:=f)
 have d:=d.g.kI Ac As G.hA (G.g.up Ai) z H I
 have g:=g.g.put z (fun x hx=>Tk (u x hx))
 have j:=z.hO (Gb j) (l _ As)
 have c:=z.hO (Gb c) (l _ As)
 have b:=b.g.fr z (hL _ Ac)
 have aB:=Tj Ac z.size
 clear u l hL
 obtain⟨aE,aF,bP⟩:=nl aD
 rw[←aF]at d
 refine gl<|aG [6]<|gp 7<|sc c rfl rfl d.one rfl fun aH bQ bR c=>have c:aH.heap[k]? =some (.cells #[.string CA,Zs,Zi,Zi,Zs,Zl,Zl,Zl,ak,Zl,Zl,Zl] 31 (0,0)):=c;gl<|gD<|ac 2<|lE [v] r (σ:=List N×List UInt8×List N×Value×List (Array Value)×Nat) [(17,34)] [(0,Pt v),(2,Pt o),(3,Pt k)] (fun _=>[]) (fun(A,L,J,S,y,W) K=>IT L A M∧J++A=(q::p::Q)∧At K v s L∧K.heap[o]? =some (.cells #[Zs,Zs,Zi,Zi,Zs,Zl,Zl,Zl,Zl,Zl,Zl,Zl] 31 (0,0))∧K.heap[k]? =some (.cells #[.string CA,Zs,Zi,Zi,Zs,Zl,Zl,Zl,S,Zl,Zl,Zl] 31 (0,0))∧NC K 0 31 12 (fun E=>E=o∨E=k) r.heap.size W J S y∧W≤K.heap.size) (fun(A,_)=>A.length) ((Q,L,([q]++[p]),ak,([ad]++[ai]),aE)) ?_ ?_
 ·exact⟨g.g,aa,rfl,b.g,(Gb j),c,d.g,Ac⟩
 clear g j b d c aa
 rintro bS ⟨A,L,J,S,y,W⟩ bT bU ⟨g,aI,X,b,j,c,d,bV⟩
 have av:=b.lt
 have ax:=hC j
 have a3:=hC c
 have bW:J.length+A.length≤1048576:=by rw[←Tl,X];exact ap
 refine ac 4 ?_
 cases aI with
 |nil aJ=>
  refine cX (jd aJ b) ?_
  rintro _ bX bY bZ rfl
  refine au 3<|ac 4<|cX (jd aq b.g) ?_
  rintro _ ca cb cc rfl
  refine au 6<|cX (im ar hs b.g) ?_
  rintro _ am cd ce ⟨rfl,b⟩
  refine au 3 ?_
  obtain⟨aK,cf,cg⟩:=nl am
  have O:=RN.nJ (w:=am) (D:=(DV [o,k] r.heap.size aK)) (op:=CA) (text:=⟨#[]⟩) Ap Ap ((d.g.rw Ah Ae).mono Av) Rs.nil Rw.nil Rw.nil
  refine lw (Gb c) rfl O.hA<|sA (cs:=#[.string CA,Zs,Zi,Zi,Zs,Zl,Zl,Zl,S,Zl,Zl,Zl]) (Gb j) rfl rfl rfl O.hA O.one fun ch ci cj j=>au 2 ?_
  obtain rfl:J=q::p::Q:=by simpa using X
  exact hD.hZ rfl (by rw[O.hA];exact F.hN) (hB.hE j) (hH.mk g.g ⟨_,rfl,b.g,O.g.up oX⟩)
 |cons ht h aL h2 aM=>
  refine cX (jD ht hs b) ?_
  rintro _ ck cl cm ⟨rfl,b⟩
  refine au 5<|dR [v] 5 fun aN aO cn t=>have co:=aO.size;aG [0]<|gM 1 (Gb c) rfl rfl rfl<|aG [2]<|gp 3 ?_
  obtain⟨aP,Y⟩:=nm aN
  have cp:=g.g.le Y
  refine cX (h _ _ _ hs b.g) ?_
  rintro _ aQ aR cq ⟨aS,rfl,b,P⟩
  obtain⟨aT,an,cr⟩:=nl aQ
  rw[←Y,←an]at P
  have ct:=aR.l2 Y an
  have P:=P.up (D':=(DV [o,k] aP aT)) Ad
  refine gn t.g<|gp 4<|bN (css:=[aS]) F.ic rfl rfl Ag fun cu cv cw cx aU aV=>gn t.g<|gp 5<|DL.hJ rfl rfl F.ic rfl rfl d.g.own (hB.hE aV) (hW (sz:=12) (m:=1) Ag rfl) (hM Aq) Ae Ae Ac ?_
  intro aW aX B H I
  have u:=d.g.lo';have l:=fun f=>d.g.nx (b:=f);have hL:=fun f=>d.lt (b:=f)
  have d:=d.g.kI Ac As P.hA (P.g.up Ai) B H I
  have g:=g.g.put B (fun x hx=>Tk (u x hx))
  have j:=B.hO (Gb j) (l _ As)
  have c:=B.hO (Gb c) (l _ As)
  have b:=b.g.fr B (hL _ Ac)
  have aU:=Tj Ac B.size
  clear u l hL
  obtain⟨cy,aY,cz⟩:=nl aX
  rw[←aY]at d
  refine gl<|aG [6]<|gp 7<|sc c rfl rfl d.one rfl fun aZ c0 c1 T=>have c:=T;have c:aZ.heap[k]? =some (.cells #[.string CA,Zs,Zi,Zi,Zs,Zl,Zl,Zl,aW,Zl,Zl,Zl] 31 (0,0)):=c;gl<|gD<|ac 3<|cX (im aL hs b.g) ?_
  rintro _ c2 c3 c4 ⟨rfl,b⟩
  refine au 1<|dR [v] 5 fun ba bb c5 t=>have c6:=bb.size;aG [0]<|gM 1 (Gb c) rfl rfl rfl<|aG [2]<|gp 3 ?_
  obtain⟨bc,Z⟩:=nm ba
  have c7:=g.g.le Z
  refine cX (h2 _ _ _ hs b.g) ?_
  rintro _ bd be c8 ⟨bf,rfl,b,R⟩
  obtain⟨bg,ao,c9⟩:=nl bd
  rw[←Z,←ao]at R
  have cA:=be.l2 Z ao
  have R:=R.up (D':=(DV [o,k] bc bg)) Ad
  refine gn t.g<|gp 4<|bN (css:=[bf]) F.ic rfl rfl Ag fun cB cC cD cE bh bi=>gn t.g<|gp 5<|DL.hJ rfl rfl F.ic rfl rfl d.g.own (hB.hE bi) (hW (sz:=12) (m:=1) Ag rfl) (hM Aq) Ae Ae Ac ?_
  intro bj bk C H I
  have u:=d.g.lo';have l:=fun f=>d.g.nx (b:=f);have hL:=fun f=>d.lt (b:=f)
  have d:=d.g.kI Ac As R.hA (R.g.up Ai) C H I
  have g:=g.g.put C (fun x hx=>Tk (u x hx))
  have j:=C.hO (Gb j) (l _ As)
  have c:=C.hO (Gb c) (l _ As)
  have b:=b.g.fr C (hL _ Ac)
  have bh:=Tj Ac C.size
  clear u l hL
  obtain⟨cF,bl,cG⟩:=nl bk
  rw[←bl]at d
  exact gl<|aG [6]<|gp 7<|sc c rfl rfl d.one rfl fun bm cH cI c=>have c:bm.heap[k]? =some (.cells #[.string CA,Zs,Zi,Zi,Zs,Zl,Zl,Zl,bj,Zl,Zl,Zl] 31 (0,0)):=c;gl<|gD ⟨(_,_,_,_,_,_),⟨g.g,aM,by rw[←X];simp only[Ty,TH,TN],b.g,(Gb j),c,d.g,Ac⟩,Vj (TY _),trivial⟩
theorem KX{e:N}(h:RQ 15 [] lC q lA)(ht:iE lA CU)(h2:RQ 15 [] (lx lA).2.2 p L)(ae:IT L Q M)(ax:(q::p::Q).length≤1048576)(ay:iE M CS)(az:RQ 15 [] (lx M).2.2 e lB)(a0:iE lB CW):RQ 159 [] lC (.mk CA ⟨#[]⟩ V0 [] ((q::p::Q)++[e]) [] []) (lx lB).2.2:=by
 intro u v s hs b
 have a1:=b.lt
 have b6:=b.lt
 refine cY Tryz.func159 fun g=>ac 2<|al F.z31 rfl fun o a2 b7 b8 a3 j=>au 4 ?_
 obtain⟨b9,af⟩:=nm a2
 have bA:=g.g.le af
 refine cX (h _ _ _ hs b.g) ?_
 rintro _ a4 bB bC ⟨ag,rfl,b,A⟩
 obtain⟨a5,a6,bD⟩:=nl a4
 rw[←af,←a6]at A
 have A:=A.up (D':=(DV [o] u.heap.size a5)) Ad
 refine bN (css:=[ag]) F.ic rfl rfl Ag fun a7 bE bF bG bH ah=>cX (jA _ _ _ _ _) ?_
 rintro _ ai bI bJ rfl
 obtain⟨a8,bK,bL⟩:=nl ai
 have aj:=RN.r0 (w:=ai) (D:=(DV [o] u.heap.size a8)) (op:=CA) (text:=⟨#[]⟩) (cap:=1) Ap Ap (Gb ah) Ar (A.g.up Af) Ah
 refine al F.z31 rfl fun l bM bO bP a9 d=>sA (cs:=#[.string CA,Zs,Zi,Zi,Zs,Zl,Zl,Zl,.slice (some ⟨a7,0,none⟩) 1 1,Zl,Zl,Zl]) d rfl rfl rfl aj.hA aj.one ?_
 intro ak bQ bR U
 have d:=U
 obtain⟨aA,bS,bT⟩:=nl ak
 have c:NC ak 0 31 12 (fun I=>I=o∨I=l) u.heap.size aA [_] _ _:=NC.hE (Gb ah) Ac Ac As A.hA (A.g.up AA)
 refine au 4<|cX (im ht hs b.g) ?_
 rintro _ bU bV bW ⟨rfl,b⟩
 refine au 2<|dR [v] 5 fun aB aC bX r=>have bY:=aC.size;aG [0]<|gM 1 (Gb d) rfl rfl rfl<|aG [2]<|gp 3 ?_
 obtain⟨aD,W⟩:=nm aB
 have bZ:=g.g.le W
 refine cX (h2 _ _ _ hs b.g) ?_
 rintro _ aE aF ca ⟨am,rfl,b,J⟩
 obtain⟨aH,an,cb⟩:=nl aE
 rw[←W,←an]at J
 have cc:=aF.l2 W an
 have J:=J.up (D':=(DV [o,l] aD aH)) Ad
 refine gn r.g<|gp 4<|bN (css:=[am]) F.ic rfl rfl Ag fun cd ce cf cg aI aJ=>gn r.g<|gp 5<|DL.hJ rfl rfl F.ic rfl rfl c.g.own (hB.hE aJ) (hW (sz:=12) (m:=1) Ag rfl) (hM Aq) Ae Ae Ac ?_
 intro ao aK B y z
 have t:=c.g.lo';have k:=fun f=>c.g.nx (b:=f);have hL:=fun f=>c.lt (b:=f)
 have c:=c.g.kI Ac As J.hA (J.g.up Ai) B y z
 have g:=g.g.put B (fun x hx=>Tk (t x hx))
 have j:=B.hO (Gb j) (k _ As)
 have d:=B.hO (Gb d) (k _ As)
 have b:=b.g.fr B (hL _ Ac)
 have aI:=Tj Ac B.size
 clear t k hL
 obtain⟨aL,aM,ch⟩:=nl aK
 rw[←aM]at c
 refine gl<|aG [6]<|gp 7<|sc d rfl rfl c.one rfl fun aN ci cj d=>have d:aN.heap[l]? =some (.cells #[.string CA,Zs,Zi,Zi,Zs,Zl,Zl,Zl,ao,Zl,Zl,Zl] 31 (0,0)):=d;gl<|gD<|ac 2<|lE [v] u (σ:=List N×List UInt8×List N×Value×List (Array Value)×Nat) [(17,34)] [(0,Pt v),(2,Pt o),(3,Pt l)] (fun _=>[]) (fun(C,L,K,X,w,Y) O=>IT L C M∧K++C=(q::p::Q)∧At O v s L∧O.heap[o]? =some (.cells #[Zs,Zs,Zi,Zi,Zs,Zl,Zl,Zl,Zl,Zl,Zl,Zl] 31 (0,0))∧O.heap[l]? =some (.cells #[.string CA,Zs,Zi,Zi,Zs,Zl,Zl,Zl,X,Zl,Zl,Zl] 31 (0,0))∧NC O 0 31 12 (fun I=>I=o∨I=l) u.heap.size Y K X w∧Y≤O.heap.size) (fun(C,_)=>C.length) ((Q,L,([q]++[p]),ao,([ag]++[am]),aL)) ?_ ?_
 ·exact⟨g.g,ae,rfl,b.g,(Gb j),d,c.g,Ac⟩
 clear g j b c d ae
 rintro ck ⟨C,L,K,X,w,Y⟩ cl cm ⟨g,aO,Z,b,j,d,c,cn⟩
 have a1:=b.lt
 have a3:=hC j
 have a9:=hC d
 have co:K.length+C.length≤1048576:=by rw[←Tl,Z];exact ax
 refine ac 4 ?_
 cases aO with
 |nil aP=>
  refine cX (jd aP b) ?_
  rintro _ cp cq cr rfl
  refine au 3<|ac 4<|cX (jD ay hs b.g) ?_
  rintro _ ct cu cv ⟨rfl,b⟩
  refine au 2<|dR [v] 5 fun aQ aR cw r=>have cx:=aR.size;aG [0]<|gM 1 (Gb d) rfl rfl rfl<|aG [2]<|gp 3 ?_
  obtain⟨aS,aa⟩:=nm aQ
  have cy:=g.g.le aa
  refine cX (az _ _ _ hs b.g) ?_
  rintro _ aT aU cz ⟨aV,rfl,b,P⟩
  obtain⟨aW,ap,c0⟩:=nl aT
  rw[←aa,←ap]at P
  have c1:=aU.l2 aa ap
  have P:=P.up (D':=(DV [o,l] aS aW)) Ad
  refine gn r.g<|gp 4<|bN (css:=[aV]) F.ic rfl rfl Ag fun c2 c3 c4 c5 aX aY=>gn r.g<|gp 5<|DL.hJ rfl rfl F.ic rfl rfl c.g.own (hB.hE aY) (hW (sz:=12) (m:=1) Ag rfl) (hM Aq) Ae Ae Ac ?_
  intro aq aZ E y z
  have t:=c.g.lo';have k:=fun f=>c.g.nx (b:=f);have hL:=fun f=>c.lt (b:=f)
  have c:=c.g.kI Ac As P.hA (P.g.up Ai) E y z
  have g:=g.g.put E (fun x hx=>Tk (t x hx))
  have j:=E.hO (Gb j) (k _ As)
  have d:=E.hO (Gb d) (k _ As)
  have b:=b.g.fr E (hL _ Ac)
  have aX:=Tj Ac E.size
  clear t k hL
  obtain⟨c6,ba,c7⟩:=nl aZ
  rw[←ba]at c
  refine gl<|aG [6]<|gp 7<|sc d rfl rfl c.one rfl fun bb c8 c9 d=>have d:bb.heap[l]? =some (.cells #[.string CA,Zs,Zi,Zi,Zs,Zl,Zl,Zl,aq,Zl,Zl,Zl] 31 (0,0)):=d;gl<|gD<|ac 3<|cX (im a0 hs b.g) ?_
  rintro _ ar cA cB ⟨rfl,b⟩
  refine au 3 ?_
  obtain⟨bc,cC,cD⟩:=nl ar
  have R:=RN.nJ (w:=ar) (D:=(DV [o,l] u.heap.size bc)) (op:=CA) (text:=⟨#[]⟩) Ap Ap ((c.g.rw Ah Ae).mono Av) Rs.nil Rw.nil Rw.nil
  refine lw (Gb d) rfl R.hA<|sA (cs:=#[.string CA,Zs,Zi,Zi,Zs,Zl,Zl,Zl,aq,Zl,Zl,Zl]) (Gb j) rfl rfl rfl R.hA R.one fun cE cF cG j=>au 2 ?_
  obtain rfl:K=q::p::Q:=by simpa using Z
  exact hD.hZ rfl (by rw[R.hA];exact F.hN) (hB.hE j) (hH.mk g.g ⟨_,rfl,b.g,R.g.up oX⟩)
 |cons ht h bd h2 be=>
  refine cX (jD ht hs b) ?_
  rintro _ cH cI cJ ⟨rfl,b⟩
  refine au 5<|dR [v] 5 fun bf bg cK r=>have cL:=bg.size;aG [0]<|gM 1 (Gb d) rfl rfl rfl<|aG [2]<|gp 3 ?_
  obtain⟨bh,ab⟩:=nm bf
  have cM:=g.g.le ab
  refine cX (h _ _ _ hs b.g) ?_
  rintro _ bi bj cN ⟨bk,rfl,b,S⟩
  obtain⟨bl,av,cO⟩:=nl bi
  rw[←ab,←av]at S
  have cP:=bj.l2 ab av
  have S:=S.up (D':=(DV [o,l] bh bl)) Ad
  refine gn r.g<|gp 4<|bN (css:=[bk]) F.ic rfl rfl Ag fun cQ cR cS cT bm bn=>gn r.g<|gp 5<|DL.hJ rfl rfl F.ic rfl rfl c.g.own (hB.hE bn) (hW (sz:=12) (m:=1) Ag rfl) (hM Aq) Ae Ae Ac ?_
  intro bo bp G y z
  have t:=c.g.lo';have k:=fun f=>c.g.nx (b:=f);have hL:=fun f=>c.lt (b:=f)
  have c:=c.g.kI Ac As S.hA (S.g.up Ai) G y z
  have g:=g.g.put G (fun x hx=>Tk (t x hx))
  have j:=G.hO (Gb j) (k _ As)
  have d:=G.hO (Gb d) (k _ As)
  have b:=b.g.fr G (hL _ Ac)
  have bm:=Tj Ac G.size
  clear t k hL
  obtain⟨cU,bq,cV⟩:=nl bp
  rw[←bq]at c
  refine gl<|aG [6]<|gp 7<|sc d rfl rfl c.one rfl fun br cW cZ U=>have d:=U;have d:br.heap[l]? =some (.cells #[.string CA,Zs,Zi,Zi,Zs,Zl,Zl,Zl,bo,Zl,Zl,Zl] 31 (0,0)):=d;gl<|gD<|ac 3<|cX (im bd hs b.g) ?_
  rintro _ da db dc ⟨rfl,b⟩
  refine au 1<|dR [v] 5 fun bs bt dd r=>have de:=bt.size;aG [0]<|gM 1 (Gb d) rfl rfl rfl<|aG [2]<|gp 3 ?_
  obtain⟨bu,ad⟩:=nm bs
  have df:=g.g.le ad
  refine cX (h2 _ _ _ hs b.g) ?_
  rintro _ bv bw dg ⟨bx,rfl,b,T⟩
  obtain⟨bz,aw,dh⟩:=nl bv
  rw[←ad,←aw]at T
  have di:=bw.l2 ad aw
  have T:=T.up (D':=(DV [o,l] bu bz)) Ad
  refine gn r.g<|gp 4<|bN (css:=[bx]) F.ic rfl rfl Ag fun dj dk dl dm b0 b1=>gn r.g<|gp 5<|DL.hJ rfl rfl F.ic rfl rfl c.g.own (hB.hE b1) (hW (sz:=12) (m:=1) Ag rfl) (hM Aq) Ae Ae Ac ?_
  intro b2 b3 H y z
  have t:=c.g.lo';have k:=fun f=>c.g.nx (b:=f);have hL:=fun f=>c.lt (b:=f)
  have c:=c.g.kI Ac As T.hA (T.g.up Ai) H y z
  have g:=g.g.put H (fun x hx=>Tk (t x hx))
  have j:=H.hO (Gb j) (k _ As)
  have d:=H.hO (Gb d) (k _ As)
  have b:=b.g.fr H (hL _ Ac)
  have b0:=Tj Ac H.size
  clear t k hL
  obtain⟨dn,b4,dp⟩:=nl b3
  rw[←b4]at c
  exact gl<|aG [6]<|gp 7<|sc d rfl rfl c.one rfl fun b5 dq dr d=>have d:b5.heap[l]? =some (.cells #[.string CA,Zs,Zi,Zi,Zs,Zl,Zl,Zl,b2,Zl,Zl,Zl] 31 (0,0)):=d;gl<|gD ⟨(_,_,_,_,_,_),⟨g.g,be,by rw[←Z];simp only[Ty,TH,TN],b.g,(Gb j),d,c.g,Ac⟩,Vj (TY _),trivial⟩
theorem Ky{s:N}(h:RQ 135 [] lC q L)(ag:iE L Cy)(ah:kO 1 138 [] (lx L).2.2 qA M)(ai:iE M CV)(h2:RQ 15 [] (lx M).2.2 p lA)(hc:iE lA Ed)(aj:RQ 15 [] (lx lA).2.2 s lB)(ak:iE lB C9):kO 0 160 [.string Ct] lC (.mk Ct ⟨#[]⟩ V0 [] [q,p,s] [qA] []) (lx lB).2.2:=by
 intro w R s hs b
 have aT:=b.lt
 have aU:=b.lt
 refine cY Tryz.func160 fun l=>ac 2<|al F.z31 rfl fun r am aV aW aX v=>au 5 ?_
 obtain⟨aY,S⟩:=nm am
 have aZ:=l.g.le S
 refine cX (h _ _ _ hs b.g) ?_
 rintro _ an ba bb ⟨ao,rfl,b,y⟩
 obtain⟨ap,aq,bc⟩:=nl an
 rw[←S,←aq]at y
 have y:=y.up (D':=(DV [r] w.heap.size ap)) Ad
 refine bN (css:=[ao]) F.ic rfl rfl Ag fun T bd be bf bg U=>cX (jA _ _ _ _ _) ?_
 rintro _ W bh bi rfl
 obtain⟨ar,bj,bk⟩:=nl W
 have X:=RN.r0 (w:=W) (D:=(DV [r] w.heap.size ar)) (op:=Ct) (text:=⟨#[]⟩) (cap:=1) Ap Ap (Gb U) Ar (y.g.up Af) Ah
 refine al F.z31 rfl fun o bl bm bn bo c=>sA (cs:=#[.string Ct,Zs,Zi,Zi,Zs,Zl,Zl,Zl,.slice (some ⟨T,0,none⟩) 1 1,Zl,Zl,Zl]) c rfl rfl rfl X.hA X.one ?_
 intro Y bp bq z
 have c:=z
 obtain⟨av,br,bs⟩:=nl Y
 have d:NC Y 0 31 12 (fun j=>j=r∨j=o) w.heap.size av [_] _ _:=NC.hE (Gb U) Ac Ac As y.hA (y.g.up AA)
 refine au 4<|cX (im ag hs b.g) ?_
 rintro _ aw bt bu ⟨rfl,b⟩
 refine au 4 ?_
 obtain⟨Z,J⟩:=nm aw
 have bv:=l.g.le J
 refine cX (ah _ _ _ hs b) ?_
 rintro _ ax ay bw ⟨az,rfl,b,k⟩
 obtain⟨a0,aa,bx⟩:=nl ax
 rw[←J,←aa]at k
 have bz:=ay.l2 J aa
 have k:=k.up (D':=(DV [r,o] Z a0)) Ad
 refine bN (css:=[az]) F.nX rfl rfl (by intro j hc;simp only[Tr,Tp,TD]at hc;rcases hc with rfl;exact k.jc) fun A b0 b1 b2 b3 B=>au 1<|sc (Gb c) rfl rfl rfl rfl fun a1 b4 b5 z=>have c:=z;have c:a1.heap[o]? =some (.cells #[.string Ct,Zs,Zi,Zi,Zs,Zl,Zl,Zl,.slice (some ⟨T,0,none⟩) 1 1,Zl,.slice (some ⟨A,0,none⟩) 1 1,Zl] 31 (0,0)):=c;au 3 ?_
 have d:=d.g.up (X':=(fun j=>j=r∨j=o∨(Z≤j∧j≤A))) (Tv _) BB
 refine au 1<|cX (im ai hs b.g) ?_
 rintro _ b6 b7 b8 ⟨rfl,b⟩
 refine au 2<|dR [R] 5 fun a2 a3 b9 C=>have bA:=a3.size;aG [0]<|gM 1 (Gb c) rfl rfl rfl<|aG [2]<|gp 3 ?_
 obtain⟨a4,K⟩:=nm a2
 have bB:=l.g.le K
 refine cX (h2 _ _ _ hs b.g) ?_
 rintro _ a5 a6 bC ⟨a7,rfl,b,E⟩
 obtain⟨a8,ab,bD⟩:=nl a5
 rw[←K,←ab]at E
 have bE:=a6.l2 K ab
 have E:=E.up (D':=(DV [r,o] a4 a8)) Ad
 refine gn C.g<|gp 4<|bN (css:=[a7]) F.ic rfl rfl Ag fun bF bG bH bI a9 aA=>gn C.g<|gp 5<|DL.hJ rfl rfl F.ic rfl rfl d.g.own (hB.hE aA) (hW (sz:=12) (m:=1) Ag rfl) (hM Aq) Ae Ae Ac ?_
 intro aB aC t O P
 have G:=d.g.lo';have f:=fun g=>d.g.nx (b:=g);have hL:=fun g=>d.lt (b:=g)
 have d:=d.g.kI Ac As E.hA (E.g.up Ai) t O P
 have l:=l.g.put t (fun x hx=>Tk (G x hx))
 have v:=t.hO (Gb v) (f _ As)
 have k:=k.g.fr t (fun j hc=>f _ A5)
 have B:=t.hO (Gb B) (f _ As)
 have c:=t.hO (Gb c) (f _ As)
 have b:=b.g.fr t (hL _ Ac)
 have a9:=Tj Ac t.size
 clear G f hL
 obtain⟨bJ,aD,bK⟩:=nl aC
 rw[←aD]at d
 refine gl<|aG [6]<|gp 7<|sc c rfl rfl d.one rfl fun aE bL bM z=>have c:=z;have c:aE.heap[o]? =some (.cells #[.string Ct,Zs,Zi,Zi,Zs,Zl,Zl,Zl,aB,Zl,.slice (some ⟨A,0,none⟩) 1 1,Zl] 31 (0,0)):=c;gl<|gD<|ac 3<|cX (im hc hs b.g) ?_
 rintro _ bO bP bQ ⟨rfl,b⟩
 refine au 2<|dR [R] 5 fun aF aH bR C=>have bS:=aH.size;aG [0]<|gM 1 (Gb c) rfl rfl rfl<|aG [2]<|gp 3 ?_
 obtain⟨aI,Q⟩:=nm aF
 have bT:=l.g.le Q
 refine cX (aj _ _ _ hs b.g) ?_
 rintro _ aJ aK bU ⟨aL,rfl,b,H⟩
 obtain⟨aM,ad,bV⟩:=nl aJ
 rw[←Q,←ad]at H
 have bW:=aK.l2 Q ad
 have H:=H.up (D':=(DV [r,o] aI aM)) Ad
 refine gn C.g<|gp 4<|bN (css:=[aL]) F.ic rfl rfl Ag fun bX bY bZ ca aN aO=>gn C.g<|gp 5<|DL.hJ rfl rfl F.ic rfl rfl d.g.own (hB.hE aO) (hW (sz:=12) (m:=1) Ag rfl) (hM Aq) Ae Ae Ac ?_
 intro ae aP u O P
 have G:=d.g.lo';have f:=fun g=>d.g.nx (b:=g);have hL:=fun g=>d.lt (b:=g)
 have d:=d.g.kI Ac As H.hA (H.g.up Ai) u O P
 have l:=l.g.put u (fun x hx=>Tk (G x hx))
 have v:=u.hO (Gb v) (f _ As)
 have k:=k.g.fr u (fun j hc=>f _ A5)
 have B:=u.hO (Gb B) (f _ As)
 have c:=u.hO (Gb c) (f _ As)
 have b:=b.g.fr u (hL _ Ac)
 have aN:=Tj Ac u.size
 clear G f hL
 obtain⟨cb,aQ,cc⟩:=nl aP
 rw[←aQ]at d
 refine gl<|aG [6]<|gp 7<|sc c rfl rfl d.one rfl fun aR cd ce c=>have c:aR.heap[o]? =some (.cells #[.string Ct,Zs,Zi,Zi,Zs,Zl,Zl,Zl,ae,Zl,.slice (some ⟨A,0,none⟩) 1 1,Zl] 31 (0,0)):=c;gl<|gD<|ac 15<|cX (im ak hs b.g) ?_
 rintro _ af cf cg ⟨rfl,b⟩
 refine au 3 ?_
 obtain⟨aS,ch,ci⟩:=nl af
 have I:=RN.nJ (w:=af) (D:=(DV [r,o] w.heap.size aS)) (op:=Ct) (text:=⟨#[]⟩) Ap Ap ((d.g.rw Ah Ae).mono Av) Rs.nil (Rw.one (cap:=1) (Gb B) Ar k.jc (k.g.up Af) Ah) Rw.nil
 exact lw (Gb c) rfl I.hA<|sA (cs:=#[.string Ct,Zs,Zi,Zi,Zs,Zl,Zl,Zl,ae,Zl,.slice (some ⟨A,0,none⟩) 1 1,Zl]) (Gb v) rfl rfl rfl I.hA I.one fun cj ck cl v=>au 2<|hD.hZ rfl (by rw[I.hA];exact F.hN) (hB.hE v) (hH.mk l.g ⟨_,rfl,b.g,I.g.up oX⟩)
theorem JB{s:N}(h:RQ 135 [] lC q M)(ag:iE M Cy)(ah:kO 1 138 [] (lx M).2.2 qA lA)(ai:iE lA CV)(h2:RQ 15 [] (lx lA).2.2 p lB)(hc:iE lB Ed)(aj:RQ 15 [] (lx lB).2.2 s L)(ak:iE L C9)(hnd:iE L Ed=false):kO 0 160 [.string Ck] lC (.mk Ck ⟨#[]⟩ V0 [] [q,p,s] [qA] []) (lx L).2.2:=by
 intro w R s hs b
 have aT:=b.lt
 have aU:=b.lt
 refine cY Tryz.func160 fun l=>ac 2<|al F.z31 rfl fun r am aV aW aX v=>au 5 ?_
 obtain⟨aY,S⟩:=nm am
 have aZ:=l.g.le S
 refine cX (h _ _ _ hs b.g) ?_
 rintro _ an ba bb ⟨ao,rfl,b,y⟩
 obtain⟨ap,aq,bc⟩:=nl an
 rw[←S,←aq]at y
 have y:=y.up (D':=(DV [r] w.heap.size ap)) Ad
 refine bN (css:=[ao]) F.ic rfl rfl Ag fun T bd be bf bg U=>cX (jA _ _ _ _ _) ?_
 rintro _ W bh bi rfl
 obtain⟨ar,bj,bk⟩:=nl W
 have X:=RN.r0 (w:=W) (D:=(DV [r] w.heap.size ar)) (op:=Ck) (text:=⟨#[]⟩) (cap:=1) Ap Ap (Gb U) Ar (y.g.up Af) Ah
 refine al F.z31 rfl fun o bl bm bn bo c=>sA (cs:=#[.string Ck,Zs,Zi,Zi,Zs,Zl,Zl,Zl,.slice (some ⟨T,0,none⟩) 1 1,Zl,Zl,Zl]) c rfl rfl rfl X.hA X.one ?_
 intro Y bp bq z
 have c:=z
 obtain⟨av,br,bs⟩:=nl Y
 have d:NC Y 0 31 12 (fun j=>j=r∨j=o) w.heap.size av [_] _ _:=NC.hE (Gb U) Ac Ac As y.hA (y.g.up AA)
 refine au 4<|cX (im ag hs b.g) ?_
 rintro _ aw bt bu ⟨rfl,b⟩
 refine au 4 ?_
 obtain⟨Z,J⟩:=nm aw
 have bv:=l.g.le J
 refine cX (ah _ _ _ hs b) ?_
 rintro _ ax ay bw ⟨az,rfl,b,k⟩
 obtain⟨a0,aa,bx⟩:=nl ax
 rw[←J,←aa]at k
 have bz:=ay.l2 J aa
 have k:=k.up (D':=(DV [r,o] Z a0)) Ad
 refine bN (css:=[az]) F.nX rfl rfl (by intro j hc;simp only[Tr,Tp,TD]at hc;rcases hc with rfl;exact k.jc) fun A b0 b1 b2 b3 B=>au 1<|sc (Gb c) rfl rfl rfl rfl fun a1 b4 b5 z=>have c:=z;have c:a1.heap[o]? =some (.cells #[.string Ck,Zs,Zi,Zi,Zs,Zl,Zl,Zl,.slice (some ⟨T,0,none⟩) 1 1,Zl,.slice (some ⟨A,0,none⟩) 1 1,Zl] 31 (0,0)):=c;au 3 ?_
 have d:=d.g.up (X':=(fun j=>j=r∨j=o∨(Z≤j∧j≤A))) (Tv _) BB
 refine au 1<|cX (im ai hs b.g) ?_
 rintro _ b6 b7 b8 ⟨rfl,b⟩
 refine au 2<|dR [R] 5 fun a2 a3 b9 C=>have bA:=a3.size;aG [0]<|gM 1 (Gb c) rfl rfl rfl<|aG [2]<|gp 3 ?_
 obtain⟨a4,K⟩:=nm a2
 have bB:=l.g.le K
 refine cX (h2 _ _ _ hs b.g) ?_
 rintro _ a5 a6 bC ⟨a7,rfl,b,E⟩
 obtain⟨a8,ab,bD⟩:=nl a5
 rw[←K,←ab]at E
 have bE:=a6.l2 K ab
 have E:=E.up (D':=(DV [r,o] a4 a8)) Ad
 refine gn C.g<|gp 4<|bN (css:=[a7]) F.ic rfl rfl Ag fun bF bG bH bI a9 aA=>gn C.g<|gp 5<|DL.hJ rfl rfl F.ic rfl rfl d.g.own (hB.hE aA) (hW (sz:=12) (m:=1) Ag rfl) (hM Aq) Ae Ae Ac ?_
 intro aB aC t O P
 have G:=d.g.lo';have f:=fun g=>d.g.nx (b:=g);have hL:=fun g=>d.lt (b:=g)
 have d:=d.g.kI Ac As E.hA (E.g.up Ai) t O P
 have l:=l.g.put t (fun x hx=>Tk (G x hx))
 have v:=t.hO (Gb v) (f _ As)
 have k:=k.g.fr t (fun j hc=>f _ A5)
 have B:=t.hO (Gb B) (f _ As)
 have c:=t.hO (Gb c) (f _ As)
 have b:=b.g.fr t (hL _ Ac)
 have a9:=Tj Ac t.size
 clear G f hL
 obtain⟨bJ,aD,bK⟩:=nl aC
 rw[←aD]at d
 refine gl<|aG [6]<|gp 7<|sc c rfl rfl d.one rfl fun aE bL bM z=>have c:=z;have c:aE.heap[o]? =some (.cells #[.string Ck,Zs,Zi,Zi,Zs,Zl,Zl,Zl,aB,Zl,.slice (some ⟨A,0,none⟩) 1 1,Zl] 31 (0,0)):=c;gl<|gD<|ac 3<|cX (im hc hs b.g) ?_
 rintro _ bO bP bQ ⟨rfl,b⟩
 refine au 2<|dR [R] 5 fun aF aH bR C=>have bS:=aH.size;aG [0]<|gM 1 (Gb c) rfl rfl rfl<|aG [2]<|gp 3 ?_
 obtain⟨aI,Q⟩:=nm aF
 have bT:=l.g.le Q
 refine cX (aj _ _ _ hs b.g) ?_
 rintro _ aJ aK bU ⟨aL,rfl,b,H⟩
 obtain⟨aM,ad,bV⟩:=nl aJ
 rw[←Q,←ad]at H
 have bW:=aK.l2 Q ad
 have H:=H.up (D':=(DV [r,o] aI aM)) Ad
 refine gn C.g<|gp 4<|bN (css:=[aL]) F.ic rfl rfl Ag fun bX bY bZ ca aN aO=>gn C.g<|gp 5<|DL.hJ rfl rfl F.ic rfl rfl d.g.own (hB.hE aO) (hW (sz:=12) (m:=1) Ag rfl) (hM Aq) Ae Ae Ac ?_
 intro ae aP u O P
 have G:=d.g.lo';have f:=fun g=>d.g.nx (b:=g);have hL:=fun g=>d.lt (b:=g)
 have d:=d.g.kI Ac As H.hA (H.g.up Ai) u O P
 have l:=l.g.put u (fun x hx=>Tk (G x hx))
 have v:=u.hO (Gb v) (f _ As)
 have k:=k.g.fr u (fun j hc=>f _ A5)
 have B:=u.hO (Gb B) (f _ As)
 have c:=u.hO (Gb c) (f _ As)
 have b:=b.g.fr u (hL _ Ac)
 have aN:=Tj Ac u.size
 clear G f hL
 obtain⟨cb,aQ,cc⟩:=nl aP
 rw[←aQ]at d
 refine gl<|aG [6]<|gp 7<|sc c rfl rfl d.one rfl fun aR cd ce c=>have c:aR.heap[o]? =some (.cells #[.string Ck,Zs,Zi,Zi,Zs,Zl,Zl,Zl,ae,Zl,.slice (some ⟨A,0,none⟩) 1 1,Zl] 31 (0,0)):=c;gl<|gD<|ac 7<|cX (jd hnd b.g) ?_
 rintro _ cf cg ch rfl
 refine au 7<|cX (im ak hs b.g) ?_
 rintro _ af ci cj ⟨rfl,b⟩
 refine au 3 ?_
 obtain⟨aS,ck,cl⟩:=nl af
 have I:=RN.nJ (w:=af) (D:=(DV [r,o] w.heap.size aS)) (op:=Ck) (text:=⟨#[]⟩) Ap Ap ((d.g.rw Ah Ae).mono Av) Rs.nil (Rw.one (cap:=1) (Gb B) Ar k.jc (k.g.up Af) Ah) Rw.nil
 exact lw (Gb c) rfl I.hA<|sA (cs:=#[.string Ck,Zs,Zi,Zi,Zs,Zl,Zl,Zl,ae,Zl,.slice (some ⟨A,0,none⟩) 1 1,Zl]) (Gb v) rfl rfl rfl I.hA I.one fun cm cn co v=>au 2<|hD.hZ rfl (by rw[I.hA];exact F.hN) (hB.hE v) (hH.mk l.g ⟨_,rfl,b.g,I.g.up oX⟩)
theorem Kt{s:N}(h:RQ 135 [] lD q L)(ak:iE L Cy)(am:kO 1 138 [] (lx L).2.2 qB M)(an:iE M CV)(h2:RQ 15 [] (lx M).2.2 p lA)(hc:iE lA Ed)(ao:RQ 15 [] (lx lA).2.2 s lB)(ap:iE lB Ed)(aq:RQ 15 [] (lx lB).2.2 qA lC)(ar:iE lC C9):kO 0 160 [.string Ck] lD (.mk Ck ⟨#[]⟩ V0 [] [q,p,s,qA] [qB] []) (lx lC).2.2:=by
 intro C Q s hs b
 have bm:=b.lt
 have bn:=b.lt
 refine cY Tryz.func160 fun j=>ac 2<|al F.z31 rfl fun r av bo bp bq t=>au 5 ?_
 obtain⟨br,W⟩:=nm av
 have bs:=j.g.le W
 refine cX (h _ _ _ hs b.g) ?_
 rintro _ aw bt bu ⟨ax,rfl,b,E⟩
 obtain⟨ay,az,bv⟩:=nl aw
 rw[←W,←az]at E
 have E:=E.up (D':=(DV [r] C.heap.size ay)) Ad
 refine bN (css:=[ax]) F.ic rfl rfl Ag fun X bw bx bz b0 Y=>cX (jA _ _ _ _ _) ?_
 rintro _ Z b1 b2 rfl
 obtain⟨a0,b3,b4⟩:=nl Z
 have aa:=RN.r0 (w:=Z) (D:=(DV [r] C.heap.size a0)) (op:=Ck) (text:=⟨#[]⟩) (cap:=1) Ap Ap (Gb Y) Ar (E.g.up Af) Ah
 refine al F.z31 rfl fun l b5 b6 b7 b8 c=>sA (cs:=#[.string Ck,Zs,Zi,Zi,Zs,Zl,Zl,Zl,.slice (some ⟨X,0,none⟩) 1 1,Zl,Zl,Zl]) c rfl rfl rfl aa.hA aa.one ?_
 intro ab b9 bA A
 have c:=A
 obtain⟨a1,bB,bC⟩:=nl ab
 have d:NC ab 0 31 12 (fun o=>o=r∨o=l) C.heap.size a1 [_] _ _:=NC.hE (Gb Y) Ac Ac As E.hA (E.g.up AA)
 refine au 4<|cX (im ak hs b.g) ?_
 rintro _ a2 bD bE ⟨rfl,b⟩
 refine au 4 ?_
 obtain⟨ad,R⟩:=nm a2
 have bF:=j.g.le R
 refine cX (am _ _ _ hs b) ?_
 rintro _ a3 a4 bG ⟨a5,rfl,b,k⟩
 obtain⟨a6,ae,bH⟩:=nl a3
 rw[←R,←ae]at k
 have bI:=a4.l2 R ae
 have k:=k.up (D':=(DV [r,l] ad a6)) Ad
 refine bN (css:=[a5]) F.nX rfl rfl (by intro o hc;simp only[Tr,Tp,TD]at hc;rcases hc with rfl;exact k.jc) fun G bJ bK bL bM B=>au 1<|sc (Gb c) rfl rfl rfl rfl fun a7 bO bP A=>have c:=A;have c:a7.heap[l]? =some (.cells #[.string Ck,Zs,Zi,Zi,Zs,Zl,Zl,Zl,.slice (some ⟨X,0,none⟩) 1 1,Zl,.slice (some ⟨G,0,none⟩) 1 1,Zl] 31 (0,0)):=c;au 3 ?_
 have d:=d.g.up (X':=(fun o=>o=r∨o=l∨(ad≤o∧o≤G))) (Tv _) BB
 refine au 1<|cX (im an hs b.g) ?_
 rintro _ bQ bR bS ⟨rfl,b⟩
 refine au 2<|dR [Q] 5 fun a8 a9 bT u=>have bU:=a9.size;aG [0]<|gM 1 (Gb c) rfl rfl rfl<|aG [2]<|gp 3 ?_
 obtain⟨aA,S⟩:=nm a8
 have bV:=j.g.le S
 refine cX (h2 _ _ _ hs b.g) ?_
 rintro _ aB aC bW ⟨aD,rfl,b,H⟩
 obtain⟨aE,af,bX⟩:=nl aB
 rw[←S,←af]at H
 have bY:=aC.l2 S af
 have H:=H.up (D':=(DV [r,l] aA aE)) Ad
 refine gn u.g<|gp 4<|bN (css:=[aD]) F.ic rfl rfl Ag fun bZ ca cb cc aF aH=>gn u.g<|gp 5<|DL.hJ rfl rfl F.ic rfl rfl d.g.own (hB.hE aH) (hW (sz:=12) (m:=1) Ag rfl) (hM Aq) Ae Ae Ac ?_
 intro aI aJ v I J
 have w:=d.g.lo';have f:=fun g=>d.g.nx (b:=g);have hL:=fun g=>d.lt (b:=g)
 have d:=d.g.kI Ac As H.hA (H.g.up Ai) v I J
 have j:=j.g.put v (fun x hx=>Tk (w x hx))
 have t:=v.hO (Gb t) (f _ As)
 have k:=k.g.fr v (fun o hc=>f _ A5)
 have B:=v.hO (Gb B) (f _ As)
 have c:=v.hO (Gb c) (f _ As)
 have b:=b.g.fr v (hL _ Ac)
 have aF:=Tj Ac v.size
 clear w f hL
 obtain⟨cd,aK,ce⟩:=nl aJ
 rw[←aK]at d
 refine gl<|aG [6]<|gp 7<|sc c rfl rfl d.one rfl fun aL cf cg A=>have c:=A;have c:aL.heap[l]? =some (.cells #[.string Ck,Zs,Zi,Zi,Zs,Zl,Zl,Zl,aI,Zl,.slice (some ⟨G,0,none⟩) 1 1,Zl] 31 (0,0)):=c;gl<|gD<|ac 3<|cX (im hc hs b.g) ?_
 rintro _ ch ci cj ⟨rfl,b⟩
 refine au 2<|dR [Q] 5 fun aM aN ck u=>have cl:=aN.size;aG [0]<|gM 1 (Gb c) rfl rfl rfl<|aG [2]<|gp 3 ?_
 obtain⟨aO,T⟩:=nm aM
 have cm:=j.g.le T
 refine cX (ao _ _ _ hs b.g) ?_
 rintro _ aP aQ cn ⟨aR,rfl,b,K⟩
 obtain⟨aS,ag,co⟩:=nl aP
 rw[←T,←ag]at K
 have cp:=aQ.l2 T ag
 have K:=K.up (D':=(DV [r,l] aO aS)) Ad
 refine gn u.g<|gp 4<|bN (css:=[aR]) F.ic rfl rfl Ag fun cq cr ct cu aT aU=>gn u.g<|gp 5<|DL.hJ rfl rfl F.ic rfl rfl d.g.own (hB.hE aU) (hW (sz:=12) (m:=1) Ag rfl) (hM Aq) Ae Ae Ac ?_
 intro aV aW y I J
 have w:=d.g.lo';have f:=fun g=>d.g.nx (b:=g);have hL:=fun g=>d.lt (b:=g)
 have d:=d.g.kI Ac As K.hA (K.g.up Ai) y I J
 have j:=j.g.put y (fun x hx=>Tk (w x hx))
 have t:=y.hO (Gb t) (f _ As)
 have k:=k.g.fr y (fun o hc=>f _ A5)
 have B:=y.hO (Gb B) (f _ As)
 have c:=y.hO (Gb c) (f _ As)
 have b:=b.g.fr y (hL _ Ac)
 have aT:=Tj Ac y.size
 clear w f hL
 obtain⟨cv,aX,cw⟩:=nl aW
 rw[←aX]at d
 refine gl<|aG [6]<|gp 7<|sc c rfl rfl d.one rfl fun aY cx cy A=>have c:=A;have c:aY.heap[l]? =some (.cells #[.string Ck,Zs,Zi,Zi,Zs,Zl,Zl,Zl,aV,Zl,.slice (some ⟨G,0,none⟩) 1 1,Zl] 31 (0,0)):=c;gl<|gD<|ac 7<|cX (jD ap hs b.g) ?_
 rintro _ cz c0 c1 ⟨rfl,b⟩
 refine au 3<|dR [Q] 5 fun aZ ba c2 u=>have c3:=ba.size;aG [0]<|gM 1 (Gb c) rfl rfl rfl<|aG [2]<|gp 3 ?_
 obtain⟨bb,U⟩:=nm aZ
 have c4:=j.g.le U
 refine cX (aq _ _ _ hs b.g) ?_
 rintro _ bc bd c5 ⟨be,rfl,b,O⟩
 obtain⟨bf,ah,c6⟩:=nl bc
 rw[←U,←ah]at O
 have c7:=bd.l2 U ah
 have O:=O.up (D':=(DV [r,l] bb bf)) Ad
 refine gn u.g<|gp 4<|bN (css:=[be]) F.ic rfl rfl Ag fun c8 c9 cA cB bg bh=>gn u.g<|gp 5<|DL.hJ rfl rfl F.ic rfl rfl d.g.own (hB.hE bh) (hW (sz:=12) (m:=1) Ag rfl) (hM Aq) Ae Ae Ac ?_
 intro ai bi z I J
 have w:=d.g.lo';have f:=fun g=>d.g.nx (b:=g);have hL:=fun g=>d.lt (b:=g)
 have d:=d.g.kI Ac As O.hA (O.g.up Ai) z I J
 have j:=j.g.put z (fun x hx=>Tk (w x hx))
 have t:=z.hO (Gb t) (f _ As)
 have k:=k.g.fr z (fun o hc=>f _ A5)
 have B:=z.hO (Gb B) (f _ As)
 have c:=z.hO (Gb c) (f _ As)
 have b:=b.g.fr z (hL _ Ac)
 have bg:=Tj Ac z.size
 clear w f hL
 obtain⟨cC,bj,cD⟩:=nl bi
 rw[←bj]at d
 refine gl<|aG [6]<|gp 7<|sc c rfl rfl d.one rfl fun bk cE cF c=>have c:bk.heap[l]? =some (.cells #[.string Ck,Zs,Zi,Zi,Zs,Zl,Zl,Zl,ai,Zl,.slice (some ⟨G,0,none⟩) 1 1,Zl] 31 (0,0)):=c;gl<|gD<|ac 3<|cX (im ar hs b.g) ?_
 rintro _ aj cG cH ⟨rfl,b⟩
 refine au 3 ?_
 obtain⟨bl,cI,cJ⟩:=nl aj
 have P:=RN.nJ (w:=aj) (D:=(DV [r,l] C.heap.size bl)) (op:=Ck) (text:=⟨#[]⟩) Ap Ap ((d.g.rw Ah Ae).mono Av) Rs.nil (Rw.one (cap:=1) (Gb B) Ar k.jc (k.g.up Af) Ah) Rw.nil
 exact lw (Gb c) rfl P.hA<|sA (cs:=#[.string Ck,Zs,Zi,Zi,Zs,Zl,Zl,Zl,ai,Zl,.slice (some ⟨G,0,none⟩) 1 1,Zl]) (Gb t) rfl rfl rfl P.hA P.one fun cK cL cM t=>au 2<|hD.hZ rfl (by rw[P.hA];exact F.hN) (hB.hE t) (hH.mk j.g ⟨_,rfl,b.g,P.g.up oX⟩)
theorem Jp{x:ByteArray}(e:lx L=(lP,x,M))(hx:x.size≤1099511627776):kO 1 138 [] L (.mk Cx x V0 [] [] [] []) M:=by
 intro f o s hs b
 have p:=b.lt
 have q:=b.lt
 refine cY Tryz.func138 fun k=>ac 2<|al F.z59 rfl fun l r t u v d=>au 8 ?_
 obtain⟨a,w,y,g⟩:=b.g.ob e
 refine lD g rfl rfl<|au 9<|lD g rfl rfl<|au 7<|cX (kV e hs b.g) ?_
 rintro _ j z A ⟨rfl,b⟩
 obtain⟨m,B,C⟩:=nl j
 have c:=RN.Li (w:=j) (D:=(DV [l] f.heap.size m)) (op:=Cx) (text:=x) Ap Ap Rw.nil Rw.nil
 exact bD #[.string Cx,.string x,Zl,Zl]<|sA (cs:=#[.string Cx,.string x,Zl,Zl]) (Gb d) rfl rfl rfl c.jc c.one fun E G H d=>au 2<|hD.hZ rfl (by rw[c.jc];exact F.uU) (hB.hE d) (hH.mk k.g ⟨_,rfl,b.g,c.g.up oX⟩)
theorem JR{L:List UInt8}{ps:List N}(e:lx L=(jU,CN,lB))(h:kO 1 138 [] lB q lA)(R:PC lA ps M)(ae:(q::ps).length≤1048576)(ht:iE M CR):kO 1 138 [] L (.mk CN ⟨#[]⟩ V0 [] [] (q::ps) []) (lx M).2.2:=by
 intro o A s hs b
 have af:=b.lt
 have aC:=b.lt
 refine cY Tryz.func138 fun g=>ac 2<|al F.z59 rfl fun k aD aE aF ag f=>au 8 ?_
 obtain⟨a,aH,aI,S⟩:=b.g.ob e
 refine lD S rfl rfl<|au 9<|lD S rfl rfl<|au 7<|cX (jD AR hs b.g) ?_
 rintro _ ah aJ aK ⟨rfl,b⟩
 rw[e]at b
 refine au 6 ?_
 obtain⟨ai,E⟩:=nm ah
 have aL:=g.g.le E
 refine cX (h _ _ _ hs b) ?_
 rintro _ aj ak aM ⟨T,rfl,b,j⟩
 obtain⟨am,U,aN⟩:=nl aj
 rw[←E,←U]at j
 have aO:=ak.l2 E U
 have j:=j.up (D':=(DV [k] ai am)) Ad
 refine bN (css:=[T]) F.nX rfl rfl (by intro l hc;simp only[Tr,Tp,TD]at hc;rcases hc with rfl;exact j.jc) ?_
 intro G W aP aQ aR H
 obtain⟨an,aS,aT⟩:=nl W
 have I:=RN.Li (w:=W) (D:=(DV [k] o.heap.size an)) (op:=CN) (text:=⟨#[]⟩) Ap Ap Rw.nil (Rw.one (cap:=1) H Ar j.jc (j.g.up Af) Ah)
 refine bD #[.string CN,Zs,Zl,.slice (some ⟨G,0,none⟩) 1 1]<|al F.z59 rfl fun p aU aV aW ao c=>sA (cs:=#[.string CN,Zs,Zl,.slice (some ⟨G,0,none⟩) 1 1]) c rfl rfl rfl I.jc I.one ?_
 intro X aX aY c
 obtain⟨Y,aZ,ap⟩:=nl X
 have d:NC X 1 59 4 (fun l=>l=k∨l=p) o.heap.size Y [_] _ _:=NC.hE (Gb H) Ac Ac As j.jc (j.g.up AA)
 refine au 3<|lE [A] o (σ:=List N×List UInt8×List N×Value×List (Array Value)×Nat) [(29,37)] [(0,Pt A),(2,Pt k),(3,Pt p)] (fun _=>[]) (fun(t,J,v,C,B,K) w=>PC J t M∧v++t=(q::ps)∧At w A s J∧w.heap[k]? =some (.cells #[Zs,Zs,Zl,Zl] 59 (0,0))∧w.heap[p]? =some (.cells #[.string CN,Zs,Zl,C] 59 (0,0))∧NC w 1 59 4 (fun l=>l=k∨l=p) o.heap.size K v C B∧K≤w.heap.size) (fun(t,_)=>t.length) ((ps,lA,[q],.slice (some ⟨G,0,none⟩) 1 1,[T],Y)) ?_ ?_
 ·exact⟨g.g,R,rfl,b.g,(Gb f),c,d,Ac⟩
 clear g f b j H I c d ap R
 rintro ba ⟨t,J,v,C,B,K⟩ bb bc ⟨g,aq,O,b,f,c,d,bd⟩
 have af:=b.lt
 have ag:=hC f
 have ao:=hC c
 have be:v.length+t.length≤1048576:=by rw[←Tl,O];exact ae
 refine ac 4 ?_
 cases aq with
 |nil ar=>
  refine cX (jd ar b) ?_
  rintro _ bf bg bh rfl
  refine au 3<|ac 3<|cX (im ht hs b.g) ?_
  rintro _ Z bi bj ⟨rfl,b⟩
  refine au 3 ?_
  obtain⟨av,bk,bl⟩:=nl Z
  have y:=RN.Li (w:=Z) (D:=(DV [k,p] o.heap.size av)) (op:=CN) (text:=⟨#[]⟩) Ap Ap Rw.nil ((d.g.rw Ah Ae).mono Av)
  refine lw (Gb c) rfl y.jc<|sA (cs:=#[.string CN,Zs,Zl,C]) (Gb f) rfl rfl rfl y.jc y.one fun bm bn bo f=>au 2 ?_
  obtain rfl:v=q::ps:=by simpa using O
  exact hD.hZ rfl (by rw[y.jc];exact F.uU) (hB.hE f) (hH.mk g.g ⟨_,rfl,b.g,y.g.up oX⟩)
 |cons ht h aw=>
  refine cX (jD ht hs b) ?_
  rintro _ bp bq br ⟨rfl,b⟩
  refine au 4<|dR [A] 5 fun ax ay bs aa=>have bt:=ay.size;aG [0]<|gM 1 (Gb c) rfl rfl rfl<|aG [2]<|gp 3 ?_
  obtain⟨az,P⟩:=nm ax
  have bu:=g.g.le P
  refine cX (h _ _ _ hs b.g) ?_
  rintro _ a0 a1 bv ⟨a2,rfl,b,r⟩
  obtain⟨a3,ab,bw⟩:=nl a0
  rw[←P,←ab]at r
  have bx:=a1.l2 P ab
  have r:=r.up (D':=(DV [k,p] az a3)) Ad
  refine gn aa.g<|gp 4<|bN (css:=[a2]) F.nX rfl rfl (by intro l hc;simp only[Tr,Tp,TD]at hc;rcases hc with rfl;exact r.jc) fun bz b0 b1 b2 a4 a5=>gn aa.g<|gp 5<|DL.hJ rfl rfl F.nX rfl rfl d.g.own (hB.hE a5) (hW (sz:=4) (m:=1) (by intro l hc;simp only[Tr,Tp,TD]at hc;rcases hc with rfl;exact r.jc) rfl) (hM Aq) Ae Ae Ac ?_
  intro a6 a7 u a8 a9
  have ad:=d.g.lo';have Q:=fun z=>d.g.nx (b:=z);have hL:=fun z=>d.lt (b:=z)
  have d:=d.g.kI Ac As r.jc (r.g.up Ai) u a8 a9
  have g:=g.g.put u (fun x hx=>Tk (ad x hx))
  have f:=u.hO (Gb f) (Q _ As)
  have c:=u.hO (Gb c) (Q _ As)
  have b:=b.g.fr u (hL _ Ac)
  have a4:=Tj Ac u.size
  clear ad Q hL
  obtain⟨b3,aA,b4⟩:=nl a7
  rw[←aA]at d
  exact gl<|aG [6]<|gp 7<|sc c rfl rfl d.one rfl fun aB b5 b6 c=>have c:aB.heap[p]? =some (.cells #[.string CN,Zs,Zl,a6] 59 (0,0)):=c;gl<|gD ⟨(_,_,_,_,_,_),⟨g.g,aw,by rw[←O];simp only[Ty,TH,TN],b.g,(Gb f),c,d.g,Ac⟩,TY _,trivial⟩
structure NN(w:World)(V:Nat→Prop)(lo H:Nat)(ks:List N)(iC:Value)(cssk:List (Array Value))(ps:List N)(slp:Value)(cssp:List (Array Value)):Prop where
 k:NC w 0 31 12 (fun c=>V c∨slp.ownBlock=some c) lo H ks iC cssk
 p:NC w 1 59 4 (fun c=>V c∨iC.ownBlock=some c) lo H ps slp cssp
section
variable{S:List Nat}{w w':World}{V:Nat→Prop}{lo H:Nat}{ks ps:List N}{iC slp sl':Value}{cssk cssp:List (Array Value)}
theorem NN.fr(h:NN w V lo H ks iC cssk ps slp cssp)(d:Fr S w w')(hs:∀b∈S,b<lo∨H≤b∨V b):NN w' V lo H ks iC cssk ps slp cssp:=
 ⟨h.k.fr d (fun b c=>(hs b c).imp id (fun h=>h.imp id Ts)),h.p.fr d (fun b c=>(hs b c).imp id (fun h=>h.imp id Ts))⟩
theorem NN.g(h:NN w V lo H ks iC cssk ps slp cssp)(b:NN w V lo H ks iC cssk ps slp cssp→NN w' V lo H ks iC cssk ps slp cssp:=by exact Gq):NN w' V lo H ks iC cssk ps slp cssp:=b h
theorem NN.k9(h:NN w V lo H ks iC cssk ps slp cssp)(b:Fr [] w w'):NN w' V lo H ks iC cssk ps slp cssp:=h.fr b (fun d c=>by cases c)
theorem NN.n6{b:Nat}(h:NN w V lo H ks iC cssk ps slp cssp)(c:Fr [b] w w')(d:b<lo∨H≤b∨V b):NN w' V lo H ks iC cssk ps slp cssp:=h.fr c (fun g f=>by rcases Tt.1 f with rfl;exact d)
theorem NN.nil(w:World)(V:Nat→Prop)(lo H:Nat):NN w V lo H [] Zl [] [] Zl []:=⟨NC.nil _ _ _ _ _ _ _,NC.nil _ _ _ _ _ _ _⟩
theorem NN.D7{n:N}{b:Array Value}(h:NN w V lo H ks iC cssk ps slp cssp)(k:H≤w.heap.size)(l:¬V w.heap.size)(hs:b.size=12)(m:RN w (fun b=>lo≤b∧H≤b∧b<w.heap.size∧¬V b) 0 n b)(f:Fr (hX iC) w w')(o:w'.ownsRow lo 31 12 sl' (ks.length+1) (hS cssk++(hS [b]).toArray.toList))(g:sl'.ownBlock=iC.ownBlock∨sl'.ownBlock=some w.heap.size):NN w' V lo w'.heap.size (ks++[n]) sl' (cssk++[b]) ps slp cssp:=by
 have j:∀d,slp.ownBlock=some d→d<H:=fun d c=>(h.p.ob d c).1
 have p:=f.size
 refine⟨h.k.kI k (fun hx=>hx.elim l (fun e=>by have:=j _ e;omega)) hs (m.mono (fun d c=>⟨c.1,c.2.1,c.2.2.1,fun hx=>hx.elim c.2.2.2 (fun e=>by have:=j _ e;have:=c.2.1;omega)⟩)) f o g,?_⟩
 refine(h.p.fr f (fun d c=>Tk (Tk (Tk (hF.1 c))))).up Ac (fun d h1 h2 hx=>?_)
 rcases hx with hx|hx
 ·exact Ts hx
 rcases g with e|e
 ·exact Tk (e▸hx)
 rw[e]at hx;cases hx;omega
theorem NN.JK{n:N}{b:Array Value}(h:NN w V lo H ks iC cssk ps slp cssp)(k:H≤w.heap.size)(l:¬V w.heap.size)(hs:b.size=4)(m:RN w (fun b=>lo≤b∧H≤b∧b<w.heap.size∧¬V b) 1 n b)(f:Fr (hX slp) w w')(o:w'.ownsRow lo 59 4 sl' (ps.length+1) (hS cssp++(hS [b]).toArray.toList))(g:sl'.ownBlock=slp.ownBlock∨sl'.ownBlock=some w.heap.size):NN w' V lo w'.heap.size ks iC cssk (ps++[n]) sl' (cssp++[b]):=by
 have j:∀d,iC.ownBlock=some d→d<H:=fun d c=>(h.k.ob d c).1
 have p:=f.size
 refine⟨?_,h.p.kI k (fun hx=>hx.elim l (fun e=>by have:=j _ e;omega)) hs (m.mono (fun d c=>⟨c.1,c.2.1,c.2.2.1,fun hx=>hx.elim c.2.2.2 (fun e=>by have:=j _ e;have:=c.2.1;omega)⟩)) f o g⟩
 refine(h.k.fr f (fun d c=>Tk (Tk (Tk (hF.1 c))))).up Ac (fun d h1 h2 hx=>?_)
 rcases hx with hx|hx
 ·exact Ts hx
 rcases g with e|e
 ·exact Tk (e▸hx)
 rw[e]at hx;cases hx;omega
theorem NN.NY(h:NN w V lo H ks iC cssk ps slp cssp)(hl:ks.length≤1099511627776):Rw w (DX V lo H) 0 12 ks iC:=(h.k.rw Ah hl).mono (fun c hc=>⟨hc.1,hc.2.1,fun b=>hc.2.2 (Ts b)⟩)
theorem NN.RZ(h:NN w V lo H ks iC cssk ps slp cssp)(hl:ps.length≤1099511627776):Rw w (DX V lo H) 1 4 ps slp:=(h.p.rw Ah hl).mono (fun c hc=>⟨hc.1,hc.2.1,fun b=>hc.2.2 (Ts b)⟩)
end
theorem yJ{w:World}{b:Nat}{s x:ByteArray}{c:List UInt8}{d:Bool}(h:iE c x=d)(hs:s.size≤1099511627776)(g:At w b s c):Calls Tryz.prog 49 #[Pt b,.string x] w (hH w [b] fun j w'=>j=.bool d∧At w' b s (if d then(lx c).2.2 else c)):=by
 cases d with
 |true=>exact jD h hs g
 |false=>
  refine(jd h g).mono (fun j w' f=>?_)
  cases j with
  |returned k=>exact hH.mk ((Fr.refl [b] w).jP f.1) ⟨f.2,g.fr f.1 Al⟩
  |_=>exact f.elim
inductive PE:List UInt8→N→N→List UInt8→Prop
 |v {L r:List UInt8} {x:ByteArray} (e:lx L=(lP,x,r)) (hx:x.size≤1099511627776) (hn:iE r ⟨#[58]⟩=false):PE L (mu x) (.mk ⟨#[110,111,110,101]⟩ ⟨#[]⟩ V0 [] [] [] []) r
 |vp {L r L':List UInt8} {x:ByteArray} {p:N} (e:lx L=(lP,x,r)) (hx:x.size≤1099511627776) (ht:iE r ⟨#[58]⟩=true) (hp:kO 1 138 [] (lx r).2.2 p L'):PE L (mu x) p L'
 |kp {L L1 L':List UInt8} {k p:N} (hv:(lx L).1≠lP) (hk:RQ 147 [] L k L1) (ht:iE L1 ⟨#[58]⟩=true) (hp:kO 1 138 [] (lx L1).2.2 p L'):PE L k p L'
inductive PM:Bool→List UInt8→List N→List N→List UInt8→Prop
 |done {L:List UInt8}:PM false L [] [] L
 |Dc {L L1 L':List UInt8} {k p:N} {ks ps:List N} {b:Bool} (h:PE L k p L1) (hb:iE L1 ⟨#[44]⟩=b) (r:PM b (if b then(lx L1).2.2 else L1) ks ps L'):PM true L (k::ks) (p::ps) L'
theorem Ks{L U ah:List UInt8}{I J:List N}(e:lx L=(jU,CJ,U))(a3:PM true U I J ah)(aH:I.length≤1048576)(aI:J.length≤1048576)(ht:iE ah C3):kO 1 138 [] L (.mk CJ ⟨#[]⟩ V0 [] I J []) (lx ah).2.2:=by
 intro w B s hs c
 have aJ:=c.lt
 have bI:=c.lt
 refine cY Tryz.func138 fun l=>ac 2<|al F.z59 rfl fun o bJ bK bL aK m=>au 8 ?_
 obtain⟨a,aj,ak,u⟩:=c.g.ob e
 refine lD u rfl rfl<|au 9<|lD u rfl rfl<|au 7<|cX (jd AR c.g) ?_
 rintro _ bM bO bP rfl
 refine au 7<|cX (im AR hs c.g) ?_
 rintro _ a4 bQ bR ⟨rfl,c⟩
 rw[e]at c
 refine au 3 ?_
 obtain⟨aL,bS,bT⟩:=nl a4
 have am:=RN.Li (w:=a4) (D:=(DV [o] w.heap.size aL)) (op:=CJ) (text:=⟨#[]⟩) Ap Ap Rw.nil Rw.nil
 refine bD #[.string CJ,Zs,Zl,Zl]<|al F.z59 rfl fun j bU bV bW aM d=>sA (cs:=#[.string CJ,Zs,Zl,Zl]) d rfl rfl rfl am.jc am.one ?_
 intro a5 bX bY d
 obtain⟨a6,bZ,aN⟩:=nl a5
 have b:=NN.nil a5 (fun g=>g=o∨g=j) w.heap.size a6
 refine au 7<|lE [B] w (σ:=Bool×List N×List N×List UInt8×List N×Value×List (Array Value)×List N×Value×List (Array Value)×Nat) [(5,5),(44,92)] [(0,Pt B),(2,Pt o),(4,Pt j)] (fun(y,_)=>[(5,.bool y)]) (fun(y,K,C,an,ks,iC,a7,ps,slp,a8,H) W=>PM y an K C ah∧ks++K=I∧ps++C=J∧At W B s an∧W.heap[o]? =some (.cells #[Zs,Zs,Zl,Zl] 59 (0,0))∧W.heap[j]? =some (.cells #[.string CJ,Zs,iC,slp] 59 (0,0))∧NN W (fun g=>g=o∨g=j) w.heap.size H ks iC a7 ps slp a8∧H≤W.heap.size) (fun(y,K,_)=>K.length) ((true,I,J,U,[],Zl,[],[],Zl,[],a6)) ?_ ?_
 ·exact⟨l.g,a3,rfl,rfl,c.g,(Gb m),d,b,Ac⟩
 clear l m c am d b aN a3
 rintro ca ⟨y,K,C,an,ks,iC,a7,ps,slp,a8,H⟩ cb cc ⟨l,aO,X,Z,c,m,d,b,cd⟩
 have aJ:=c.lt
 have aK:=hC m
 have aM:=hC d
 have ce:ks.length+K.length≤1048576:=by rw[←Tl,X];exact aH
 have cf:ps.length+C.length≤1048576:=by rw[←Tl,Z];exact aI
 refine ac 1 ?_
 cases aO with
 |done=>
  refine ac 13<|ac 3<|cX (im ht hs c) ?_
  rintro _ a9 cg ch ⟨rfl,c⟩
  refine au 3 ?_
  obtain⟨aP,ci,cj⟩:=nl a9
  have aa:=RN.Li (w:=a9) (D:=(DV [o,j] w.heap.size aP)) (op:=CJ) (text:=⟨#[]⟩) Ap Ap ((b.g.NY Ae).mono Av) ((b.g.RZ Ae).mono Av)
  refine lw (Gb d) rfl aa.jc<|sA (cs:=#[.string CJ,Zs,iC,slp]) (Gb m) rfl rfl rfl aa.jc aa.one fun ck cl cm m=>au 2 ?_
  obtain rfl:ks=I:=by simpa using X
  obtain rfl:ps=J:=by simpa using Z
  exact hD.hZ rfl (by rw[aa.jc];exact F.uU) (hB.hE m) (hH.mk l.g ⟨_,rfl,c.g,aa.g.up oX⟩)
 | @Dc _ cn _ co cp cq cr f h q C=>
  cases h with
  | @v U x e hx aQ=>
   refine ac 7 ?_
   obtain⟨a,aj,ak,u⟩:=c.ob e
   refine lD u rfl rfl<|au 14<|lD u rfl rfl<|au 4<|dR [B] 6 fun ct aR cu t=>have cv:=aR.size;aG [0]<|gM 1 (Gb d) rfl rfl rfl<|aG [2]<|gp 3<|cX (kV e hs c.g) ?_
   rintro _ aA cw cx ⟨rfl,c⟩
   refine gn t.g ?_
   obtain⟨ab,aS,aT⟩:=nl aA
   have ad:=RN.jw (w:=aA) (D:=(DV [o,j] ab ab)) (op:=Cx) (text:=x) Ah Ap
   refine gf 4 rfl (fun aU=>Y.build (cs:=#[.string Cx,.string x,Zi,Zi,Zs,Zl,Zl,Zl,Zl,Zl,Zl,Zl]) Au)<|gp 5<|bN (css:=[#[.string Cx,.string x,Zi,Zi,Zs,Zl,Zl,Zl,Zl,Zl,Zl,Zl]]) F.ic rfl rfl Ag fun aV cy cz aW ao ap=>gn t.g<|gp 6<|DL.hJ rfl rfl F.ic rfl rfl b.g.k.own (hB.hE ap) (hW (sz:=12) (m:=1) Ag rfl) (hM Aq) Ae Ae Ac ?_
   intro ae aX M z A
   have p:=b.g.k.lo';have k:=fun f (q:((fun g=>g=o∨g=j)) f)=>b.g.k.nx (Ts q);have hL:=fun f=>b.g.k.lt (b:=f)
   have b:=b.g.D7 Ac As ad.hA (ad.g.up Ai) M z A
   have l:=l.g.put M (fun x hx=>Tk (p x hx))
   have m:=M.hO (Gb m) (k _ As)
   have d:=M.hO (Gb d) (k _ As)
   have c:=c.g.fr M (hL _ Ac)
   have ao:=Tj Ac M.size
   clear p k hL
   obtain⟨aY,aq,aZ⟩:=nl aX
   rw[←aq]at b
   refine gl<|aG [7]<|gp 8<|sc d rfl rfl b.k.one rfl fun ba c0 c1 E=>have d:=E;have d:ba.heap[j]? =some (.cells #[.string CJ,Zs,ae,slp] 59 (0,0)):=d;gl<|gD<|ac 3<|cX (jd aQ c.g) ?_
   rintro _ aB c2 c3 rfl
   refine au 6<|lD (Gb d) rfl rfl ?_
   obtain⟨aC,c4,c5⟩:=nl aB
   have ai:=RN.Li (w:=aB) (D:=(DV [o,j] aC aC)) (op:=Cn) (text:=⟨#[]⟩) Ap Ap Rw.nil Rw.nil
   refine bD #[.string Cn,Zs,Zl,Zl]<|bN (css:=[#[.string Cn,Zs,Zl,Zl]]) F.nX rfl rfl (by intro g hc;simp only[Tr,Tp,TD]at hc;rcases hc with rfl;exact ai.jc) fun c6 c7 c8 c9 bb bc=>DL.hJ rfl rfl F.nX rfl rfl b.g.p.own (hB.hE bc) (hW (sz:=4) (m:=1) (by intro g hc;simp only[Tr,Tp,TD]at hc;rcases hc with rfl;exact ai.jc) rfl) (hM Aq) Ae Ae Ac ?_
   intro bd be O z A
   have p:=b.g.p.lo';have k:=fun f (q:((fun g=>g=o∨g=j)) f)=>b.g.p.nx (Ts q);have hL:=fun f=>b.g.p.lt (b:=f)
   have b:=b.g.JK Ac As ai.jc (ai.g.up Ai) O z A
   have l:=l.g.put O (fun x hx=>Tk (p x hx))
   have m:=O.hO (Gb m) (k _ As)
   have c:=c.g.fr O (hL _ Ac)
   have d:=O.hO (Gb d) (k _ As)
   have bb:=Tj Ac O.size
   clear p k hL
   obtain⟨cA,bf,cB⟩:=nl be
   rw[←bf]at b
   refine au 1<|sc d rfl rfl b.p.one rfl fun bg cC cD E=>have d:=E;have d:bg.heap[j]? =some (.cells #[.string CJ,Zs,ae,bd] 59 (0,0)):=d;au 2<|ac 2<|cX (yJ q hs c.g) ?_
   rintro _ cE cF cG ⟨rfl,c⟩
   exact au 2 ⟨(_,_,_,_,_,_,_,_,_,_,_),⟨l.g,C,by rw[←X];simp only[Ty,TH,TN],by rw[←Z];simp only[Ty,TH,TN],c,(Gb m),(Gb d),b.g,Ac⟩,TY _,rfl⟩
  | @vp U _ x _ e hx ht ar=>
   refine ac 7 ?_
   obtain⟨a,aj,ak,u⟩:=c.ob e
   refine lD u rfl rfl<|au 14<|lD u rfl rfl<|au 4<|dR [B] 6 fun cH bh cI t=>have cJ:=bh.size;aG [0]<|gM 1 (Gb d) rfl rfl rfl<|aG [2]<|gp 3<|cX (kV e hs c.g) ?_
   rintro _ aD cK cL ⟨rfl,c⟩
   refine gn t.g ?_
   obtain⟨ab,aS,aT⟩:=nl aD
   have ad:=RN.jw (w:=aD) (D:=(DV [o,j] ab ab)) (op:=Cx) (text:=x) Ah Ap
   refine gf 4 rfl (fun aU=>Y.build (cs:=#[.string Cx,.string x,Zi,Zi,Zs,Zl,Zl,Zl,Zl,Zl,Zl,Zl]) Au)<|gp 5<|bN (css:=[#[.string Cx,.string x,Zi,Zi,Zs,Zl,Zl,Zl,Zl,Zl,Zl,Zl]]) F.ic rfl rfl Ag fun aV cM cN aW ao ap=>gn t.g<|gp 6<|DL.hJ rfl rfl F.ic rfl rfl b.g.k.own (hB.hE ap) (hW (sz:=12) (m:=1) Ag rfl) (hM Aq) Ae Ae Ac ?_
   intro ae bi P z A
   have p:=b.g.k.lo';have k:=fun f (q:((fun g=>g=o∨g=j)) f)=>b.g.k.nx (Ts q);have hL:=fun f=>b.g.k.lt (b:=f)
   have b:=b.g.D7 Ac As ad.hA (ad.g.up Ai) P z A
   have l:=l.g.put P (fun x hx=>Tk (p x hx))
   have m:=P.hO (Gb m) (k _ As)
   have d:=P.hO (Gb d) (k _ As)
   have c:=c.g.fr P (hL _ Ac)
   have ao:=Tj Ac P.size
   clear p k hL
   obtain⟨aY,aq,aZ⟩:=nl bi
   rw[←aq]at b
   refine gl<|aG [7]<|gp 8<|sc d rfl rfl b.k.one rfl fun bj cO cP E=>have d:=E;have d:bj.heap[j]? =some (.cells #[.string CJ,Zs,ae,slp] 59 (0,0)):=d;gl<|gD<|ac 3<|cX (jD ht hs c.g) ?_
   rintro _ cQ cR cS ⟨rfl,c⟩
   refine au 4<|dR [B] 5 fun bk bl cT t=>have cU:=bl.size;aG [0]<|gM 1 (Gb d) rfl rfl rfl<|aG [2]<|gp 3 ?_
   obtain⟨av,G⟩:=nm bk
   have bm:=l.g.le G
   refine cX (ar _ _ _ hs c.g) ?_
   rintro _ bn bo cV ⟨aw,rfl,c,r⟩
   obtain⟨ax,af,bp⟩:=nl bn
   rw[←G,←af]at r
   have bq:=bo.l2 G af
   have r:=r.up (D':=(DV [o,j] av ax)) Ad
   refine gn t.g<|gp 4<|bN (css:=[aw]) F.nX rfl rfl (by intro g hc;simp only[Tr,Tp,TD]at hc;rcases hc with rfl;exact r.jc) fun br cW cZ bs ay az=>gn t.g<|gp 5<|DL.hJ rfl rfl F.nX rfl rfl b.g.p.own (hB.hE az) (hW (sz:=4) (m:=1) (by intro g hc;simp only[Tr,Tp,TD]at hc;rcases hc with rfl;exact r.jc) rfl) (hM Aq) Ae Ae Ac ?_
   intro a0 bt Q z A
   have p:=b.g.p.lo';have k:=fun f (q:((fun g=>g=o∨g=j)) f)=>b.g.p.nx (Ts q);have hL:=fun f=>b.g.p.lt (b:=f)
   have b:=b.g.JK Ac As r.jc (r.g.up Ai) Q z A
   have l:=l.g.put Q (fun x hx=>Tk (p x hx))
   have m:=Q.hO (Gb m) (k _ As)
   have d:=Q.hO (Gb d) (k _ As)
   have c:=c.g.fr Q (hL _ Ac)
   have ay:=Tj Ac Q.size
   clear p k hL
   obtain⟨bu,a1,bv⟩:=nl bt
   rw[←a1]at b
   refine gl<|aG [6]<|gp 7<|sc d rfl rfl b.p.one rfl fun bw da db d=>have d:bw.heap[j]? =some (.cells #[.string CJ,Zs,ae,a0] 59 (0,0)):=d;gl<|gD<|ac 2<|cX (yJ q hs c.g) ?_
   rintro _ dc dd de ⟨rfl,c⟩
   exact au 2 ⟨(_,_,_,_,_,_,_,_,_,_,_),⟨l.g,C,by rw[←X];simp only[Ty,TH,TN],by rw[←Z];simp only[Ty,TH,TN],c,(Gb m),(Gb d),b.g,Ac⟩,TY _,rfl⟩
  | @kp df _ _ _ bx hk ht ar=>
   refine ac 7 ?_
   obtain⟨a,aj,ak,u⟩:=id c
   refine lD u rfl rfl<|au 14<|lD u rfl rfl<|sX bx rfl rfl<|au 3<|dR [B] 5 fun bz b0 dg t=>have dh:=b0.size;aG [0]<|gM 1 (Gb d) rfl rfl rfl<|aG [2]<|gp 3 ?_
   obtain⟨b1,a2⟩:=nm bz
   have di:=l.g.le a2
   refine cX (hk _ _ _ hs c.g) ?_
   rintro _ b2 b3 dj ⟨b4,rfl,c,ag⟩
   obtain⟨b5,aE,dk⟩:=nl b2
   rw[←a2,←aE]at ag
   have dl:=b3.l2 a2 aE
   have ag:=ag.up (D':=(DV [o,j] b1 b5)) Ad
   refine gn t.g<|gp 4<|bN (css:=[b4]) F.ic rfl rfl Ag fun dm dn dp dq b6 b7=>gn t.g<|gp 5<|DL.hJ rfl rfl F.ic rfl rfl b.g.k.own (hB.hE b7) (hW (sz:=12) (m:=1) Ag rfl) (hM Aq) Ae Ae Ac ?_
   intro aF b8 R z A
   have p:=b.g.k.lo';have k:=fun f (q:((fun g=>g=o∨g=j)) f)=>b.g.k.nx (Ts q);have hL:=fun f=>b.g.k.lt (b:=f)
   have b:=b.g.D7 Ac As ag.hA (ag.g.up Ai) R z A
   have l:=l.g.put R (fun x hx=>Tk (p x hx))
   have m:=R.hO (Gb m) (k _ As)
   have d:=R.hO (Gb d) (k _ As)
   have c:=c.g.fr R (hL _ Ac)
   have b6:=Tj Ac R.size
   clear p k hL
   obtain⟨dr,b9,ds⟩:=nl b8
   rw[←b9]at b
   refine gl<|aG [6]<|gp 7<|sc d rfl rfl b.k.one rfl fun bA dt du E=>have d:=E;have d:bA.heap[j]? =some (.cells #[.string CJ,Zs,aF,slp] 59 (0,0)):=d;gl<|gD<|ac 2<|cX (im ht hs c.g) ?_
   rintro _ dv dw dx ⟨rfl,c⟩
   refine au 1<|dR [B] 5 fun bB bC dy t=>have dz:=bC.size;aG [0]<|gM 1 (Gb d) rfl rfl rfl<|aG [2]<|gp 3 ?_
   obtain⟨av,G⟩:=nm bB
   have bm:=l.g.le G
   refine cX (ar _ _ _ hs c.g) ?_
   rintro _ bE bF d0 ⟨aw,rfl,c,r⟩
   obtain⟨ax,af,bp⟩:=nl bE
   rw[←G,←af]at r
   have bq:=bF.l2 G af
   have r:=r.up (D':=(DV [o,j] av ax)) Ad
   refine gn t.g<|gp 4<|bN (css:=[aw]) F.nX rfl rfl (by intro g hc;simp only[Tr,Tp,TD]at hc;rcases hc with rfl;exact r.jc) fun br d1 d2 bs ay az=>gn t.g<|gp 5<|DL.hJ rfl rfl F.nX rfl rfl b.g.p.own (hB.hE az) (hW (sz:=4) (m:=1) (by intro g hc;simp only[Tr,Tp,TD]at hc;rcases hc with rfl;exact r.jc) rfl) (hM Aq) Ae Ae Ac ?_
   intro a0 bG T z A
   have p:=b.g.p.lo';have k:=fun f (q:((fun g=>g=o∨g=j)) f)=>b.g.p.nx (Ts q);have hL:=fun f=>b.g.p.lt (b:=f)
   have b:=b.g.JK Ac As r.jc (r.g.up Ai) T z A
   have l:=l.g.put T (fun x hx=>Tk (p x hx))
   have m:=T.hO (Gb m) (k _ As)
   have d:=T.hO (Gb d) (k _ As)
   have c:=c.g.fr T (hL _ Ac)
   have ay:=Tj Ac T.size
   clear p k hL
   obtain⟨bu,a1,bv⟩:=nl bG
   rw[←a1]at b
   refine gl<|aG [6]<|gp 7<|sc d rfl rfl b.p.one rfl fun bH d4 d5 d=>have d:bH.heap[j]? =some (.cells #[.string CJ,Zs,aF,a0] 59 (0,0)):=d;gl<|gD<|ac 2<|cX (yJ q hs c.g) ?_
   rintro _ d6 d7 d8 ⟨rfl,c⟩
   exact au 2 ⟨(_,_,_,_,_,_,_,_,_,_,_),⟨l.g,C,by rw[←X];simp only[Ty,TH,TN],by rw[←Z];simp only[Ty,TH,TN],c,(Gb m),(Gb d),b.g,Ac⟩,TY _,rfl⟩
inductive OE:List UInt8→N→N→List UInt8→Prop
 |v {L r:List UInt8} {x:ByteArray} (e:lx L=(lP,x,r)) (hx:x.size≤1099511627776):OE L (mu x) je r
 |kv {L L1 L':List UInt8} {k v:N} (hv:(lx L).1≠lP) (hk:RQ 147 [] L k L1) (ht:iE L1 ⟨#[58]⟩=true) (hm:RQ 161 [] (lx L1).2.2 v L'):OE L k v L'
 |k {L L1:List UInt8} {k:N} (hv:(lx L).1≠lP) (hk:RQ 147 [] L k L1) (hn:iE L1 ⟨#[58]⟩=false):OE L k je L1
inductive OM:Bool→List UInt8→List N→List UInt8→Prop
 |done {L:List UInt8}:OM false L [] L
 |Dc {L L1 L':List UInt8} {k v:N} {ks:List N} {b:Bool} (h:OE L k v L1) (hb:iE L1 ⟨#[44]⟩=b) (r:OM b (if b then(lx L1).2.2 else L1) ks L'):OM true L (k::v::ks) L'
theorem MM{L:List UInt8}(ht:iE L C3):RQ 150 [] L (.mk Cm ⟨#[]⟩ V0 [] [] [] []) (lx L).2.2:=by
 intro g o s hs c
 have p:=c.lt
 have q:=c.lt
 refine cY Tryz.func150 fun k=>ac 2<|al F.z31 rfl fun l r t u v d=>au 3<|cX (jA _ _ _ _ _) ?_
 rintro _ j w y rfl
 obtain⟨m,z,A⟩:=nl j
 have b:=RN.jw (w:=j) (D:=(DV [l] g.heap.size m)) (op:=Cm) (text:=⟨#[]⟩) Ah Ap
 refine al F.z31 rfl fun B C E G H f=>sA (cs:=#[.string Cm,Zs,Zi,Zi,Zs,Zl,Zl,Zl,Zl,Zl,Zl,Zl]) f rfl rfl rfl b.hA b.one fun I J K f=>au 5<|cX (jD ht hs c.g) ?_
 rintro _ M O P ⟨rfl,c⟩
 exact au 4<|lw (Gb f) rfl b.hA<|sA (cs:=#[.string Cm,Zs,Zi,Zi,Zs,Zl,Zl,Zl,Zl,Zl,Zl,Zl]) (Gb d) rfl rfl rfl b.hA b.one fun Q R S d=>au 2<|hD.hZ rfl (by rw[b.hA];exact F.hN) (hB.hE d) (hH.mk k.g ⟨_,rfl,c.g,b.g.up oX⟩)
theorem Mw(a5:iE L C3=false)(am:OM true L Q M)(a6:Q.length≤1048576)(ht:iE M C3):RQ 150 [] L (.mk Cm ⟨#[]⟩ V0 [] Q [] []) (lx M).2.2:=by
 intro t z s hs b
 have a7:=b.lt
 have bw:=b.lt
 refine cY Tryz.func150 fun j=>ac 2<|al F.z31 rfl fun o bx bz b0 a8 k=>au 3<|cX (jA _ _ _ _ _) ?_
 rintro _ an b1 b2 rfl
 obtain⟨a9,b3,b4⟩:=nl an
 have ab:=RN.jw (w:=an) (D:=(DV [o] t.heap.size a9)) (op:=Cm) (text:=⟨#[]⟩) Ah Ap
 refine al F.z31 rfl fun l b5 b6 b7 aA c=>sA (cs:=#[.string Cm,Zs,Zi,Zi,Zs,Zl,Zl,Zl,Zl,Zl,Zl,Zl]) c rfl rfl rfl ab.hA ab.one ?_
 intro ao b8 b9 c
 obtain⟨ap,bA,bB⟩:=nl ao
 have d:=NC.nil ao 0 31 12 (fun p=>p=o∨p=l) t.heap.size ap
 refine au 5<|cX (jd a5 b.g) ?_
 rintro _ bC bE bF rfl
 refine au 9<|lE [z] t (σ:=Bool×List N×List UInt8×List N×Value×List (Array Value)×Nat) [(4,5),(10,53)] [(0,Pt z),(2,Pt o),(3,Pt l)] (fun(u,_)=>[(4,.bool u)]) (fun(u,B,ad,H,aa,I,J) K=>OM u ad B M∧H++B=Q∧At K z s ad∧K.heap[o]? =some (.cells #[Zs,Zs,Zi,Zi,Zs,Zl,Zl,Zl,Zl,Zl,Zl,Zl] 31 (0,0))∧K.heap[l]? =some (.cells #[.string Cm,Zs,Zi,Zi,Zs,Zl,Zl,Zl,aa,Zl,Zl,Zl] 31 (0,0))∧NC K 0 31 12 (fun p=>p=o∨p=l) t.heap.size J H aa I∧J≤K.heap.size) (fun(u,B,_)=>B.length) ((true,Q,L,[],Zl,[],ap)) ?_ ?_
 ·exact⟨j.g,am,rfl,b.g,(Gb k),(Gb c),d.g,Ac⟩
 clear j b k ab c d am
 rintro bG ⟨u,B,ad,H,aa,I,J⟩ bH aq ⟨j,aB,O,b,k,c,d,bI⟩
 have a7:=b.lt
 have a8:=hC k
 have aA:=hC c
 have bJ:H.length+B.length≤1048576:=by rw[←Tl,O];exact a6
 refine ac 1 ?_
 cases aB with
 |done=>
  refine ac 13<|ac 3<|cX (im ht hs b) ?_
  rintro _ ar bK bL ⟨rfl,b⟩
  refine au 3 ?_
  obtain⟨aC,bM,bO⟩:=nl ar
  have P:=RN.nJ (w:=ar) (D:=(DV [o,l] t.heap.size aC)) (op:=Cm) (text:=⟨#[]⟩) Ap Ap ((d.g.rw Ah Ae).mono Av) Rs.nil Rw.nil Rw.nil
  refine lw (Gb c) rfl P.hA<|sA (cs:=#[.string Cm,Zs,Zi,Zi,Zs,Zl,Zl,Zl,aa,Zl,Zl,Zl]) (Gb k) rfl rfl rfl P.hA P.one fun bP bQ bR k=>au 2 ?_
  obtain rfl:H=Q:=by simpa using O
  exact hD.hZ rfl (by rw[P.hA];exact F.hN) (hB.hE k) (hH.mk j.g ⟨_,rfl,b.g,P.g.up oX⟩)
 | @Dc _ bS _ aD aE bT g h ae af=>
  cases h with
  | @v bU x e hx=>
   refine ac 7 ?_
   obtain⟨a,av,aw,v⟩:=b.ob e
   refine lD v rfl rfl<|au 14<|lD v rfl rfl<|au 4<|dR [z] 7 fun ax aF bV R=>have bW:=aF.size;aG [0]<|gM 1 (Gb c) rfl rfl rfl<|aG [2] ?_
   obtain⟨ay,bX,bY⟩:=nl ax
   have S:=RN.jw (w:=ax) (D:=(DV [o,l] ay ay)) (op:=Cn) (text:=⟨#[]⟩) Ah Ap
   refine gf 5 rfl (fun az=>Y.build (cs:=#[.string Cn,Zs,Zi,Zi,Zs,Zl,Zl,Zl,Zl,Zl,Zl,Zl]) Au)<|gp 3<|cX (kV e hs b.g) ?_
   rintro _ a0 bZ ca ⟨rfl,b⟩
   refine gn R.g ?_
   obtain⟨a1,cb,cc⟩:=nl a0
   have T:=RN.jw (w:=a0) (D:=(DV [o,l] a1 a1)) (op:=Cx) (text:=x) Ah Ap
   refine gf 4 rfl (fun az=>Y.build (cs:=#[.string Cx,.string x,Zi,Zi,Zs,Zl,Zl,Zl,Zl,Zl,Zl,Zl]) Au)<|gp 6<|bN (css:=[#[.string Cx,.string x,Zi,Zi,Zs,Zl,Zl,Zl,Zl,Zl,Zl,Zl],#[.string Cn,Zs,Zi,Zi,Zs,Zl,Zl,Zl,Zl,Zl,Zl,Zl]]) F.ic rfl rfl (by intro p hc;simp only[Tr,Tp,TD]at hc;rcases hc with rfl|rfl;exact T.hA;exact S.hA) fun cd ce cf cg aH aI=>gn R.g<|gp 7<|DL.hJ rfl rfl F.ic rfl rfl d.g.own (hB.hE aI) (hW (sz:=12) (m:=2) (by intro p hc;simp only[Tr,Tp,TD]at hc;rcases hc with rfl|rfl;exact T.hA;exact S.hA) rfl) (hM (by intro p hc;simp only[Tr,Tp,TD]at hc;rcases hc with rfl|rfl;exact T.one;exact S.one)) Ae Ae Ac ?_
   intro aJ aK C U W
   have w:=d.g.lo';have q:=fun g=>d.g.nx (b:=g);have hL:=fun g=>d.lt (b:=g)
   have d:=d.g.yn Ac As T.hA S.hA (T.g.up Ai) (S.g.up Ai) C U W
   have j:=j.g.put C (fun x hx=>Tk (w x hx))
   have k:=C.hO (Gb k) (q _ As)
   have c:=C.hO (Gb c) (q _ As)
   have b:=b.g.fr C (hL _ Ac)
   have aH:=Tj Ac C.size
   clear w q hL
   obtain⟨ch,aL,ci⟩:=nl aK
   rw[←aL]at d
   refine gl<|aG [8]<|gp 9<|sc c rfl rfl d.one rfl fun aM cj ck c=>have c:aM.heap[l]? =some (.cells #[.string Cm,Zs,Zi,Zi,Zs,Zl,Zl,Zl,aJ,Zl,Zl,Zl] 31 (0,0)):=c;gl<|gD<|ac 1<|ac 2<|cX (yJ ae hs b.g) ?_
   rintro _ cl cm cn ⟨rfl,b⟩
   exact au 2 ⟨(_,_,_,_,_,_,_),⟨j.g,af,by rw[←O];simp only[Ty,TH,TN],b,(Gb k),(Gb c),d.g,Ac⟩,Vj (TY _),rfl⟩
  | @kv co _ _ _ ag hk ht aN=>
   refine ac 7 ?_
   obtain⟨a,av,aw,v⟩:=id b
   refine lD v rfl rfl<|au 14<|lD v rfl rfl<|sX ag rfl rfl<|au 6 ?_
   obtain⟨r,m⟩:=nm aq
   have aO:=j.le m
   have aP:z<r:=by rw[m];exact Ac
   have aQ:o<r:=by rw[m];exact Ac
   have aR:l<r:=by rw[m];exact Ac
   have aS:J≤r:=by rw[m];exact Ac
   refine cX (hk _ _ _ hs b) ?_
   rintro _ aT aU cp ⟨ah,rfl,b,f⟩
   obtain⟨ai,X,aV⟩:=nl aT
   rw[←m,←X]at f
   have aW:=aU.l2 m X
   have f:=f.up (D':=(DV [o,l] r ai)) Ad
   refine al F.z31 rfl fun aj cq cr aX aY A=>sA A rfl rfl rfl f.hA f.one fun ct cu cv A=>au 4<|cX (jD ht hs b.g) ?_
   rintro _ cw cx cy ⟨rfl,b⟩
   refine au 2<|dR [z] 6 fun aZ ba cz R=>have c0:=ba.size;aG [0]<|gM 1 (Gb c) rfl rfl rfl<|gT 2 rfl (fun az bb=>Y.jl rfl (bb.hO (Gb A) AK) (by rw[f.hA];exact F.hN))<|aG [3]<|gp 4 ?_
   obtain⟨bc,ak⟩:=nm aZ
   have c1:=j.g.le ak
   refine cX (aN _ _ _ hs b.g) ?_
   rintro _ bd be c2 ⟨bf,rfl,b,y⟩
   obtain⟨bg,a2,c3⟩:=nl bd
   rw[←ak,←a2]at y
   have c4:=be.l2 ak a2
   have y:=y.up (D':=(DV [o,l,aj] bc bg)) Ad
   refine gn R.g<|gp 5<|bN (css:=[ah,bf]) F.ic rfl rfl (by intro p hc;simp only[Tr,Tp,TD]at hc;rcases hc with rfl|rfl;exact f.hA;exact y.hA) fun c5 c6 c7 c8 bh bi=>gn R.g<|gp 6<|DL.hJ rfl rfl F.ic rfl rfl d.g.own (hB.hE bi) (hW (sz:=12) (m:=2) (by intro p hc;simp only[Tr,Tp,TD]at hc;rcases hc with rfl|rfl;exact f.hA;exact y.hA) rfl) (hM (by intro p hc;simp only[Tr,Tp,TD]at hc;rcases hc with rfl|rfl;exact f.one;exact y.one)) Ae Ae Ac ?_
   intro bj bk E U W
   have w:=d.g.lo';have q:=fun g=>d.g.nx (b:=g);have hL:=fun g=>d.lt (b:=g)
   have d:=d.g.yn Ac As f.hA y.hA (f.g.up Ai) (y.g.up Ai) E U W
   have j:=j.g.put E (fun x hx=>Tk (w x hx))
   have k:=E.hO (Gb k) (q _ As)
   have c:=E.hO (Gb c) (q _ As)
   have b:=b.g.fr E (hL _ Ac)
   have bh:=Tj Ac E.size
   clear w q hL
   obtain⟨c9,bl,cA⟩:=nl bk
   rw[←bl]at d
   refine gl<|aG [7]<|gp 8<|sc c rfl rfl d.one rfl fun bm cB cC c=>have c:bm.heap[l]? =some (.cells #[.string Cm,Zs,Zi,Zi,Zs,Zl,Zl,Zl,bj,Zl,Zl,Zl] 31 (0,0)):=c;gl<|gD<|ac 2<|cX (yJ ae hs b.g) ?_
   rintro _ cD cE cF ⟨rfl,b⟩
   exact au 2 ⟨(_,_,_,_,_,_,_),⟨j.g,af,by rw[←O];simp only[Ty,TH,TN],b,(Gb k),(Gb c),d.g,Ac⟩,Vj (TY _),rfl⟩
  | @k _ _ ag hk bn=>
   refine ac 7 ?_
   obtain⟨a,av,aw,v⟩:=id b
   refine lD v rfl rfl<|au 14<|lD v rfl rfl<|sX ag rfl rfl<|au 6 ?_
   obtain⟨r,m⟩:=nm aq
   have aO:=j.le m
   have aP:z<r:=by rw[m];exact Ac
   have aQ:o<r:=by rw[m];exact Ac
   have aR:l<r:=by rw[m];exact Ac
   have aS:J≤r:=by rw[m];exact Ac
   refine cX (hk _ _ _ hs b) ?_
   rintro _ bo bp cG ⟨ah,rfl,b,f⟩
   obtain⟨ai,X,aV⟩:=nl bo
   rw[←m,←X]at f
   have aW:=bp.l2 m X
   have f:=f.up (D':=(DV [o,l] r ai)) Ad
   refine al F.z31 rfl fun aj cH cI aX aY A=>sA A rfl rfl rfl f.hA f.one fun cJ cK cL A=>au 4<|cX (jd bn b.g) ?_
   rintro _ a3 cM cN rfl
   refine au 4<|lD (Gb c) rfl rfl<|lw (Gb A) rfl f.hA ?_
   obtain⟨a4,cO,cP⟩:=nl a3
   have Z:=RN.jw (w:=a3) (D:=(DV [o,l,aj] a4 a4)) (op:=Cn) (text:=⟨#[]⟩) Ah Ap
   refine bD #[.string Cn,Zs,Zi,Zi,Zs,Zl,Zl,Zl,Zl,Zl,Zl,Zl]<|bN (css:=[ah,#[.string Cn,Zs,Zi,Zi,Zs,Zl,Zl,Zl,Zl,Zl,Zl,Zl]]) F.ic rfl rfl (by intro p hc;simp only[Tr,Tp,TD]at hc;rcases hc with rfl|rfl;exact f.hA;exact Z.hA) fun cQ cR cS cT bq br=>DL.hJ rfl rfl F.ic rfl rfl d.g.own (hB.hE br) (hW (sz:=12) (m:=2) (by intro p hc;simp only[Tr,Tp,TD]at hc;rcases hc with rfl|rfl;exact f.hA;exact Z.hA) rfl) (hM (by intro p hc;simp only[Tr,Tp,TD]at hc;rcases hc with rfl|rfl;exact f.one;exact Z.one)) Ae Ae Ac ?_
   intro bs bt G U W
   have w:=d.g.lo';have q:=fun g=>d.g.nx (b:=g);have hL:=fun g=>d.lt (b:=g)
   have d:=d.g.yn Ac As f.hA Z.hA (f.g.up Ai) (Z.g.up Ai) G U W
   have j:=j.g.put G (fun x hx=>Tk (w x hx))
   have k:=G.hO (Gb k) (q _ As)
   have c:=G.hO (Gb c) (q _ As)
   have b:=b.g.fr G (hL _ Ac)
   have bq:=Tj Ac G.size
   clear w q hL
   obtain⟨cU,bu,cV⟩:=nl bt
   rw[←bu]at d
   refine au 1<|sc c rfl rfl d.one rfl fun bv cW cZ c=>have c:bv.heap[l]? =some (.cells #[.string Cm,Zs,Zi,Zi,Zs,Zl,Zl,Zl,bs,Zl,Zl,Zl] 31 (0,0)):=c;au 3<|cX (yJ ae hs b.g) ?_
   rintro _ da db dc ⟨rfl,b⟩
   exact au 2 ⟨(_,_,_,_,_,_,_),⟨j.g,af,by rw[←O];simp only[Ty,TH,TN],b,(Gb k),(Gb c),d.g,Ac⟩,Vj (TY _),rfl⟩
def uV(ds:Nat→Nat):Nat→Nat
 |0=>0
 |i+1=>16*uV ds i+ds i
theorem Kq{b:Nat→Nat}(h:∀i,i<4→b i<16):∀i,i≤4→uV b i<65536:=by
 intro i hi
 have h0:=h 0 Ac;have h1:=h 1 Ac;have h2:=h 2 Ac;have c:=h 3 Ac
 match i,hi with
 |0,_=>exact(by decide:(0:Nat)<65536)
 |1,_=>simp only[uV];omega
 |2,_=>simp only[uV];omega
 |3,_=>simp only[uV];omega
 |4,_=>simp only[uV];omega
theorem EW(h:m<16):(m<10∧(mU m).toNat=48+m)∨(10≤m∧(mU m).toNat=87+m):=by
 unfold mU
 split
 ·left;refine⟨by assumption,?_⟩;rw[UG];omega
 right;refine⟨Ac,?_⟩;rw[UG];omega
theorem KB{d:Nat}(h:10≤d∧d<16)(hc:m=87+d):IntKind.i64.wrap ((m|||32:Nat):Int)=(m:Int):=by
 have b:d=10∨d=11∨d=12∨d=13∨d=14∨d=15:=by omega
 subst hc
 rcases b with rfl|rfl|rfl|rfl|rfl|rfl<;>decide
theorem Ok:∀n:Nat,n<128→Utf8.encode (n:Int)=⟨#[UInt8.ofNat n]⟩:=by decide
theorem ym{n:Nat}(h:n<128):IntKind.i32.wrap (n:Int)=(n:Int):=by
 simp[IntKind.wrap,IntKind.bits,IntKind.signed];omega
theorem Fh{a:Nat}{s:ByteArray}{ds:Nat→Nat}(f:w.heap[m]? =some (.cells (pG s a t sA) 54 (0,0)))(j:∀i,i<4→ds i<16)(o:∀i,i<4→∃h:a+i<s.size,s[a+i]=mU (ds i))(hs:s.size≤1099511627776):Calls Tryz.prog 162 #[Pt m] w (hH w [m] fun p q=>p=.int .i64 ((uV ds 4:Nat):Int)∧q.heap[m]? =some (.cells (pG s (a+4) t sA) 54 (0,0))):=by
 refine cY Tryz.func162 fun g=>ac 14<|lE [m] w (σ:=Nat) [(2,70)] [(0,Pt m)] (fun i=>[(3,.int .i64 ((uV ds i:Nat):Int)),(4,.int .i64 (i:Int))]) (fun i r=>i≤4∧r.heap[m]? =some (.cells (pG s (a+i) t sA) 54 (0,0))) (fun i=>4 - i) (0) ?_ ?_
 ·exact⟨g,TE _,f⟩
 clear g f
 rintro H i I J ⟨g,K,f⟩
 have L:=Kq j i Ac
 refine ac 4<|jX rfl rfl (fun u=>?_) (fun u=>?_)
 ·have hi:i<4:=by omega
  have v:=j i hi
  obtain⟨y,z⟩:=o i hi
  have A:=EW v
  rw[←z]at A
  refine au 7<|dF fun M B O C=>have P:=B.size;aK [0,1,2]<|kL 3 (Gb f) rfl rfl rfl<|aK [4,5,6]<|kL 7 (Gb f) rfl rfl rfl<|aK [8]<|kT 9 rfl (fun k l=>Y.E1 (c:=false) rfl rfl (Ti Ac))<|kD<|ac 3<|dF fun Q D R C=>have S:=D.size;aK [0,1,2]<|kL 3 (Gb f) rfl rfl rfl<|aK [4,5,6]<|kL 7 (Gb f) rfl rfl rfl<|kT 8 rfl (fun k l=>Y.jb (i:=a+i) Tryz.underlying9 rfl rfl rfl y)<|kT 9 rfl (fun k l=>Y.zt F.Np Tryz.underlying3 rfl (by have:=(s[a+i]).toNat_lt;omega))<|aK [10]<|kD<|ac 5<|lD (Gb f) rfl rfl<|ai ((a+(i+1):Nat):Int) rfl rfl<|au 2<|sc (Gb f) rfl rfl rfl rfl fun T U W f=>au 5<|DL.y rfl rfl (Y.Le (c:=true) rfl rfl (Th Ac))<|au 2<|jM rfl rfl (fun E=>?_) (fun E=>?_)
  ·have X:ds i<10:=by omega
   have G:s[a+i].toNat=48+ds i:=by omega
   refine au 6<|DL.y rfl rfl (Y.yA (c:=((16*uV ds i:Nat):Int)) rfl rfl Ac Ac Ac)<|au 1<|ai ((16*uV ds i+s[a+i].toNat:Nat):Int) rfl rfl<|si ((16*uV ds i+ds i:Nat):Int) rfl rfl<|au 4<|ai ((i+1:Nat):Int) rfl rfl<|au 2 ?_
   refine⟨i+1,⟨g.g,hi,f⟩,by show 4 - (i+1)<4 - i;omega,⟨rfl,rfl⟩⟩
  have Z:10≤ds i:=by omega
  have G:s[a+i].toNat=87+ds i:=by omega
  refine au 7<|DL.y rfl rfl (Y.Pv (a:=s[a+i].toNat) (b:=32) (c:=((s[a+i].toNat:Nat):Int)) rfl rfl BA Ah (KB (d:=ds i) ⟨Ac,Ac⟩ Ac))<|DL.y rfl rfl (Y.Le (c:=true) rfl rfl (Th Ac))<|au 2<|DL.y rfl rfl (Y.Pv (a:=s[a+i].toNat) (b:=32) (c:=((s[a+i].toNat:Nat):Int)) rfl rfl BA Ah (KB (d:=ds i) ⟨Ac,Ac⟩ Ac))<|DL.y rfl rfl (Y.So (c:=true) rfl rfl (Th Ac))<|au 6<|DL.y rfl rfl (Y.yA (c:=((16*uV ds i:Nat):Int)) rfl rfl Ac Ac Ac)<|au 1<|DL.y rfl rfl (Y.Pv (a:=s[a+i].toNat) (b:=32) (c:=((s[a+i].toNat:Nat):Int)) rfl rfl BA Ah (KB (d:=ds i) ⟨Ac,Ac⟩ Ac))<|ai ((16*uV ds i+s[a+i].toNat:Nat):Int) rfl rfl<|si (((16*uV ds i+ds i:Nat):Int) - 10) rfl rfl<|ai ((16*uV ds i+ds i:Nat):Int) rfl rfl<|au 4<|ai ((i+1:Nat):Int) rfl rfl<|au 2 ?_
  refine⟨i+1,⟨g.g,hi,f⟩,by show 4 - (i+1)<4 - i;omega,⟨rfl,rfl⟩⟩
 obtain rfl:i=4:=by omega
 exact au 3<|ac 6<|rX g ⟨rfl,f⟩
theorem rR{x:UInt8}(hx:kK x≠[x]):∃b c,kK x=92::b::c∧((b.toNat=34∧x=34∧c=[])∨(b.toNat=92∧x=92∧c=[])∨(b.toNat=110∧x=10∧c=[])∨(b.toNat=116∧x=9∧c=[])∨(b.toNat=114∧x=13∧c=[])∨(b.toNat=98∧x=8∧c=[])∨(b.toNat=102∧x=12∧c=[])∨(b.toNat=117∧x.toNat<128∧c=[48,48,mU (x.toNat/16),mU (x.toNat%16)])):=by
 unfold kK at hx⊢
 split;· rename_i h;subst h;exact⟨_,_,rfl,by decide⟩
 split;· rename_i h;subst h;exact⟨_,_,rfl,by decide⟩
 split;· rename_i h;subst h;exact⟨_,_,rfl,by decide⟩
 split;· rename_i h;subst h;exact⟨_,_,rfl,by decide⟩
 split;· rename_i h;subst h;exact⟨_,_,rfl,by decide⟩
 split;· rename_i h;subst h;exact⟨_,_,rfl,by decide⟩
 split;· rename_i h;subst h;exact⟨_,_,rfl,by decide⟩
 split
 ·rename_i h
  refine⟨_,_,rfl,Tk (Tk (Tk (Tk (Tk (Tk (Tk ⟨rfl,?_,rfl⟩))))))⟩
  rcases h with h|h
  ·omega
  subst h;decide
 rename_i h1 h2 d f g j k l
 simp[h1,h2,d,f,g,j,k,l]at hx
theorem jg{s:ByteArray}{a:Nat}(h:s.data.toList.drop a=uA::L):∃c:a<s.size,s[a]=uA∧s.data.toList.drop (a+1)=L:=by
 have h1:a<s.data.toList.length:=by
  apply U1;intro d
  rw[Um Ac]at h;cases h
 have h2:a<s.size:=by rw[hK];exact h1
 have b:=iG h2
 rw[b]at h
 exact⟨h2,(List.cons.inj h).1,(List.cons.inj h).2⟩
theorem HG{s:ByteArray}{a:Nat}(h:s.data.toList.drop a=uA::L):s.extract a (a+1)=⟨#[uA]⟩:=by
 rw[nZ,h];rfl
def Lw(x:UInt8)(i:Nat):Nat:=if i=2 then x.toNat/16 else if i=3 then x.toNat%16 else 0
theorem Gr(x:UInt8)(h:x.toNat<128):uV (Lw x) 4=x.toNat:=by
 simp only[uV,Lw];simp;omega
theorem F5{a:Nat}{s:ByteArray}{x:UInt8}(c:w.heap[m]? =some (.cells (pG s a t sA) 54 (0,0)))(hx:kK x≠[x])(v:s.data.toList.drop a=(kK x).tail++L)(hs:s.size≤1099511627776):Calls Tryz.prog 152 #[Pt m] w (hH w [m] fun B C=>B=.string ⟨#[x]⟩∧∃y,y≤s.size∧s.data.toList.drop y=L∧C.heap[m]? =some (.cells (pG s y t sA) 54 (0,0))):=by
 obtain⟨d,l,z,j⟩:=rR hx
 rw[z]at v
 obtain⟨D,hc,o⟩:=jg v
 have am:s[a].toNat=d.toNat:=by rw[hc]
 have A:s.extract ((a:Int).toNat) (((a+1:Nat):Int).toNat)=⟨#[d]⟩:=HG v
 clear hx z
 refine cY Tryz.func152 fun p=>ac 6<|dF fun an E ao u=>have ap:=E.size;aK [0,1,2]<|kL 3 (Gb c) rfl rfl rfl<|aK [4,5,6]<|kL 7 (Gb c) rfl rfl rfl<|aK [8]<|kT 9 rfl (fun q r=>Y.E1 (c:=false) rfl rfl (Ti Ac))<|kD<|ac 3<|dF fun aq G ar u=>have av:=G.size;aK [0,1,2]<|kL 3 (Gb c) rfl rfl rfl<|aK [4,5,6]<|kL 7 (Gb c) rfl rfl rfl<|kT 8 rfl (fun q r=>Y.jb (i:=a) Tryz.underlying9 rfl rfl rfl D)<|aK [9]<|kD<|ac 5<|lD (Gb c) rfl rfl<|ai ((a+1:Nat):Int) rfl rfl<|au 1<|au 1<|sc (Gb c) rfl rfl rfl rfl fun aw ax ay c=>au 10<|jE rfl rfl (fun H=>?_) (fun H=>?_)
 ·obtain⟨k,f,g⟩:d.toNat=34∧x=34∧l=[]:=by
   rcases j with h|h|h|h|h|h|h|h<;>first|exact h|(exfalso;omega)
  subst f;subst g
  exact au 6<|dF fun az I a0 u=>have a1:=I.size;aK [0,1,2]<|kL 3 (Gb c) rfl rfl rfl<|aK [4,5,6]<|kL 7 (Gb c) rfl rfl rfl<|kT 8 rfl (fun q r=>Y.n8 (c:=(a:Int)) rfl rfl Ac Ac Ac)<|aK [9,10,11]<|kL 12 (Gb c) rfl rfl rfl<|kT 13 rfl (fun q r=>Y.nh Tryz.underlying9 rfl rfl rfl Ac Ac Ac)<|aK [14]<|kD<|ac 1<|rX p.g ⟨TR Value.string (A.trans (by rw[show d=34 from TV.1 k])),a+1,Ac,o,(Gb c)⟩
 refine au 5<|jE rfl rfl (fun J=>?_) (fun J=>?_)
 ·obtain⟨k,f,g⟩:d.toNat=92∧x=92∧l=[]:=by
   rcases j with h|h|h|h|h|h|h|h<;>first|exact h|(exfalso;omega)
  subst f;subst g
  exact au 6<|dF fun a2 K a3 u=>have a4:=K.size;aK [0,1,2]<|kL 3 (Gb c) rfl rfl rfl<|aK [4,5,6]<|kL 7 (Gb c) rfl rfl rfl<|kT 8 rfl (fun q r=>Y.n8 (c:=(a:Int)) rfl rfl Ac Ac Ac)<|aK [9,10,11]<|kL 12 (Gb c) rfl rfl rfl<|kT 13 rfl (fun q r=>Y.nh Tryz.underlying9 rfl rfl rfl Ac Ac Ac)<|aK [14]<|kD<|ac 1<|rX p.g ⟨TR Value.string (A.trans (by rw[show d=92 from TV.1 k])),a+1,Ac,o,(Gb c)⟩
 refine au 4<|jE rfl rfl (fun M=>?_) (fun M=>?_)
 ·exfalso;rcases j with h|h|h|h|h|h|h|h<;>omega
 refine au 5<|jE rfl rfl (fun O=>?_) (fun O=>?_)
 ·obtain⟨k,f,g⟩:d.toNat=98∧x=8∧l=[]:=by
   rcases j with h|h|h|h|h|h|h|h<;>first|exact h|(exfalso;omega)
  subst f;subst g
  exact au 8<|rX p.g ⟨rfl,a+1,Ac,o,c⟩
 refine au 5<|jE rfl rfl (fun P=>?_) (fun P=>?_)
 ·obtain⟨k,f,g⟩:d.toNat=102∧x=12∧l=[]:=by
   rcases j with h|h|h|h|h|h|h|h<;>first|exact h|(exfalso;omega)
  subst f;subst g
  exact au 8<|rX p.g ⟨rfl,a+1,Ac,o,c⟩
 refine au 5<|jE rfl rfl (fun Q=>?_) (fun Q=>?_)
 ·obtain⟨k,f,g⟩:d.toNat=110∧x=10∧l=[]:=by
   rcases j with h|h|h|h|h|h|h|h<;>first|exact h|(exfalso;omega)
  subst f;subst g
  exact au 8<|rX p.g ⟨rfl,a+1,Ac,o,c⟩
 refine au 5<|jE rfl rfl (fun R=>?_) (fun R=>?_)
 ·obtain⟨k,f,g⟩:d.toNat=114∧x=13∧l=[]:=by
   rcases j with h|h|h|h|h|h|h|h<;>first|exact h|(exfalso;omega)
  subst f;subst g
  exact au 8<|rX p.g ⟨rfl,a+1,Ac,o,c⟩
 refine au 5<|jE rfl rfl (fun S=>?_) (fun S=>?_)
 ·obtain⟨k,f,g⟩:d.toNat=116∧x=9∧l=[]:=by
   rcases j with h|h|h|h|h|h|h|h<;>first|exact h|(exfalso;omega)
  subst f;subst g
  exact au 8<|rX p.g ⟨rfl,a+1,Ac,o,c⟩
 refine au 5<|jE rfl rfl (fun T=>?_) (fun T=>?_)
 ·obtain⟨k,f,g⟩:d.toNat=117∧x.toNat<128∧l=[48,48,mU (x.toNat/16),mU (x.toNat%16)]:=by
   rcases j with h|h|h|h|h|h|h|h<;>first|exact h|(exfalso;omega)
  subst g
  refine au 6 ?_
  obtain⟨U,W,X⟩:=jg o
  obtain⟨Z,aa,ab⟩:=jg X
  obtain⟨ad,ae,af⟩:=jg ab
  obtain⟨ag,ah,aj⟩:=jg af
  have ak:∀i,i<4→∃h:a+1+i<s.size,s[a+1+i]=mU (Lw x i):=fun i hi=>by
   match i,hi with
   |0,_=>exact⟨U,W⟩
   |1,_=>exact⟨Z,aa⟩
   |2,_=>exact⟨ad,ae⟩
   |3,_=>exact⟨ag,ah⟩
  refine cX (Fh (a:=a+1) (ds:=Lw x) c (fun i hi=>by unfold Lw;split;omega;split;omega;omega) ak hs) ?_
  rintro _ a5 a6 a7 ⟨rfl,c⟩
  rw[Gr x f]
  exact au 4<|dF fun a8 al a9 u=>have aA:=al.size;aK [0]<|kT 1 rfl (fun q r=>Y.Le (c:=false) rfl rfl (Ti Ac))<|aK [2,3,4,5,6,7,8,9,10,11,12,13]<|aK [14,15,16,17]<|aK [18,19,20,21,22,23,24,25,26,27,28,29]<|aK [30,31,32,33,34,35]<|aK [36,37,38,39,40,41,42,43]<|kD<|ac 5<|DL.y rfl rfl (Y.Mn (c:=(x.toNat:Int)) F.RX Tryz.underlying21 rfl (ym f))<|DL.y rfl rfl (Y.D6 (b:=⟨#[x]⟩) F.OF Tryz.underlying9 rfl ((Ok _ f).trans Al))<|au 3<|rX p.g ⟨rfl,a+5,Ac,aj,(Gb c)⟩
 exfalso;rcases j with h|h|h|h|h|h|h|h<;>omega
theorem SC.lo'{w:World}{d:Nat→Prop}{lo H:Nat}{ns:List ByteArray}{c:Value}(h:SC w d lo H ns c):∀b∈hX c,lo≤b:=fun b f=>(ik h.own b f).1
theorem SC.nx{w:World}{c:Nat→Prop}{lo H:Nat}{ns:List ByteArray}{d:Value}(h:SC w c lo H ns d){b:Nat}(hx:c b):b∉hX d:=fun f=>(h.ob b (hF.1 f)).2 hx
theorem SC.lt{w:World}{d:Nat→Prop}{lo H:Nat}{ns:List ByteArray}{c:Value}(h:SC w d lo H ns c){b:Nat}(hx:b<lo):b∉hX c:=fun f=>by have:=h.lo' b f;omega
structure TT(w:World)(V:Nat→Prop)(lo H:Nat)(ns:List ByteArray)(sln:Value)(ks:List N)(iC:Value)(cssk:List (Array Value)):Prop where
 n:SC w (fun c=>V c∨iC.ownBlock=some c) lo H ns sln
 k:NC w 0 31 12 (fun c=>V c∨sln.ownBlock=some c) lo H ks iC cssk
section
variable{S:List Nat}{w w':World}{V:Nat→Prop}{lo H:Nat}{ns:List ByteArray}{ks:List N}{iC sln sl':Value}{cssk:List (Array Value)}
theorem TT.fr(h:TT w V lo H ns sln ks iC cssk)(d:Fr S w w')(hs:∀b∈S,b<lo∨H≤b∨V b):TT w' V lo H ns sln ks iC cssk:=
 ⟨h.n.fr d (fun b c=>(hs b c).imp id (fun h=>h.imp id Ts)),h.k.fr d (fun b c=>(hs b c).imp id (fun h=>h.imp id Ts))⟩
theorem TT.g(h:TT w V lo H ns sln ks iC cssk)(b:TT w V lo H ns sln ks iC cssk→TT w' V lo H ns sln ks iC cssk:=by exact Gq):TT w' V lo H ns sln ks iC cssk:=b h
theorem TT.k9(h:TT w V lo H ns sln ks iC cssk)(b:Fr [] w w'):TT w' V lo H ns sln ks iC cssk:=h.fr b (fun d c=>by cases c)
theorem TT.n6{b:Nat}(h:TT w V lo H ns sln ks iC cssk)(c:Fr [b] w w')(d:b<lo∨H≤b∨V b):TT w' V lo H ns sln ks iC cssk:=h.fr c (fun g f=>by rcases Tt.1 f with rfl;exact d)
theorem TT.nil(w:World)(V:Nat→Prop)(lo H:Nat):TT w V lo H [] Zl [] Zl []:=⟨SC.nil _ _ _ _,NC.nil _ _ _ _ _ _ _⟩
theorem TT.D7{n:N}{b:Array Value}(h:TT w V lo H ns sln ks iC cssk)(k:H≤w.heap.size)(l:¬V w.heap.size)(hs:b.size=12)(m:RN w (fun b=>lo≤b∧H≤b∧b<w.heap.size∧¬V b) 0 n b)(f:Fr (hX iC) w w')(o:w'.ownsRow lo 31 12 sl' (ks.length+1) (hS cssk++(hS [b]).toArray.toList))(g:sl'.ownBlock=iC.ownBlock∨sl'.ownBlock=some w.heap.size):TT w' V lo w'.heap.size ns sln (ks++[n]) sl' (cssk++[b]):=by
 have j:∀d,sln.ownBlock=some d→d<H:=fun d c=>(h.n.ob d c).1
 have p:=f.size
 refine⟨?_,h.k.kI k (fun hx=>hx.elim l (fun e=>by have:=j _ e;omega)) hs (m.mono (fun d c=>⟨c.1,c.2.1,c.2.2.1,fun hx=>hx.elim c.2.2.2 (fun e=>by have:=j _ e;have:=c.2.1;omega)⟩)) f o g⟩
 refine(h.n.fr f (fun d c=>Tk (Tk (Tk (hF.1 c))))).up Ac (fun d h1 h2 hx=>?_)
 rcases hx with hx|hx
 ·exact Ts hx
 rcases g with e|e
 ·exact Tk (e▸hx)
 rw[e]at hx;cases hx;omega
theorem TT.yk{n:ByteArray}(h:TT w V lo H ns sln ks iC cssk)(l:H≤w.heap.size)(g:¬V w.heap.size)(d:Fr (hX sln) w w')(j:w'.ownsRow lo 9 1 sl' (ns.length+1) (ns.map Value.string++(#[Value.string n]:Array Value).toList))(f:sl'.ownBlock=sln.ownBlock∨sl'.ownBlock=some w.heap.size):TT w' V lo w'.heap.size (ns++[n]) sl' ks iC cssk:=by
 have k:∀b,iC.ownBlock=some b→b<H:=fun b c=>(h.k.ob b c).1
 have m:=d.size
 refine⟨h.n.snoc (fun hx=>hx.elim g (fun e=>by have:=k _ e;omega)) j f,?_⟩
 refine(h.k.fr d (fun b c=>Tk (Tk (Tk (hF.1 c))))).up Ac (fun b h1 h2 hx=>?_)
 rcases hx with hx|hx
 ·exact Ts hx
 rcases f with e|e
 ·exact Tk (e▸hx)
 rw[e]at hx;cases hx;omega
theorem TT.NY(h:TT w V lo H ns sln ks iC cssk)(hl:ks.length≤1099511627776):Rw w (DX V lo H) 0 12 ks iC:=(h.k.rw Ah hl).mono (fun c hc=>⟨hc.1,hc.2.1,fun b=>hc.2.2 (Ts b)⟩)
theorem TT.PA(h:TT w V lo H ns sln ks iC cssk)(hl:ns.length≤1099511627776)(hs:∀s∈ns,s.size≤1099511627776):Rs w (DX V lo H) ns sln:=(h.n.rs hl hs).mono (fun c hc=>⟨hc.1,hc.2.1,fun b=>hc.2.2 (Ts b)⟩)
theorem TT.Kg(h:TT w V lo H ns sln ks iC cssk):∃a b,iC=.slice a ks.length b:=let⟨a,b,h1,_⟩:=h.k.done Ah;⟨a,b,h1⟩
end
theorem D.Y.Md{P:Program}{e:Env}{w:World}{dst:Option Tmp}{ty:TypeId}{pos:String}{af:Array Edge}{g:Option (Nat×Bool)}{x y:Operand}{t u:TypeId}{a b c:ByteArray}(hx:ev e x=.string a)(d:ev e y=.string b)(h:a.size+b.size≤9223372036854775807)(hc:a++b=c):Y P e ⟨dst,.binOp .add t x y u,ty,pos,af,g⟩ w (.string c):=by
 subst hc;exact Y.cat hx d h
theorem xv(b:List UInt8)(c:UInt8):ba b++⟨#[c]⟩=ba (b++[c]):=by
 rw[←iO (ba b++⟨#[c]⟩)]
 unfold ba;simp[Un]
theorem wa{b:UInt8}(h:kK b=[b]):32≤b.toNat∧b.toNat≠34∧b.toNat≠92:=by
 unfold kK at h
 split at h;· cases h
 split at h;· cases h
 split at h;· cases h
 split at h;· cases h
 split at h;· cases h
 split at h;· cases h
 split at h;· cases h
 split at h;· cases h
 ·rename_i h1 h2 _ _ _ _ _ c
  refine⟨Ac,fun e=>h1 (TV.1 e),fun e=>h2 (TV.1 e)⟩
theorem zn{c:UInt8}(h:kK c≠[c]):∃b d,kK c=92::b::d∧b.toNat≠40:=by
 obtain⟨b,d,f,hc⟩:=rR h
 refine⟨b,d,f,?_⟩
 rcases hc with h|h|h|h|h|h|h|h<;>omega
inductive TX:Nat→List UInt8→List UInt8→List ByteArray→List N→List UInt8→Prop
 |fin {rest:List UInt8}:TX 0 (34::rest) [] [] [] rest
 |Qc {m:Nat} {c:UInt8} {R p rest:List UInt8} {ns:List ByteArray} {ks:List N} (hc:kK c=[c]) (r:TX m R p ns ks rest):TX (m+1) (c::R) (c::p) ns ks rest
 |PJ {m:Nat} {c:UInt8} {R p rest:List UInt8} {ns:List ByteArray} {ks:List N} (hc:kK c≠[c]) (r:TX m R p ns ks rest):TX (m+1) (kK c++R) (c::p) ns ks rest
 |int {m:Nat} {R1 L1 R2 p rest:List UInt8} {ns:List ByteArray} {ks:List N} {q:N} (h:RQ 15 [] R1 q L1) (e:lx L1=(jU,⟨#[41]⟩,R2)) (r:TX m R2 p ns ks rest):TX (m+1) (92::40::R1) [] (ba p::ns) (q::ks) rest
def xy(f:ByteArray)(ns:List ByteArray)(ks:List N):N:=if ks.length=0∧f=⟨#[]⟩then jk (ns.headD bE)else .mk Cp f V0 ns ks [] []
theorem sa{L an v ao:List UInt8}{A:Nat}{fm:ByteArray}{na I:List ByteArray}{q:List N}(e:lx L=(kU,bE,an))(a8:TX A an v I q ao)(a9:ba v::I=na)(aT:na.length=q.length+1)(bM:fm.size≤1099511627776)(aA:na.length≤1048576)(aB:q.length≤1048576)(ap:∀x∈na,x.size≤1048576):kO 0 141 [.string fm] L (xy fm na q) ao:=by
 intro w W s hs m
 have aU:=m.lt
 have bO:=m.lt
 refine cY Tryz.func141 fun p=>ac 2<|al F.z31 rfl fun y aC bP bQ aV l=>au 4 ?_
 obtain⟨aW,bR,bS⟩:=nl aC
 have aq:=RN.jw (w:=aC) (D:=(DV [y] w.heap.size aW)) (op:=Cp) (text:=fm) Ah Ap
 refine bD #[.string Cp,.string fm,Zi,Zi,Zs,Zl,Zl,Zl,Zl,Zl,Zl,Zl]<|al F.z31 rfl fun r bT bU bV aX f=>sA (cs:=#[.string Cp,.string fm,Zi,Zi,Zs,Zl,Zl,Zl,Zl,Zl,Zl,Zl]) f rfl rfl rfl aq.hA aq.one ?_
 intro aD bW bX f
 obtain⟨aE,bY,aY⟩:=nl aD
 have d:=TT.nil aD (fun c=>c=y∨c=r) w.heap.size aE
 refine au 7 ?_
 obtain⟨a,X,B,b⟩:=m.g.ob e
 refine DC.jC (σ:=Nat×List UInt8×List UInt8×List UInt8×List ByteArray×List ByteArray×List N×List N×Value×Value×List (Array Value)×Nat×Nat×ByteArray×ByteArray) [(6,7),(10,151)] [(0,Pt W),(1,.string fm),(4,Pt y),(5,Pt r)] (fun(A,aj,v,o,_)=>[(6,.string (ba o))]) (fun aZ J=>Fr [W] w J∧(fun(A,aj,v,o,I,ns,ak,ks,sln,iC,ar,H,a,aF,aH) J=>TX A aj v I ak ao∧ns++(ba (o++v)::I)=na∧ks++ak=q∧a≤s.size∧s.data.toList.drop a=aj∧J.heap[W]? =some (.cells (pG s a aF aH) 54 (0,0))∧J.heap[y]? =some (.cells #[Zs,Zs,Zi,Zi,Zs,Zl,Zl,Zl,Zl,Zl,Zl,Zl] 31 (0,0))∧J.heap[r]? =some (.cells #[.string Cp,.string fm,Zi,Zi,Zs,Zl,Zl,Zl,iC,sln,Zl,Zl] 31 (0,0))∧TT J (fun c=>c=y∨c=r) w.heap.size H ns sln ks iC ar∧H≤J.heap.size) aZ J) (fun(A,_)=>A) ((A,an,v,[],I,[],q,[],Zl,Zl,[],aE,a,kU,bE)) Au ?_ ?_ ?_ ?_
 ·exact⟨rfl,rfl,rfl,rfl⟩
 ·exact rfl
 ·exact⟨p.g,a8,a9,rfl,X,B,b,(Gb l),f,d,Ac⟩
 clear p m l aq f d aY a8 a9 b X B
 rintro bb ⟨A,aj,v,o,I,ns,ak,ks,sln,iC,ar,H,a,aF,aH⟩ bZ ca ⟨p,bc,P,Z,X,B,b,l,f,d,cb⟩
 have aU:=hC b
 have aV:=hC l
 have aX:=hC f
 have aA:ns.length+I.length+1≤1048576:=by have:=aA;rw[←P]at this;simp only[Tl,To]at this;omega
 have aB:ks.length+ak.length≤1048576:=by rw[←Tl,Z];exact aB
 have cc:o.length+v.length≤1048576:=by have:=ap (ba (o++v)) (by rw[←P];simp);rw[lZ,Tl]at this;exact this
 refine ac 1 ?_
 cases bc with
 |fin=>
  obtain⟨G,O,K⟩:=jg B
  have av:s[a].toNat=34:=by rw[O];rfl
  refine ac 1<|dF fun cd bd ce z=>have cf:=bd.size;aK [0,1,2]<|kL 3 (Gb b) rfl rfl rfl<|aK [4,5,6,7,8]<|kL 9 (Gb b) rfl rfl rfl<|aK [10,11,12]<|kL 13 (Gb b) rfl rfl rfl<|aK [14]<|kT 15 rfl (fun g j=>Y.xz (c:=true) rfl rfl (Th Ac))<|aK [16,17,18,19,20]<|kL 21 (Gb b) rfl rfl rfl<|aK [22,23,24]<|kL 25 (Gb b) rfl rfl rfl<|kT 26 rfl (fun g j=>Y.jb (i:=a) Tryz.underlying9 rfl rfl rfl G)<|kT 27 rfl (fun g j=>Y.yL (c:=false) rfl rfl (Ti Ac))<|aK [28]<|kD<|ac 2<|ac 2<|dF fun cg be ch z=>have ci:=be.size;aK [0,1,2]<|kL 3 (Gb b) rfl rfl rfl<|aK [4,5,6]<|kL 7 (Gb b) rfl rfl rfl<|aK [8]<|kT 9 rfl (fun g j=>Y.Le (c:=false) rfl rfl (Ti Ac))<|kD<|ac 7<|lD (Gb b) rfl rfl<|ai ((a+1:Nat):Int) rfl rfl<|au 2<|sc (Gb b) rfl rfl rfl rfl ?_
  intro cj ck cl b
  refine au 4<|cX (mn (a:=a+1) b Ac hs) ?_
  rintro _ cm cn co ⟨rfl,m⟩
  rw[K]at m
  refine au 4<|lD (Gb f) rfl rfl<|au 1<|DL.iu (cs:=#[.string (ba o)]) rfl rfl (F.lT) rfl rfl rfl fun cp cq aw cr bf bg=>have aw:=Sp.mk aw;have ct:=aw.size;DL.hJ (news:=#[.string (ba o)]) rfl rfl F.lT rfl rfl d.g.n.own (hB.hE bg) rfl AQ Ae Ae Ac ?_
  intro ax bh Q aa ab
  have M:=d.g.n.lo';have C:=fun u (hb:((fun c=>c=y∨c=r)) u)=>d.g.n.nx (Ts hb);have hL:=fun u=>d.g.n.lt (b:=u)
  have d:=d.g.yk Ac As Q aa ab
  have p:=p.g.put Q (fun x hx=>Tk (M x hx))
  have l:=Q.hO (Gb l) (C _ As)
  have f:=Q.hO (Gb f) (C _ As)
  have m:=m.g.fr Q (hL _ Ac)
  have bf:=Tj Ac Q.size
  clear M C hL
  obtain⟨cu,bi,cv⟩:=nl bh
  rw[←bi]at d
  refine au 1<|sc f rfl rfl d.n.one rfl fun ad cw cx f=>have f:ad.heap[r]? =some (.cells #[.string Cp,.string fm,Zi,Zi,Zs,Zl,Zl,Zl,iC,ax,Zl,Zl] 31 (0,0)):=f;au 4 ?_
  obtain⟨aI,aJ,rfl⟩:=d.g.Kg
  obtain rfl:q=ks:=by simpa using Z.symm
  have R:ns++[ba o]=na:=by simpa using P
  refine au 1<|lD f rfl rfl<|au 1<|jE rfl rfl (fun bj=>?_) (fun bj=>?_)
  ·refine au 2<|jS rfl rfl (fun ay=>?_) (fun ay=>?_)
   ·refine au 6<|cX (rM _ _) ?_
    rintro _ cy cz c0 rfl
    refine cX (l6 _ _ _ _ _ _ Au _) ?_
    rintro _ aL c1 c2 rfl
    obtain⟨bk,c3,c4⟩:=nl aL
    have am:=RN.leaf (w:=aL) (D:=(DV [y,r] w.heap.size bk)) (k:=4) (h:=0) (t:=(ba o)) Ah Ah (by rw[lZ];omega)
    refine sA (cs:=#[.string Cr,Zs,.int .i64 4,Zi,.string (ba o),Zl,Zl,Zl,Zl,Zl,Zl,Zl]) (Gb l) rfl rfl rfl am.hA am.one fun c5 c6 c7 az=>have l:=az;au 2 ?_
    have h0:q=[]:=Tn Ac
    have ae:xy fm na q=jk (ba o):=by
     rw[xy,TU ⟨by rw[h0];rfl,ay⟩,←R,show ns=[]from by have:=aT;rw[←R,h0]at this;simp only[Tl,To,Tw]at this;exact Tn Ac];rfl
    rw[ae]
    exact hD.hZ rfl (by rw[am.hA];exact F.hN) (hB.hE l) (hH.mk p.g ⟨_,rfl,m.g,am.g.up oX⟩)
   refine au 6 ?_
   obtain⟨a0,bl,bm⟩:=nl ad
   have E:=RN.nJ (w:=ad) (D:=(DV [y,r] w.heap.size a0)) (op:=Cp) (text:=fm) Ap Ap ((d.g.NY Ae).mono Av) ((d.g.PA Ae (fun x hx=>Tq (ap x (R▸hx)) Ah)).mono Av) Rw.nil Rw.nil
   refine lw f rfl E.hA<|sA (cs:=#[.string Cp,.string fm,Zi,Zi,Zs,Zl,Zl,Zl,.slice aI q.length aJ,ax,Zl,Zl]) (Gb l) rfl rfl rfl E.hA E.one fun c8 c9 cA az=>have l:=az;au 2 ?_
   have ae:xy fm na q=.mk Cp fm V0 (ns++[ba o]) q [] []:=by rw[xy,TI (by rintro⟨h1,h2⟩;exact ay h2),R]
   rw[ae]
   exact hD.hZ rfl (by rw[E.hA];exact F.hN) (hB.hE l) (hH.mk p.g ⟨_,rfl,m.g,E.g.up oX⟩)
  refine au 9 ?_
  obtain⟨a0,bl,bm⟩:=nl ad
  have E:=RN.nJ (w:=ad) (D:=(DV [y,r] w.heap.size a0)) (op:=Cp) (text:=fm) Ap Ap ((d.g.NY Ae).mono Av) ((d.g.PA Ae (fun x hx=>Tq (ap x (R▸hx)) Ah)).mono Av) Rw.nil Rw.nil
  refine lw f rfl E.hA<|sA (cs:=#[.string Cp,.string fm,Zi,Zi,Zs,Zl,Zl,Zl,.slice aI q.length aJ,ax,Zl,Zl]) (Gb l) rfl rfl rfl E.hA E.one fun cB cC cD l=>au 2 ?_
  have ae:xy fm na q=.mk Cp fm V0 (ns++[ba o]) q [] []:=by rw[xy,TI (by rintro⟨h1,h2⟩;omega),R]
  rw[ae]
  exact hD.hZ rfl (by rw[E.hA];exact F.hN) (hB.hE l) (hH.mk p.g ⟨_,rfl,m.g,E.g.up oX⟩)
 | @Qc A c a1 v aM aN aO hc af=>
  obtain⟨G,O,K⟩:=jg B
  have aP:s.extract (((a+1:Nat):Int) - 1).toNat (((a+1:Nat):Int).toNat)=⟨#[c]⟩:=by rw[show(((a+1:Nat):Int) - 1).toNat=a by omega];exact HG B
  have cE:=wa hc
  have av:s[a].toNat=c.toNat:=by rw[O]
  refine ac 1<|dF fun cF bn cG z=>have cH:=bn.size;aK [0,1,2]<|kL 3 (Gb b) rfl rfl rfl<|aK [4,5,6,7,8]<|kL 9 (Gb b) rfl rfl rfl<|aK [10,11,12]<|kL 13 (Gb b) rfl rfl rfl<|aK [14]<|kT 15 rfl (fun g j=>Y.xz (c:=true) rfl rfl (Th Ac))<|aK [16,17,18,19,20]<|kL 21 (Gb b) rfl rfl rfl<|aK [22,23,24]<|kL 25 (Gb b) rfl rfl rfl<|kT 26 rfl (fun g j=>Y.jb (i:=a) Tryz.underlying9 rfl rfl rfl G)<|kT 27 rfl (fun g j=>Y.yL (c:=true) rfl rfl (Th Ac))<|aK [28]<|kD<|ac 4<|dF fun cI bo cJ z=>have cK:=bo.size;aK [0,1,2]<|kL 3 (Gb b) rfl rfl rfl<|aK [4,5,6]<|kL 7 (Gb b) rfl rfl rfl<|kT 8 rfl (fun g j=>Y.jb (i:=a) Tryz.underlying9 rfl rfl rfl G)<|aK [9]<|kD<|ac 5<|lD (Gb b) rfl rfl<|ai ((a+1:Nat):Int) rfl rfl<|au 2<|sc (Gb b) rfl rfl rfl rfl ?_
  intro cL cM cN ag
  have b:=ag
  exact au 5<|DL.y rfl rfl (Y.xz (c:=false) rfl rfl (Ti Ac))<|au 6<|DL.y rfl rfl (Y.yL (c:=true) rfl rfl (Th Ac))<|au 3<|dF fun cO bp cP z=>have cQ:=bp.size;aK [0,1,2,3]<|kL 4 (Gb b) rfl rfl rfl<|aK [5,6,7]<|kL 8 (Gb b) rfl rfl rfl<|kT 9 rfl (fun g j=>Y.n8 (c:=((a+1:Nat):Int) - 1) rfl rfl Ac Ac Ac)<|aK [10,11,12]<|kL 13 (Gb b) rfl rfl rfl<|kT 14 rfl (fun g j=>Y.nh Tryz.underlying9 rfl rfl rfl Ac Ac Ac)<|kT 15 rfl (fun g j=>Y.Md (c:=ba (o++[c])) rfl rfl (by rw[lZ,aP];show _+1≤_;omega) (by rw[aP];exact xv _ _))<|aK [16]<|kD ⟨(_,_,_,o++[c],_,_,_,_,_,_,_,_,_,_,_),⟨p.g,af,by rw[←P,Ty];rfl,Z,Ac,K,(Gb b),(Gb l),(Gb f),d.g,Ac⟩,TY _,rfl⟩
 | @PJ A c a1 v aM aN aO hc af=>
  obtain⟨bq,cR,aQ,cS⟩:=zn hc
  have cT:=B
  rw[aQ]at B
  obtain⟨G,O,K⟩:=jg B
  have br:s.data.toList.drop (a+1)=(kK c).tail++a1:=by rw[aQ];exact K
  obtain⟨a2,a3, -⟩:=jg K
  have av:s[a].toNat=92:=by rw[O];rfl
  have bs:s[a+1].toNat=bq.toNat:=by rw[a3]
  refine ac 1<|dF fun cU bt cV z=>have cW:=bt.size;aK [0,1,2]<|kL 3 (Gb b) rfl rfl rfl<|aK [4,5,6,7,8]<|kL 9 (Gb b) rfl rfl rfl<|aK [10,11,12]<|kL 13 (Gb b) rfl rfl rfl<|aK [14]<|kT 15 rfl (fun g j=>Y.xz (c:=true) rfl rfl (Th Ac))<|aK [16,17,18,19,20]<|kL 21 (Gb b) rfl rfl rfl<|aK [22,23,24]<|kL 25 (Gb b) rfl rfl rfl<|kT 26 rfl (fun g j=>Y.jb (i:=a) Tryz.underlying9 rfl rfl rfl G)<|kT 27 rfl (fun g j=>Y.yL (c:=true) rfl rfl (Th Ac))<|aK [28]<|kD<|ac 4<|dF fun cZ bu da z=>have db:=bu.size;aK [0,1,2]<|kL 3 (Gb b) rfl rfl rfl<|aK [4,5,6]<|kL 7 (Gb b) rfl rfl rfl<|kT 8 rfl (fun g j=>Y.jb (i:=a) Tryz.underlying9 rfl rfl rfl G)<|aK [9]<|kD<|ac 5<|lD (Gb b) rfl rfl<|ai ((a+1:Nat):Int) rfl rfl<|au 2<|sc (Gb b) rfl rfl rfl rfl ?_
  intro dc dd de ag
  have b:=ag
  refine au 5<|DL.y rfl rfl (Y.xz (c:=false) rfl rfl (Ti Ac))<|au 6<|DL.y rfl rfl (Y.yL (c:=false) rfl rfl (Ti Ac))<|au 4<|dF fun df bv dg z=>have dh:=bv.size;aK [0,1,2]<|kL 3 (Gb b) rfl rfl rfl<|aK [4,5,6]<|kL 7 (Gb b) rfl rfl rfl<|aK [8]<|kT 9 rfl (fun g j=>Y.xz (c:=true) rfl rfl (Th Ac))<|aK [10,11,12]<|aK [13]<|kL 14 (Gb b) rfl rfl rfl<|aK [15,16,17]<|kL 18 (Gb b) rfl rfl rfl<|kT 19 rfl (fun g j=>Y.jb (i:=a+1) Tryz.underlying9 rfl rfl rfl a2)<|kT 20 rfl (fun g j=>Y.E1 (c:=false) rfl rfl (Ti Ac))<|aK [21,22]<|kD<|ac 4<|cX (F5 (a:=a+1) (Gb b) hc br hs) ?_
  rintro _ di dj dk ⟨rfl,dl,bw,a4,b⟩
  exact DL.y rfl rfl (Y.Md (c:=ba (o++[c])) rfl rfl (by rw[lZ];show _+1≤_;omega) (xv _ _))<|au 2 ⟨(_,_,_,o++[c],_,_,_,_,_,_,_,_,_,_,_),⟨p.g,af,by rw[←P,Ty];rfl,Z,bw,a4,b,(Gb l),(Gb f),d.g,Ac⟩,TY _,rfl⟩
 | @int A dm dn a1 v aM aN aO dp h e af=>
  obtain⟨G,O,K⟩:=jg B
  obtain⟨a2,a3,a4⟩:=jg K
  have av:s[a].toNat=92:=by rw[O];rfl
  have bs:s[a+1].toNat=40:=by rw[a3];rfl
  refine ac 1<|dF fun dq bx dr z=>have ds:=bx.size;aK [0,1,2]<|kL 3 (Gb b) rfl rfl rfl<|aK [4,5,6,7,8]<|kL 9 (Gb b) rfl rfl rfl<|aK [10,11,12]<|kL 13 (Gb b) rfl rfl rfl<|aK [14]<|kT 15 rfl (fun g j=>Y.xz (c:=true) rfl rfl (Th Ac))<|aK [16,17,18,19,20]<|kL 21 (Gb b) rfl rfl rfl<|aK [22,23,24]<|kL 25 (Gb b) rfl rfl rfl<|kT 26 rfl (fun g j=>Y.jb (i:=a) Tryz.underlying9 rfl rfl rfl G)<|kT 27 rfl (fun g j=>Y.yL (c:=true) rfl rfl (Th Ac))<|aK [28]<|kD<|ac 4<|dF fun dt bz du z=>have dv:=bz.size;aK [0,1,2]<|kL 3 (Gb b) rfl rfl rfl<|aK [4,5,6]<|kL 7 (Gb b) rfl rfl rfl<|kT 8 rfl (fun g j=>Y.jb (i:=a) Tryz.underlying9 rfl rfl rfl G)<|aK [9]<|kD<|ac 5<|lD (Gb b) rfl rfl<|ai ((a+1:Nat):Int) rfl rfl<|au 2<|sc (Gb b) rfl rfl rfl rfl ?_
  intro dw dx dy ag
  have b:=ag
  refine au 5<|DL.y rfl rfl (Y.xz (c:=false) rfl rfl (Ti Ac))<|au 6<|DL.y rfl rfl (Y.yL (c:=false) rfl rfl (Ti Ac))<|au 4<|dF fun dz b0 d0 z=>have d1:=b0.size;aK [0,1,2]<|kL 3 (Gb b) rfl rfl rfl<|aK [4,5,6]<|kL 7 (Gb b) rfl rfl rfl<|aK [8]<|kT 9 rfl (fun g j=>Y.xz (c:=true) rfl rfl (Th Ac))<|aK [10,11,12]<|aK [13]<|kL 14 (Gb b) rfl rfl rfl<|aK [15,16,17]<|kL 18 (Gb b) rfl rfl rfl<|kT 19 rfl (fun g j=>Y.jb (i:=a+1) Tryz.underlying9 rfl rfl rfl a2)<|kT 20 rfl (fun g j=>Y.E1 (c:=true) rfl rfl (Th Ac))<|aK [21,22]<|kD<|ac 6<|lD (Gb b) rfl rfl<|ai ((a+2:Nat):Int) rfl rfl<|au 2<|sc (Gb b) rfl rfl rfl rfl fun d2 d4 d5 b=>au 4<|cX (mn (a:=a+2) b Ac hs) ?_
  rintro _ d6 d7 d8 ⟨rfl,m⟩
  rw[a4]at m
  refine au 4<|lD (Gb f) rfl rfl<|au 1<|DL.iu (cs:=#[.string (ba o)]) rfl rfl (F.lT) rfl rfl rfl fun d9 dA a5 dB b1 b2=>have a5:=Sp.mk a5;have dC:=a5.size;DL.hJ (news:=#[.string (ba o)]) rfl rfl F.lT rfl rfl d.g.n.own (hB.hE b2) rfl AQ Ae Ae Ac ?_
  intro aR b3 T aa ab
  have M:=d.g.n.lo';have C:=fun u (hb:((fun c=>c=y∨c=r)) u)=>d.g.n.nx (Ts hb);have hL:=fun u=>d.g.n.lt (b:=u)
  have d:=d.g.yk Ac As T aa ab
  have p:=p.g.put T (fun x hx=>Tk (M x hx))
  have l:=T.hO (Gb l) (C _ As)
  have f:=T.hO (Gb f) (C _ As)
  have m:=m.g.fr T (hL _ Ac)
  have b1:=Tj Ac T.size
  clear M C hL
  obtain⟨dD,b4,dE⟩:=nl b3
  rw[←b4]at d
  refine au 1<|sc f rfl rfl d.n.one rfl fun b5 dG dH b6=>have f:=b6;have f:b5.heap[r]? =some (.cells #[.string Cp,.string fm,Zi,Zi,Zs,Zl,Zl,Zl,iC,aR,Zl,Zl] 31 (0,0)):=f;au 2<|DC.forget [(0,Pt W),(1,.string fm),(4,Pt y),(5,Pt r),(6,Zs)] ⟨rfl,rfl,rfl,rfl,rfl⟩ (fun bb=>?_)
  refine ac 1<|dR [W] 5 fun b7 b8 dI z=>have dJ:=b8.size;aG [0]<|gM 1 (Gb f) rfl rfl rfl<|aG [2]<|gp 3 ?_
  obtain⟨b9,a6⟩:=nm b7
  have dK:=p.g.le a6
  refine cX (h _ _ _ hs m.g) ?_
  rintro _ bA bB dL ⟨bC,rfl,m,ah⟩
  obtain⟨bF,aS,dM⟩:=nl bA
  rw[←a6,←aS]at ah
  have dN:=bB.l2 a6 aS
  have ah:=ah.up (D':=(DV [y,r] b9 bF)) Ad
  refine gn z.g<|gp 4<|bN (css:=[bC]) F.ic rfl rfl Ag fun dO dP dQ dS bG bH=>gn z.g<|gp 5<|DL.hJ rfl rfl F.ic rfl rfl d.g.k.own (hB.hE bH) (hW (sz:=12) (m:=1) Ag rfl) (hM Aq) Ae Ae Ac ?_
  intro bI bJ U aa ab
  have M:=d.g.k.lo';have C:=fun u (hb:((fun c=>c=y∨c=r)) u)=>d.g.k.nx (Ts hb);have hL:=fun u=>d.g.k.lt (b:=u)
  have d:=d.g.D7 Ac As ah.hA (ah.g.up Ai) U aa ab
  have p:=p.g.put U (fun x hx=>Tk (M x hx))
  have l:=U.hO (Gb l) (C _ As)
  have f:=U.hO (Gb f) (C _ As)
  have m:=m.g.fr U (hL _ Ac)
  have bG:=Tj Ac U.size
  clear M C hL
  obtain⟨dT,bK,dU⟩:=nl bJ
  rw[←bK]at d
  refine gl<|aG [6]<|gp 7<|sc f rfl rfl d.k.one rfl fun bL dV dW f=>have f:bL.heap[r]? =some (.cells #[.string Cp,.string fm,Zi,Zi,Zs,Zl,Zl,Zl,bI,aR,Zl,Zl] 31 (0,0)):=f;gl<|gD<|ac 5 ?_
  obtain⟨a,X,B,b⟩:=m.g.ob e
  exact lD b rfl rfl<|au 5<|lD b rfl rfl<|au 7<|lD b rfl rfl<|au 4<|DL.vy (cs':=(pG s a jU C9)) rfl F.Ov F.Ps rfl rfl rfl b (TM rfl) rfl fun dX a7 dY b=>have a7:=Sp.mk a7;have dZ:=a7.size;au 1 ⟨(_,_,_,[],_,_,_,_,_,_,_,_,_,_,_),⟨p.g,af,by rw[←P];simp only[Ty,T3,TH,TN],by rw[←Z];simp only[Ty,TH,TN],X,B,b,(Gb l),(Gb f),d.g,Ac⟩,TY _,rfl⟩
end Go.Proofs.YtlojelcoibpphaaGreatDoor
