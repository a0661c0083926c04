/- FnQueryText, second form: own texts, joined and made short by a program (part 5): for every argument of bulk at most 1048576 the law answers true. -/
import Derived.Test.YtlojelcoibpphaaGreatDoorMx01
import Derived.Test.YtlojelcoibpphaaGreatDoorMx03
import Derived.Test.YtlojelcoibpphaaGreatDoorMx02
import Derived.Test.YtlojelcoibpphaaGreatDoorMx04
import Derived.Laws.CopyRow
set_option maxRecDepth 100000
set_option maxHeartbeats 2000000
set_option linter.unusedVariables false
set_option linter.unusedSimpArgs false
set_option linter.unusedSectionVars false
set_option linter.defProp false
namespace Go.Proofs.YtlojelcoibpphaaGreatDoor
open Go Go.RowKit D Go.Deep Go.Proofs
variable{L M:List UInt8}{m k nA nB:Nat}{w W wA:World}{D:Nat→Prop}{c:Array Value}{lJ lK:List (List UInt8)}{gA:List G}{gH:G}{lN:List (Bool×List UInt8)}
theorem so{s:ByteArray}(h:s≠⟨#[]⟩):s.data.toList≠[]:=by
 intro e
 apply h
 obtain⟨⟨x⟩⟩:=s
 simp at e
 subst e
 rfl
theorem iD{r:List Fd}{gs:List G}(J:∀s∈lN,s.2≠[])(af:gs.length=lN.length)(t:∀(i:Nat)(h1:i<gs.length)(h2:i<lN.length),WG w D (cond lN[i].1 20 11) gs[i] lN[i].2)(K:r.length=16){h:List UInt8}(M:h≠[])(O:HR w D (.mk (r++[.l gs])) c)(u:D m)(P:w.heap[m]? =some (.cells c k (0,0)))(d:Kp D w W)(l:w.heap.size≤W.heap.size)(p:∀v,D v→v<nA)(y:2≤nA)(f:ij W)(b:Bf W nA nB (L++h))
  (hlen:L.length+(lN.foldl ib h).length≤17592186044416) (q:Fr (rg nA wA) wA W) {e:Env} (Q:e 0=Pt m) (R:e 1=Pt nB):DC Tryz.prog 182 (sub [1] (J3 Tryz.f77)) e W (jr Tryz.prog 182 [] (hD Tryz.prog [] (hH wA (rg nA wA) fun _ S=>Bf S nA nB (L++lN.foldl ib h)))):=by
 have T:=d.hO P u
 have ag:=p m u
 have ah:=pC lN h J
 obtain⟨U,X,Y,Z⟩:=O.l 16 (gs:=gs) (by rw[Uy Ac,K];rfl)
 refine DC.forget [(0,Pt m),(1,Pt nB)] ⟨Q,R⟩ (fun aa=>?_)
 refine ac 2<|mf 16 T Y rfl<|au 4<|DC.jC (σ:=Nat) [(5,5),(174,181)] [(0,Pt m),(1,Pt nB),(172,.slice U gs.length X),(173,.int .i64 (gs.length:Int))] (fun i=>[(174,.int .i64 (i:Int))]) (fun i g=>Fr (rg nA W) W g∧i≤gs.length∧Bf g nA nB (L++(lN.take i).foldl ib h)∧Kp D w g∧w.heap.size≤g.heap.size∧ij g) (fun i=>gs.length - i) 0 rfl ?_ ?_ ?_ ?_
 ·exact⟨rfl,rfl,rfl,rfl⟩
 ·exact rfl
 ·exact⟨Fr.refl _ _,TE _,b.cast Al,d,l,f⟩
 rintro aa i aj ak ⟨z,al,b,d,l,f⟩
 have q:=FB.tr q z
 have A:=z
 refine ac 2<|jX rfl rfl (fun ab=>?_) (fun ab=>?_)
 ·have hi:i<gs.length:=by omega
  obtain⟨am,an,B,ao,ap,rfl,ad,o,C,E,H⟩:=Z.kH hi
  have o:=d.cell o ad
  have hit:i<lN.length:=by omega
  have hge:=uW lN h i hit
  have I:=uw (lN.take i) M
  cases hsb:lN[i].1
  ·have j:=t i hi hit
   rw[hsb]at j hge
   exact au 8<|iX F.Iu hi rfl rfl rfl<|lC o rfl<|au 5<|cX (j _ H B _ C E _ nA nB _ d l p y f b (by rw[Tl];have:=hge.1;omega)) fun _ aq ar av b=>au 2<|ai ((i+1:Nat):Int) rfl rfl<|au 2 ⟨i+1,⟨A.g,hi,b.cast (by rw[pz hit];unfold ib;rw[hsb];simp),d.g,Ac,f.g⟩,by show gs.length - (i+1)<gs.length - i;omega,rfl⟩
  have j:=t i hi hit
  rw[hsb]at j hge
  have ae:(ib (L++(lN.take i).foldl ib h) (true,lN[i].2)).length≤17592186044416:=by
   rw[ua _ I,Tl,show((true,lN[i].2):Bool×List UInt8)=lN[i]from Prod.ext hsb.symm rfl,←pz hit]
   have:=ir (lN.drop (i+1)) ((lN.take (i+1)).foldl ib h)
   rw[←VV,UM]at this
   omega
  exact au 8<|iX F.Iu hi rfl rfl rfl<|lC o rfl<|au 5<|cX (j _ H B _ C E _ nA nB _ d l p y f b ae) fun _ aw ax ay b=>au 2<|ai ((i+1:Nat):Int) rfl rfl<|au 2 ⟨i+1,⟨A.g,hi,b.cast (by rw[pz hit,ua _ I];exact TR (fun s=>L++ib _ s) (Prod.ext hsb.symm rfl)),d.g,Ac,f.g⟩,by show gs.length - (i+1)<gs.length - i;omega,rfl⟩
 obtain rfl:i=gs.length:=by omega
 rw[TK Ac]at b
 exact au 4<|rE q b
theorem Nf(l:∀s∈lN,s.2≠[])(m:gA.length=lN.length)(o:∀(i:Nat)(h1:i<gA.length)(h2:i<lN.length),WG w D (cond lN[i].1 20 11) gA[i] lN[i].2):WG w D 1 (.mk ([.v (.int .i64 1),.v Zp,.v Zp,.v Zp,.v Zp,.v Zs,.v Zp,.v Zs,.v Zp,.v Zp,.v Zp,.v Zp,.v Zp,.v Zp,.v Zs,.v Zp]++[.l gA])) (lN.foldl ib ([46])):=by
 intro v f p y b g z A B C j E k q r d hlen hnd
 have t:=j.hO g b
 have F:=k p b
 have h0:=f.v 0 rfl
 have hfl:=ir lN ([46])
 exact cY Tryz.func77 fun u=>ac 3<|mf 0 t h0 rfl<|au 10<|cX (WB (c:=46) d rfl Ak) fun _ H I J d=>au 1<|iD l m o rfl Al f b g j.g Ac k q r.g (d.cast Al) hlen u.g rfl rfl
theorem K4(k:∀s∈lN,s.2≠[])(l:gA.length=lN.length)(m:∀(i:Nat)(h1:i<gA.length)(h2:i<lN.length),WG w D (cond lN[i].1 20 11) gA[i] lN[i].2):WG w D 1 (.mk ([.v (.int .i64 2),.v Zp,.v Zp,.v Zp,.v Zp,.v Zs,.v Zp,.v Zs,.v Zp,.v Zp,.v Zp,.v Zp,.v Zp,.v Zp,.v Zs,.v Zp]++[.l gA])) (lN.foldl ib ([46,46])):=by
 intro u d o v b f y z A B g C j p q c hlen hnd
 have r:=g.hO f b
 have E:=j o b
 have h0:=d.v 0 rfl
 have hfl:=ir lN ([46,46])
 exact cY Tryz.func77 fun t=>ac 3<|mf 0 r h0 rfl<|au 16<|cX (kG [46,46] rfl c Ak) fun _ F H I c=>au 1<|iD k l m rfl Al d b f g.g Ac j p q.g (c.cast Al) hlen t.g rfl rfl
theorem Gj(k:∀s∈lN,s.2≠[])(l:gA.length=lN.length)(m:∀(i:Nat)(h1:i<gA.length)(h2:i<lN.length),WG w D (cond lN[i].1 20 11) gA[i] lN[i].2):WG w D 1 (.mk ([.v (.int .i64 3),.v Zp,.v Zp,.v Zp,.v Zp,.v Zs,.v Zp,.v Zs,.v Zp,.v Zp,.v Zp,.v Zp,.v Zp,.v Zp,.v Zs,.v Zp]++[.l gA])) (lN.foldl ib ([110,117,108,108])):=by
 intro u d o v b f y z A B g C j p q c hlen hnd
 have r:=g.hO f b
 have E:=j o b
 have h0:=d.v 0 rfl
 have hfl:=ir lN ([110,117,108,108])
 exact cY Tryz.func77 fun t=>ac 3<|mf 0 r h0 rfl<|au 22<|cX (kG [110,117,108,108] rfl c Ak) fun _ F H I c=>au 1<|iD k l m rfl Al d b f g.g Ac j p q.g (c.cast Al) hlen t.g rfl rfl
theorem GD(k:∀s∈lN,s.2≠[])(l:gA.length=lN.length)(m:∀(i:Nat)(h1:i<gA.length)(h2:i<lN.length),WG w D (cond lN[i].1 20 11) gA[i] lN[i].2):WG w D 1 (.mk ([.v (.int .i64 4),.v Zp,.v Zp,.v Zp,.v Zp,.v Zs,.v Zp,.v Zs,.v Zp,.v Zp,.v Zp,.v Zp,.v Zp,.v Zp,.v Zs,.v Zp]++[.l gA])) (lN.foldl ib ([116,114,117,101])):=by
 intro u d o v b f y z A B g C j p q c hlen hnd
 have r:=g.hO f b
 have E:=j o b
 have h0:=d.v 0 rfl
 have hfl:=ir lN ([116,114,117,101])
 exact cY Tryz.func77 fun t=>ac 3<|mf 0 r h0 rfl<|au 28<|cX (kG [116,114,117,101] rfl c Ak) fun _ F H I c=>au 1<|iD k l m rfl Al d b f g.g Ac j p q.g (c.cast Al) hlen t.g rfl rfl
theorem DZ(k:∀s∈lN,s.2≠[])(l:gA.length=lN.length)(m:∀(i:Nat)(h1:i<gA.length)(h2:i<lN.length),WG w D (cond lN[i].1 20 11) gA[i] lN[i].2):WG w D 1 (.mk ([.v (.int .i64 5),.v Zp,.v Zp,.v Zp,.v Zp,.v Zs,.v Zp,.v Zs,.v Zp,.v Zp,.v Zp,.v Zp,.v Zp,.v Zp,.v Zs,.v Zp]++[.l gA])) (lN.foldl ib ([102,97,108,115,101])):=by
 intro u d o v b f y z A B g C j p q c hlen hnd
 have r:=g.hO f b
 have E:=j o b
 have h0:=d.v 0 rfl
 have hfl:=ir lN ([102,97,108,115,101])
 exact cY Tryz.func77 fun t=>ac 3<|mf 0 r h0 rfl<|au 34<|cX (kG [102,97,108,115,101] rfl c Ak) fun _ F H I c=>au 1<|iD k l m rfl Al d b f g.g Ac j p q.g (c.cast Al) hlen t.g rfl rfl
theorem Lv{x:G}(o:∀s∈lN,s.2≠[])(p:gA.length=lN.length)(q:∀(i:Nat)(h1:i<gA.length)(h2:i<lN.length),WG w D (cond lN[i].1 20 11) gA[i] lN[i].2)(r:L≠[])(t:WG w D 21 x L):WG w D 1 (.mk ([.v (.int .i64 6),.p x,.v Zp,.v Zp,.v Zp,.v Zs,.v Zp,.v Zs,.v Zp,.v Zp,.v Zp,.v Zp,.v Zp,.v Zp,.v Zs,.v Zp]++[.l gA])) (lN.foldl ib (L)):=by
 intro J b u K c j M v y O d z f k l g hlen hnd
 have m:=d.hO j c
 have P:=f u c
 have h0:=b.v 0 rfl
 obtain⟨A,B,C,h1,E,F,H⟩:=b.p 1 rfl
 have hfl:=ir lN (L)
 exact cY Tryz.func77 fun I=>ac 3<|mf 0 m h0 rfl<|au 39<|mf 1 m h1 rfl<|au 1<|cX (t C H A B E F _ v y _ d z f k l g Ak Ao) fun _ Q R S g=>au 1<|iD o p q rfl r b c j d.g Ac f k l.g (g.cast Al) hlen I.g rfl rfl
theorem Lr{x:G}(o:∀s∈lN,s.2≠[])(p:gA.length=lN.length)(q:∀(i:Nat)(h1:i<gA.length)(h2:i<lN.length),WG w D (cond lN[i].1 20 11) gA[i] lN[i].2)(r:L≠[])(t:WG w D 6 x L):WG w D 1 (.mk ([.v (.int .i64 7),.v Zp,.p x,.v Zp,.v Zp,.v Zs,.v Zp,.v Zs,.v Zp,.v Zp,.v Zp,.v Zp,.v Zp,.v Zp,.v Zs,.v Zp]++[.l gA])) (lN.foldl ib (L)):=by
 intro J b u K c j M v y O d z f k l g hlen hnd
 have m:=d.hO j c
 have P:=f u c
 have h0:=b.v 0 rfl
 obtain⟨A,B,C,h2,E,F,H⟩:=b.p 2 rfl
 have hfl:=ir lN (L)
 exact cY Tryz.func77 fun I=>ac 3<|mf 0 m h0 rfl<|au 40<|au 5<|mf 2 m h2 rfl<|au 1<|cX (t C H A B E F _ v y _ d z f k l g Ak Ao) fun _ Q R S g=>au 1<|iD o p q rfl r b c j d.g Ac f k l.g (g.cast Al) hlen I.g rfl rfl
theorem Nd{x:G}(o:∀s∈lN,s.2≠[])(p:gA.length=lN.length)(q:∀(i:Nat)(h1:i<gA.length)(h2:i<lN.length),WG w D (cond lN[i].1 20 11) gA[i] lN[i].2)(r:L≠[])(t:WG w D 8 x L):WG w D 1 (.mk ([.v (.int .i64 8),.v Zp,.v Zp,.p x,.v Zp,.v Zs,.v Zp,.v Zs,.v Zp,.v Zp,.v Zp,.v Zp,.v Zp,.v Zp,.v Zs,.v Zp]++[.l gA])) (lN.foldl ib (L)):=by
 intro K b u M c j O v y P d z f k l g hlen hnd
 have m:=d.hO j c
 have Q:=f u c
 have h0:=b.v 0 rfl
 obtain⟨A,B,C,E,F,H,I⟩:=b.p 3 rfl
 have hfl:=ir lN (L)
 exact cY Tryz.func77 fun J=>ac 3<|mf 0 m h0 rfl<|au 40<|au 11<|mf 3 m E rfl<|au 1<|cX (t C I A B F H _ v y _ d z f k l g Ak Ao) fun _ R S T g=>au 1<|iD o p q rfl r b c j d.g Ac f k l.g (g.cast Al) hlen J.g rfl rfl
theorem Nt{x:G}(o:∀s∈lN,s.2≠[])(p:gA.length=lN.length)(q:∀(i:Nat)(h1:i<gA.length)(h2:i<lN.length),WG w D (cond lN[i].1 20 11) gA[i] lN[i].2)(r:L≠[])(t:WG w D 10 x L):WG w D 1 (.mk ([.v (.int .i64 9),.v Zp,.v Zp,.v Zp,.p x,.v Zs,.v Zp,.v Zs,.v Zp,.v Zp,.v Zp,.v Zp,.v Zp,.v Zp,.v Zs,.v Zp]++[.l gA])) (lN.foldl ib (L)):=by
 intro K b u M c j O v y P d z f k l g hlen hnd
 have m:=d.hO j c
 have Q:=f u c
 have h0:=b.v 0 rfl
 obtain⟨A,B,C,E,F,H,I⟩:=b.p 4 rfl
 have hfl:=ir lN (L)
 exact cY Tryz.func77 fun J=>ac 3<|mf 0 m h0 rfl<|au 40<|au 17<|mf 4 m E rfl<|au 1<|cX (t C I A B F H _ v y _ d z f k l g Ak Ao) fun _ R S T g=>au 1<|iD o p q rfl r b c j d.g Ac f k l.g (g.cast Al) hlen J.g rfl rfl
theorem LA{x:G}(o:∀s∈lN,s.2≠[])(p:gA.length=lN.length)(q:∀(i:Nat)(h1:i<gA.length)(h2:i<lN.length),WG w D (cond lN[i].1 20 11) gA[i] lN[i].2)(r:L≠[])(t:WG w D 18 x L):WG w D 1 (.mk ([.v (.int .i64 11),.v Zp,.v Zp,.v Zp,.v Zp,.v Zs,.p x,.v Zs,.v Zp,.v Zp,.v Zp,.v Zp,.v Zp,.v Zp,.v Zs,.v Zp]++[.l gA])) (lN.foldl ib (L)):=by
 intro K b u M c j O v y P d z f k l g hlen hnd
 have m:=d.hO j c
 have Q:=f u c
 have h0:=b.v 0 rfl
 obtain⟨A,B,C,E,F,H,I⟩:=b.p 6 rfl
 have hfl:=ir lN (L)
 exact cY Tryz.func77 fun J=>ac 3<|mf 0 m h0 rfl<|au 40<|au 25<|au 4<|mf 6 m E rfl<|au 1<|cX (t C I A B F H _ v y _ d z f k l g Ak Ao) fun _ R S T g=>au 1<|iD o p q rfl r b c j d.g Ac f k l.g (g.cast Al) hlen J.g rfl rfl
theorem Mh{x:G}(o:∀s∈lN,s.2≠[])(p:gA.length=lN.length)(q:∀(i:Nat)(h1:i<gA.length)(h2:i<lN.length),WG w D (cond lN[i].1 20 11) gA[i] lN[i].2)(r:L≠[])(t:WG w D 7 x L):WG w D 1 (.mk ([.v (.int .i64 13),.v Zp,.v Zp,.v Zp,.v Zp,.v Zs,.v Zp,.v Zs,.p x,.v Zp,.v Zp,.v Zp,.v Zp,.v Zp,.v Zs,.v Zp]++[.l gA])) (lN.foldl ib (L)):=by
 intro K b u M c j O v y P d z f k l g hlen hnd
 have m:=d.hO j c
 have Q:=f u c
 have h0:=b.v 0 rfl
 obtain⟨A,B,C,E,F,H,I⟩:=b.p 8 rfl
 have hfl:=ir lN (L)
 exact cY Tryz.func77 fun J=>ac 3<|mf 0 m h0 rfl<|au 40<|au 25<|au 16<|mf 8 m E rfl<|au 1<|cX (t C I A B F H _ v y _ d z f k l g Ak) fun _ R S T g=>au 1<|iD o p q rfl r b c j d.g Ac f k l.g (g.cast Al) hlen J.g rfl rfl
theorem Mc{x:G}(o:∀s∈lN,s.2≠[])(p:gA.length=lN.length)(q:∀(i:Nat)(h1:i<gA.length)(h2:i<lN.length),WG w D (cond lN[i].1 20 11) gA[i] lN[i].2)(r:L≠[])(t:WG w D 12 x L):WG w D 1 (.mk ([.v (.int .i64 14),.v Zp,.v Zp,.v Zp,.v Zp,.v Zs,.v Zp,.v Zs,.v Zp,.p x,.v Zp,.v Zp,.v Zp,.v Zp,.v Zs,.v Zp]++[.l gA])) (lN.foldl ib (L)):=by
 intro K b u M c j O v y P d z f k l g hlen hnd
 have m:=d.hO j c
 have Q:=f u c
 have h0:=b.v 0 rfl
 obtain⟨A,B,C,E,F,H,I⟩:=b.p 9 rfl
 have hfl:=ir lN (L)
 exact cY Tryz.func77 fun J=>ac 3<|mf 0 m h0 rfl<|au 40<|au 25<|au 22<|mf 9 m E rfl<|au 1<|cX (t C I A B F H _ v y _ d z f k l g Ak Ao) fun _ R S T g=>au 1<|iD o p q rfl r b c j d.g Ac f k l.g (g.cast Al) hlen J.g rfl rfl
theorem J7{x:G}(o:∀s∈lN,s.2≠[])(p:gA.length=lN.length)(q:∀(i:Nat)(h1:i<gA.length)(h2:i<lN.length),WG w D (cond lN[i].1 20 11) gA[i] lN[i].2)(r:L≠[])(t:WG w D 14 x L):WG w D 1 (.mk ([.v (.int .i64 15),.v Zp,.v Zp,.v Zp,.v Zp,.v Zs,.v Zp,.v Zs,.v Zp,.v Zp,.p x,.v Zp,.v Zp,.v Zp,.v Zs,.v Zp]++[.l gA])) (lN.foldl ib (L)):=by
 intro K b u M c j O v y P d z f k l g hlen hnd
 have m:=d.hO j c
 have Q:=f u c
 have h0:=b.v 0 rfl
 obtain⟨A,B,C,E,F,H,I⟩:=b.p 10 rfl
 have hfl:=ir lN (L)
 exact cY Tryz.func77 fun J=>ac 3<|mf 0 m h0 rfl<|au 40<|au 25<|au 28<|mf 10 m E rfl<|au 1<|cX (t C I A B F H _ v y _ d z f k l g Ak Ao) fun _ R S T g=>au 1<|iD o p q rfl r b c j d.g Ac f k l.g (g.cast Al) hlen J.g rfl rfl
theorem Jy{x:G}(o:∀s∈lN,s.2≠[])(p:gA.length=lN.length)(q:∀(i:Nat)(h1:i<gA.length)(h2:i<lN.length),WG w D (cond lN[i].1 20 11) gA[i] lN[i].2)(r:L≠[])(t:WG w D 15 x L):WG w D 1 (.mk ([.v (.int .i64 16),.v Zp,.v Zp,.v Zp,.v Zp,.v Zs,.v Zp,.v Zs,.v Zp,.v Zp,.v Zp,.p x,.v Zp,.v Zp,.v Zs,.v Zp]++[.l gA])) (lN.foldl ib (L)):=by
 intro K b u M c j O v y P d z f k l g hlen hnd
 have m:=d.hO j c
 have Q:=f u c
 have h0:=b.v 0 rfl
 obtain⟨A,B,C,E,F,H,I⟩:=b.p 11 rfl
 have hfl:=ir lN (L)
 exact cY Tryz.func77 fun J=>ac 3<|mf 0 m h0 rfl<|au 40<|au 25<|au 34<|mf 11 m E rfl<|au 1<|cX (t C I A B F H _ v y _ d z f k l g Ak Ao) fun _ R S T g=>au 1<|iD o p q rfl r b c j d.g Ac f k l.g (g.cast Al) hlen J.g rfl rfl
theorem KS{x:G}(o:∀s∈lN,s.2≠[])(p:gA.length=lN.length)(q:∀(i:Nat)(h1:i<gA.length)(h2:i<lN.length),WG w D (cond lN[i].1 20 11) gA[i] lN[i].2)(r:L≠[])(t:WG w D 16 x L):WG w D 1 (.mk ([.v (.int .i64 17),.v Zp,.v Zp,.v Zp,.v Zp,.v Zs,.v Zp,.v Zs,.v Zp,.v Zp,.v Zp,.v Zp,.p x,.v Zp,.v Zs,.v Zp]++[.l gA])) (lN.foldl ib (L)):=by
 intro K b u M c j O v y P d z f k l g hlen hnd
 have m:=d.hO j c
 have Q:=f u c
 have h0:=b.v 0 rfl
 obtain⟨A,B,C,E,F,H,I⟩:=b.p 12 rfl
 have hfl:=ir lN (L)
 exact cY Tryz.func77 fun J=>ac 3<|mf 0 m h0 rfl<|au 40<|au 25<|au 40<|mf 12 m E rfl<|au 1<|cX (t C I A B F H _ v y _ d z f k l g Ak Ao) fun _ R S T g=>au 1<|iD o p q rfl r b c j d.g Ac f k l.g (g.cast Al) hlen J.g rfl rfl
theorem Lc{x:G}(o:∀s∈lN,s.2≠[])(p:gA.length=lN.length)(q:∀(i:Nat)(h1:i<gA.length)(h2:i<lN.length),WG w D (cond lN[i].1 20 11) gA[i] lN[i].2)(r:L≠[])(t:WG w D 17 x L):WG w D 1 (.mk ([.v (.int .i64 18),.v Zp,.v Zp,.v Zp,.v Zp,.v Zs,.v Zp,.v Zs,.v Zp,.v Zp,.v Zp,.v Zp,.v Zp,.p x,.v Zs,.v Zp]++[.l gA])) (lN.foldl ib (L)):=by
 intro K b u M c j O v y P d z f k l g hlen hnd
 have m:=d.hO j c
 have Q:=f u c
 have h0:=b.v 0 rfl
 obtain⟨A,B,C,E,F,H,I⟩:=b.p 13 rfl
 have hfl:=ir lN (L)
 exact cY Tryz.func77 fun J=>ac 3<|mf 0 m h0 rfl<|au 40<|au 25<|au 40<|ac 6<|mf 13 m E rfl<|au 1<|cX (t C I A B F H _ v y _ d z f k l g Ak Ao) fun _ R S T g=>au 1<|iD o p q rfl r b c j d.g Ac f k l.g (g.cast Al) hlen J.g rfl rfl
theorem IG{s:ByteArray}(l:∀s∈lN,s.2≠[])(m:gA.length=lN.length)(o:∀(i:Nat)(h1:i<gA.length)(h2:i<lN.length),WG w D (cond lN[i].1 20 11) gA[i] lN[i].2)(p:s≠⟨#[]⟩):WG w D 1 (.mk ([.v (.int .i64 10),.v Zp,.v Zp,.v Zp,.v Zp,.v (.string s),.v Zp,.v Zs,.v Zp,.v Zp,.v Zp,.v Zp,.v Zp,.v Zp,.v Zs,.v Zp]++[.l gA])) (lN.foldl ib (s.data.toList)):=by
 intro y b q z c f A B C E g F j r t d hlen hnd
 have k:=g.hO f c
 have H:=j q c
 have h0:=b.v 0 rfl
 have u:=b.v 5 rfl
 have hfl:=ir lN (s.data.toList)
 exact cY Tryz.func77 fun v=>ac 3<|mf 0 k h0 rfl<|au 40<|au 24<|mf 5 k u rfl<|cX (WS d Ak) fun _ I J K d=>au 1<|iD l m o rfl (so p) b c f g.g Ac j r t.g (d.cast Al) hlen v.g rfl rfl
theorem J9{s:ByteArray}(l:∀s∈lN,s.2≠[])(m:gA.length=lN.length)(o:∀(i:Nat)(h1:i<gA.length)(h2:i<lN.length),WG w D (cond lN[i].1 20 11) gA[i] lN[i].2)(p:s≠⟨#[]⟩):WG w D 1 (.mk ([.v (.int .i64 12),.v Zp,.v Zp,.v Zp,.v Zp,.v Zs,.v Zp,.v (.string s),.v Zp,.v Zp,.v Zp,.v Zp,.v Zp,.v Zp,.v Zs,.v Zp]++[.l gA])) (lN.foldl ib (s.data.toList)):=by
 intro z b q A c g B C E F j H k r t d hlen hnd
 have f:=j.hO g c
 have I:=k q c
 have h0:=b.v 0 rfl
 have u:=b.v 7 rfl
 have v:=b.v 8 rfl
 have hfl:=ir lN (s.data.toList)
 exact cY Tryz.func77 fun y=>ac 3<|mf 0 f h0 rfl<|au 40<|au 25<|au 12<|mf 7 f u rfl<|cX (WS d Ak) fun _ J K L d=>au 3<|mf 8 (Gb f) v rfl<|au 4<|iD l m o rfl (so p) b c g j.g Ac k r t.g (d.cast Al) hlen y.g rfl rfl
theorem JJ{x:G}{s:ByteArray}(q:∀s∈lN,s.2≠[])(r:gA.length=lN.length)(t:∀(i:Nat)(h1:i<gA.length)(h2:i<lN.length),WG w D (cond lN[i].1 20 11) gA[i] lN[i].2)(u:WG w D 7 x L):WG w D 1 (.mk ([.v (.int .i64 12),.v Zp,.v Zp,.v Zp,.v Zp,.v Zs,.v Zp,.v (.string s),.p x,.v Zp,.v Zp,.v Zp,.v Zp,.v Zp,.v Zs,.v Zp]++[.l gA])) (lN.foldl ib (s.data.toList++[32]++L)):=by
 intro K d v M g l O y z P j Q k m o b hlen hnd
 have f:=j.hO l g
 have R:=k v g
 have h0:=d.v 0 rfl
 have A:=d.v 7 rfl
 obtain⟨B,C,E,p,F,H,I⟩:=d.p 8 rfl
 have hfl:=ir lN (s.data.toList++[32]++L)
 exact cY Tryz.func77 fun J=>ac 3<|mf 0 f h0 rfl<|au 40<|au 25<|au 12<|mf 7 f A rfl<|cX (WS b Ak) fun _ S T U b=>au 3<|mf 8 (Gb f) p rfl<|au 6<|cX (WB (c:=32) b rfl Ak) fun _ W X Y b=>au 2<|mf 8 (Gb f) p rfl<|au 1<|cX (u E I B C F H _ y z _ j.g Ac k m o.g b Ak) fun _ Z aa ab b=>au 1<|iD q r t rfl Al d g l j.g Ac k m o.g (b.cast Al) hlen J.g rfl rfl
theorem KM{s:ByteArray}(l:∀s∈lN,s.2≠[])(m:gA.length=lN.length)(o:∀(i:Nat)(h1:i<gA.length)(h2:i<lN.length),WG w D (cond lN[i].1 20 11) gA[i] lN[i].2):WG w D 1 (.mk ([.v (.int .i64 19),.v Zp,.v Zp,.v Zp,.v Zp,.v Zs,.v Zp,.v Zs,.v Zp,.v Zp,.v Zp,.v Zp,.v Zp,.v Zp,.v (.string s),.v Zp]++[.l gA])) (lN.foldl ib ([98,114,101,97,107,32]++s.data.toList)):=by
 intro v c p y d f z A B C g E j q r b hlen hnd
 have k:=g.hO f d
 have F:=j p d
 have h0:=c.v 0 rfl
 have t:=c.v 14 rfl
 have hfl:=ir lN ([98,114,101,97,107,32]++s.data.toList)
 exact cY Tryz.func77 fun u=>ac 3<|mf 0 k h0 rfl<|au 40<|au 25<|au 40<|ac 14<|cX (kG [98,114,101,97,107,32] rfl b Ak) fun _ H I J b=>au 3<|mf 14 (Gb k) t rfl<|cX (WS b Ak) fun _ K L M b=>au 1<|iD l m o rfl Al c d f g.g Ac j q r.g (b.cast Al) hlen u.g rfl rfl
theorem Ot(p:∀s∈lN,s.2≠[])(q:gA.length=lN.length)(r:∀(i:Nat)(h1:i<gA.length)(h2:i<lN.length),WG w D (cond lN[i].1 20 11) gA[i] lN[i].2)(t:WG w D 0 gH L):WG w D 1 (.mk ([.v (.int .i64 20),.v Zp,.v Zp,.v Zp,.v Zp,.v Zs,.v Zp,.v Zs,.v Zp,.v Zp,.v Zp,.v Zp,.v Zp,.v Zp,.v Zs,.p gH]++[.l gA])) (lN.foldl ib ([40]++L++[41])):=by
 intro J d u K f k M v y O g P j l m b hlen hnd
 have o:=g.hO k f
 have Q:=j u f
 have h0:=d.v 0 rfl
 obtain⟨z,A,B,C,E,F,H⟩:=d.p 15 rfl
 have hfl:=ir lN ([40]++L++[41])
 exact cY Tryz.func77 fun I=>ac 3<|mf 0 o h0 rfl<|au 40<|au 25<|au 40<|ac 20<|cX (WB (c:=40) b rfl Ak) fun _ R S T b=>au 3<|mf 15 (Gb o) C rfl<|au 1<|cX (t B H z A E F _ v y _ g.g Ac j l m.g b Ak Ao) fun _ U W X b=>au 3<|cX (WB (c:=41) b rfl Ak) fun _ Y Z aa b=>au 1<|iD p q r rfl Al d f k g.g Ac j l m.g (b.cast Al) hlen I.g rfl rfl
theorem Pu{x:G}(al:gA.length=lJ.length)(I:∀(i:Nat)(h1:i<gA.length)(h2:i<lJ.length),WG w D 2 gA[i] lJ[i])(J:WG w D 1 x L):WG w D 0 (.mk [.v Zp,.v Zl,.l gA,.p x,.v Zp,.v Zp,.v Zl,.v Zi]) (((lJ.map (· ++[32])).flatten)++L):=by
 intro am p q an y K z k l A f m r B j b hlen hnd
 have g:=f.hO K y
 have C:=r q y
 have h0:=p.v 0 rfl
 have h1:=p.v 1 rfl
 obtain⟨M,O,h2,P⟩:=p.l 2 rfl
 obtain⟨Q,R,S,E,T,U,W⟩:=p.p 3 rfl
 have ao:=nb lJ
 have X:=hlen
 simp only[Tl]at X
 refine cY Tryz.func40 fun o=>ac 3<|mf 0 g h0 rfl<|au 7<|mf 1 g h1 rfl<|au 4<|DC.jC (σ:=Nat) [(5,5),(30,37)] [(0,Pt q),(1,Pt l),(28,Zl),(29,.int .i64 ((0:Nat):Int))] (fun i=>[(30,.int .i64 (i:Int))]) (fun i d=>Fr (rg k z) z d∧i≤0∧Bf d k l (A)∧Kp D w d∧w.heap.size≤d.heap.size∧ij d) (fun i=>0 - i) 0 rfl ?_ ?_ ?_ ?_
 ·exact⟨rfl,rfl,rfl,rfl⟩
 ·exact rfl
 ·exact⟨Fr.refl _ _,TE _,b.cast Al,f,m,j⟩
 rintro Y i Z H ⟨t,aa,b,f,m,j⟩
 have g:=FB.hO t g C
 have o:=FB.tr o t
 have ap:=t
 refine ac 2<|jX rfl rfl (fun ab=>?_) (fun ab=>?_)
 ·have hi:i<0:=by omega
  exact Tu hi Ac
 obtain rfl:i=0:=by omega
 refine au 4<|ac 3<|mf 2 g h2 rfl<|au 4<|DC.jC (σ:=Nat) [(7,7),(43,52)] [(0,Pt q),(1,Pt l),(41,.slice M gA.length O),(42,.int .i64 (gA.length:Int))] (fun i=>[(43,.int .i64 (i:Int))]) (fun i d=>Fr (rg k H) H d∧i≤gA.length∧Bf d k l (A++((lJ.take i).map (· ++[32])).flatten)∧Kp D w d∧w.heap.size≤d.heap.size∧ij d) (fun i=>gA.length - i) 0 rfl ?_ ?_ ?_ ?_
 ·exact⟨rfl,rfl,rfl,rfl⟩
 ·exact rfl
 ·exact⟨Fr.refl _ _,TE _,b.cast Al,f,m,j⟩
 rintro Y i Z aq ⟨u,aa,b,f,m,j⟩
 have g:=FB.hO u g C
 have o:=FB.tr o u
 have ad:=u
 refine ac 2<|jX rfl rfl (fun ae=>?_) (fun ae=>?_)
 ·have hi:i<gA.length:=by omega
  obtain⟨ar,av,af,aw,ax,rfl,ag,v,ah,aj,ak⟩:=P.kH hi
  have v:=f.cell v ag
  have hit:i<lJ.length:=by omega
  have hge:=mh (· ++[32]) lJ i hit
  exact au 8<|iX F.wW hi rfl rfl rfl<|lC v rfl<|au 6<|cX (I i hi hit _ ak af _ ah aj _ k l _ f m r B j b AB AH) fun _ ay az a0 b=>au 3<|cX (WB (c:=32) b rfl AB) fun _ a1 a2 a3 b=>au 2<|ai ((i+1:Nat):Int) rfl rfl<|au 2 ⟨i+1,⟨ad.g,hi,b.cast Bv,f.g,Ac,j.g⟩,by show gA.length - (i+1)<gA.length - i;omega,rfl⟩
 obtain rfl:i=gA.length:=by omega
 rw[TK Ac]at b
 exact au 4<|ac 2<|mf 3 g E rfl<|au 4<|mf 3 g E rfl<|au 1<|cX (J S W Q R T U _ k l _ f m r B j b Aa AH) fun _ a4 a5 a6 b=>au 1<|rE o.g (b.cast Al)
theorem OY{a:G}(a3:gA.length=lJ.length)(R:∀(i:Nat)(h1:i<gA.length)(h2:i<lJ.length),WG w D 2 gA[i] lJ[i])(S:WG w D 0 a L)(T:WG w D 0 gH M):WG w D 0 (.mk [.v Zp,.v Zl,.l gA,.v Zp,.p a,.p gH,.v Zl,.v (.int .i64 2)]) (((lJ.map (· ++[32])).flatten)++(L++[44,32]++M)):=by
 intro a4 m q a5 C U E k l t g o r u j b hlen hnd
 have f:=g.hO U C
 have v:=r q C
 have h0:=m.v 0 rfl
 have h1:=m.v 1 rfl
 obtain⟨W,X,h2,Y⟩:=m.l 2 rfl
 have Z:=m.v 3 rfl
 obtain⟨aa,ab,ad,ae,af,ag,ah⟩:=m.p 4 rfl
 obtain⟨aj,ak,al,H,am,an,ao⟩:=m.p 5 rfl
 have ap:=m.v 6 rfl
 have I:=m.v 7 rfl
 have a6:=nb lJ
 have aq:=hlen
 simp only[Tl]at aq
 refine cY Tryz.func40 fun p=>ac 3<|mf 0 f h0 rfl<|au 7<|mf 1 f h1 rfl<|au 4<|DC.jC (σ:=Nat) [(5,5),(30,37)] [(0,Pt q),(1,Pt l),(28,Zl),(29,.int .i64 ((0:Nat):Int))] (fun i=>[(30,.int .i64 (i:Int))]) (fun i d=>Fr (rg k E) E d∧i≤0∧Bf d k l (t)∧Kp D w d∧w.heap.size≤d.heap.size∧ij d) (fun i=>0 - i) 0 rfl ?_ ?_ ?_ ?_
 ·exact⟨rfl,rfl,rfl,rfl⟩
 ·exact rfl
 ·exact⟨Fr.refl _ _,TE _,b.cast Al,g,o,j⟩
 rintro J i K O ⟨y,P,b,g,o,j⟩
 have f:=FB.hO y f v
 have p:=FB.tr p y
 have a7:=y
 refine ac 2<|jX rfl rfl (fun ar=>?_) (fun ar=>?_)
 ·have hi:i<0:=by omega
  exact Tu hi Ac
 obtain rfl:i=0:=by omega
 refine au 4<|ac 3<|mf 2 f h2 rfl<|au 4<|DC.jC (σ:=Nat) [(7,7),(43,52)] [(0,Pt q),(1,Pt l),(41,.slice W gA.length X),(42,.int .i64 (gA.length:Int))] (fun i=>[(43,.int .i64 (i:Int))]) (fun i d=>Fr (rg k O) O d∧i≤gA.length∧Bf d k l (t++((lJ.take i).map (· ++[32])).flatten)∧Kp D w d∧w.heap.size≤d.heap.size∧ij d) (fun i=>gA.length - i) 0 rfl ?_ ?_ ?_ ?_
 ·exact⟨rfl,rfl,rfl,rfl⟩
 ·exact rfl
 ·exact⟨Fr.refl _ _,TE _,b.cast Al,g,o,j⟩
 rintro J i K a8 ⟨z,P,b,g,o,j⟩
 have f:=FB.hO z f v
 have p:=FB.tr p z
 have av:=z
 refine ac 2<|jX rfl rfl (fun aw=>?_) (fun aw=>?_)
 ·have hi:i<gA.length:=by omega
  obtain⟨a9,aA,ax,aB,aC,rfl,ay,A,az,a0,a1⟩:=Y.kH hi
  have A:=g.cell A ay
  have hit:i<lJ.length:=by omega
  have hge:=mh (· ++[32]) lJ i hit
  exact au 8<|iX F.wW hi rfl rfl rfl<|lC A rfl<|au 6<|cX (R i hi hit _ a1 ax _ az a0 _ k l _ g o r u j b AB AH) fun _ aD aE aF b=>au 3<|cX (WB (c:=32) b rfl AB) fun _ aG aH aI b=>au 2<|ai ((i+1:Nat):Int) rfl rfl<|au 2 ⟨i+1,⟨av.g,hi,b.cast Bv,g.g,Ac,j.g⟩,by show gA.length - (i+1)<gA.length - i;omega,rfl⟩
 obtain rfl:i=gA.length:=by omega
 rw[TK Ac]at b
 refine au 4<|ac 2<|mf 3 f Z rfl<|au 5<|mf 5 f H rfl<|au 5<|mf 4 f ae rfl<|au 1<|cX (S ad ah aa ab af ag _ k l _ g o r u j b Aa AH) fun _ Q aJ aK b=>au 4<|mf 7 (Gb f) I rfl<|au 7<|mf 6 (Gb f) ap rfl<|au 4<|DC.jC (σ:=Nat) [(8,9),(87,103)] [(0,Pt q),(1,Pt l),(85,Zl),(86,.int .i64 ((0:Nat):Int))] (fun i=>[(87,.int .i64 (i:Int))]) (fun i d=>Fr (rg k Q) Q d∧i≤0∧Bf d k l (t++((lJ.map (· ++[32])).flatten)++L)∧Kp D w d∧w.heap.size≤d.heap.size∧ij d) (fun i=>0 - i) 0 rfl ?_ ?_ ?_ ?_
 ·exact⟨rfl,rfl,rfl,rfl⟩
 ·exact rfl
 ·exact⟨Fr.refl _ _,TE _,b.cast Al,g.g,Ac,j.g⟩
 rintro J i K aL ⟨B,P,b,g,o,j⟩
 have f:=FB.hO B (Gb f) v
 have p:=FB.tr p.g B
 have aM:=B
 refine ac 2<|jX rfl rfl (fun a2=>?_) (fun a2=>?_)
 ·have hi:i<0:=by omega
  exact Tu hi Ac
 obtain rfl:i=0:=by omega
 refine au 4<|ac 3<|mf 7 f I rfl<|cX (xJ 2 _ Ah) ?_
 rintro _ aN aO aP rfl
 exact cX (kG [44] rfl b.g Aa) fun _ aQ aR aS b=>au 4<|cX (WB (c:=32) b rfl Aa) fun _ aT aU aV b=>au 2<|mf 5 (Gb f) H rfl<|au 1<|cX (T al ao aj ak am an _ k l _ g.g Ac r u j.g b Aa AH) fun _ aW aX aY b=>au 1<|rE p.g (b.cast Al)
theorem OK{a:G}(hk:1≤m∧m≤24∧m≠2)(a5:gA.length=lJ.length)(S:∀(i:Nat)(h1:i<gA.length)(h2:i<lJ.length),WG w D 2 gA[i] lJ[i])(T:WG w D 0 a L)(U:WG w D 0 gH M):WG w D 0 (.mk [.v Zp,.v Zl,.l gA,.v Zp,.p a,.p gH,.v Zl,.v (.int .i64 (m:Int))]) (((lJ.map (· ++[32])).flatten)++(L++[32]++mI m++[32]++M)):=by
 intro a6 o r a7 E W H k l u g p t v j b hlen hnd
 have f:=g.hO W E
 have y:=t r E
 have h0:=o.v 0 rfl
 have h1:=o.v 1 rfl
 obtain⟨X,Z,h2,aa⟩:=o.l 2 rfl
 have ab:=o.v 3 rfl
 obtain⟨ad,ae,af,ag,ah,aj,ak⟩:=o.p 4 rfl
 obtain⟨al,am,an,I,ao,ap,aq⟩:=o.p 5 rfl
 have ar:=o.v 6 rfl
 have J:=o.v 7 rfl
 have a8:=nb lJ
 have av:=hlen
 simp only[Tl]at av
 refine cY Tryz.func40 fun q=>ac 3<|mf 0 f h0 rfl<|au 7<|mf 1 f h1 rfl<|au 4<|DC.jC (σ:=Nat) [(5,5),(30,37)] [(0,Pt r),(1,Pt l),(28,Zl),(29,.int .i64 ((0:Nat):Int))] (fun i=>[(30,.int .i64 (i:Int))]) (fun i d=>Fr (rg k H) H d∧i≤0∧Bf d k l (u)∧Kp D w d∧w.heap.size≤d.heap.size∧ij d) (fun i=>0 - i) 0 rfl ?_ ?_ ?_ ?_
 ·exact⟨rfl,rfl,rfl,rfl⟩
 ·exact rfl
 ·exact⟨Fr.refl _ _,TE _,b.cast Al,g,p,j⟩
 rintro K i O P ⟨z,Q,b,g,p,j⟩
 have f:=FB.hO z f y
 have q:=FB.tr q z
 have a9:=z
 refine ac 2<|jX rfl rfl (fun aw=>?_) (fun aw=>?_)
 ·have hi:i<0:=by omega
  exact Tu hi Ac
 obtain rfl:i=0:=by omega
 refine au 4<|ac 3<|mf 2 f h2 rfl<|au 4<|DC.jC (σ:=Nat) [(7,7),(43,52)] [(0,Pt r),(1,Pt l),(41,.slice X gA.length Z),(42,.int .i64 (gA.length:Int))] (fun i=>[(43,.int .i64 (i:Int))]) (fun i d=>Fr (rg k P) P d∧i≤gA.length∧Bf d k l (u++((lJ.take i).map (· ++[32])).flatten)∧Kp D w d∧w.heap.size≤d.heap.size∧ij d) (fun i=>gA.length - i) 0 rfl ?_ ?_ ?_ ?_
 ·exact⟨rfl,rfl,rfl,rfl⟩
 ·exact rfl
 ·exact⟨Fr.refl _ _,TE _,b.cast Al,g,p,j⟩
 rintro K i O aA ⟨A,Q,b,g,p,j⟩
 have f:=FB.hO A f y
 have q:=FB.tr q A
 have ax:=A
 refine ac 2<|jX rfl rfl (fun ay=>?_) (fun ay=>?_)
 ·have hi:i<gA.length:=by omega
  obtain⟨aB,aC,az,aD,aE,rfl,a0,B,a1,a2,a3⟩:=aa.kH hi
  have B:=g.cell B a0
  have hit:i<lJ.length:=by omega
  have hge:=mh (· ++[32]) lJ i hit
  exact au 8<|iX F.wW hi rfl rfl rfl<|lC B rfl<|au 6<|cX (S i hi hit _ a3 az _ a1 a2 _ k l _ g p t v j b AB AH) fun _ aF aG aH b=>au 3<|cX (WB (c:=32) b rfl AB) fun _ aI aJ aK b=>au 2<|ai ((i+1:Nat):Int) rfl rfl<|au 2 ⟨i+1,⟨ax.g,hi,b.cast Bv,g.g,Ac,j.g⟩,by show gA.length - (i+1)<gA.length - i;omega,rfl⟩
 obtain rfl:i=gA.length:=by omega
 rw[TK Ac]at b
 refine au 4<|ac 2<|mf 3 f ab rfl<|au 5<|mf 5 f I rfl<|au 5<|mf 4 f ag rfl<|au 1<|cX (T af ak ad ae ah aj _ k l _ g p t v j b Aa AH) fun _ aL aM aN b=>au 4<|mf 7 (Gb f) J rfl<|DL.y rfl rfl (Y.yL (c:=true) rfl rfl Bw)<|au 4<|cX (WB (c:=32) b rfl Aa) fun _ R aO aP b=>au 4<|mf 6 (Gb f) ar rfl<|au 4<|DC.jC (σ:=Nat) [(8,9),(87,103)] [(0,Pt r),(1,Pt l),(85,Zl),(86,.int .i64 ((0:Nat):Int))] (fun i=>[(87,.int .i64 (i:Int))]) (fun i d=>Fr (rg k R) R d∧i≤0∧Bf d k l (u++((lJ.map (· ++[32])).flatten)++L++[32])∧Kp D w d∧w.heap.size≤d.heap.size∧ij d) (fun i=>0 - i) 0 rfl ?_ ?_ ?_ ?_
 ·exact⟨rfl,rfl,rfl,rfl⟩
 ·exact rfl
 ·exact⟨Fr.refl _ _,TE _,b.cast Al,g.g,Ac,j.g⟩
 rintro K i O aQ ⟨C,Q,b,g,p,j⟩
 have f:=FB.hO C (Gb f) y
 have q:=FB.tr q.g C
 have aR:=C
 refine ac 2<|jX rfl rfl (fun a4=>?_) (fun a4=>?_)
 ·have hi:i<0:=by omega
  exact Tu hi Ac
 obtain rfl:i=0:=by omega
 refine au 4<|ac 3<|mf 7 f J rfl<|cX (xJ m _ ⟨hk.1,hk.2.1⟩) ?_
 rintro _ aS aT aU rfl
 exact cX (kG (mI m) (Mi m ⟨hk.1,hk.2.1⟩) b.g Aa) fun _ aV aW aX b=>au 4<|cX (WB (c:=32) b rfl Aa) fun _ aY aZ ba b=>au 2<|mf 5 (Gb f) I rfl<|au 1<|cX (U an aq al am ao ap _ k l _ g.g Ac t v j.g b Aa AH) fun _ bb bc bd b=>au 1<|rE q.g (b.cast Al)
theorem Oo{a:G}{ps:List G}(aD:gA.length=lJ.length)(Z:∀(i:Nat)(h1:i<gA.length)(h2:i<lJ.length),WG w D 2 gA[i] lJ[i])(aa:WG w D 0 a L)(ab:WG w D 0 gH M)(aE:ps.length≤1125899906842624)(aF:ps.length=lK.length)(K:∀(i:Nat)(h1:i<ps.length)(h2:i<lK.length),WG w D 3 ps[i] lK[i]):WG w D 0 (.mk [.v Zp,.v Zl,.l gA,.v Zp,.p a,.p gH,.l ps,.v (.int .i64 1)]) (((lJ.map (· ++[32])).flatten)++(L++[32]++iR true lK++[124,32]++M)):=by
 intro aG m u aH O ad P k l B d o r t j b hlen hnd
 have g:=d.hO ad O
 have C:=r u O
 have h0:=m.v 0 rfl
 have h1:=m.v 1 rfl
 obtain⟨ae,af,h2,ag⟩:=m.l 2 rfl
 have ah:=m.v 3 rfl
 obtain⟨aj,ak,al,am,an,ao,ap⟩:=m.p 4 rfl
 obtain⟨aq,ar,av,Q,aw,ax,ay⟩:=m.p 5 rfl
 obtain⟨az,a0,a1,a2⟩:=m.l 6 rfl
 have R:=m.v 7 rfl
 have aI:=nb lJ
 have a3:=hlen
 simp only[Tl]at a3
 refine cY Tryz.func40 fun p=>ac 3<|mf 0 g h0 rfl<|au 7<|mf 1 g h1 rfl<|au 4<|DC.jC (σ:=Nat) [(5,5),(30,37)] [(0,Pt u),(1,Pt l),(28,Zl),(29,.int .i64 ((0:Nat):Int))] (fun i=>[(30,.int .i64 (i:Int))]) (fun i f=>Fr (rg k P) P f∧i≤0∧Bf f k l (B)∧Kp D w f∧w.heap.size≤f.heap.size∧ij f) (fun i=>0 - i) 0 rfl ?_ ?_ ?_ ?_
 ·exact⟨rfl,rfl,rfl,rfl⟩
 ·exact rfl
 ·exact⟨Fr.refl _ _,TE _,b.cast Al,d,o,j⟩
 rintro S i T U ⟨E,W,b,d,o,j⟩
 have g:=FB.hO E g C
 have p:=FB.tr p E
 have aJ:=E
 refine ac 2<|jX rfl rfl (fun a4=>?_) (fun a4=>?_)
 ·have hi:i<0:=by omega
  exact Tu hi Ac
 obtain rfl:i=0:=by omega
 refine au 4<|ac 3<|mf 2 g h2 rfl<|au 4<|DC.jC (σ:=Nat) [(7,7),(43,52)] [(0,Pt u),(1,Pt l),(41,.slice ae gA.length af),(42,.int .i64 (gA.length:Int))] (fun i=>[(43,.int .i64 (i:Int))]) (fun i f=>Fr (rg k U) U f∧i≤gA.length∧Bf f k l (B++((lJ.take i).map (· ++[32])).flatten)∧Kp D w f∧w.heap.size≤f.heap.size∧ij f) (fun i=>gA.length - i) 0 rfl ?_ ?_ ?_ ?_
 ·exact⟨rfl,rfl,rfl,rfl⟩
 ·exact rfl
 ·exact⟨Fr.refl _ _,TE _,b.cast Al,d,o,j⟩
 rintro S i T aK ⟨H,W,b,d,o,j⟩
 have g:=FB.hO H g C
 have p:=FB.tr p H
 have a5:=H
 refine ac 2<|jX rfl rfl (fun a6=>?_) (fun a6=>?_)
 ·have hi:i<gA.length:=by omega
  obtain⟨a7,a8,v,a9,aA,rfl,I,q,y,z,A⟩:=ag.kH hi
  have q:=d.cell q I
  have hit:i<lJ.length:=by omega
  have hge:=mh (· ++[32]) lJ i hit
  exact au 8<|iX F.wW hi rfl rfl rfl<|lC q rfl<|au 6<|cX (Z i hi hit _ A v _ y z _ k l _ d o r t j b AB AH) fun _ aL aM aN b=>au 3<|cX (WB (c:=32) b rfl AB) fun _ aO aP aQ b=>au 2<|ai ((i+1:Nat):Int) rfl rfl<|au 2 ⟨i+1,⟨a5.g,hi,b.cast Bv,d.g,Ac,j.g⟩,by show gA.length - (i+1)<gA.length - i;omega,rfl⟩
 obtain rfl:i=gA.length:=by omega
 rw[TK Ac]at b
 refine au 4<|ac 2<|mf 3 g ah rfl<|au 5<|mf 5 g Q rfl<|au 5<|mf 4 g am rfl<|au 1<|cX (aa al ap aj ak an ao _ k l _ d o r t j b Aa AH) fun _ aR aS aT b=>au 4<|mf 7 (Gb g) R rfl<|au 5<|cX (WB (c:=32) b rfl Aa) fun _ X aU aV b=>au 4<|mf 6 (Gb g) a1 rfl<|au 4<|DC.jC (σ:=Nat) [(8,9),(87,103)] [(0,Pt u),(1,Pt l),(85,.slice az ps.length a0),(86,.int .i64 (ps.length:Int))] (fun i=>[(87,.int .i64 (i:Int))]) (fun i f=>Fr (rg k X) X f∧i≤ps.length∧Bf f k l (B++((lJ.map (· ++[32])).flatten)++L++[32]++iR true (lK.take i))∧Kp D w f∧w.heap.size≤f.heap.size∧ij f) (fun i=>ps.length - i) 0 rfl ?_ ?_ ?_ ?_
 ·exact⟨rfl,rfl,rfl,rfl⟩
 ·exact rfl
 ·exact⟨Fr.refl _ _,TE _,b.cast (by simp[iR]),d.g,Ac,j.g⟩
 rintro S i T aW ⟨J,W,b,d,o,j⟩
 have g:=FB.hO J (Gb g) C
 have p:=FB.tr p.g J
 have Y:=J
 refine ac 2<|jX rfl rfl (fun aB=>?_) (fun aB=>?_)
 ·have hi:i<ps.length:=by omega
  obtain⟨a7,a8,v,a9,aA,rfl,I,q,y,z,A⟩:=a2.kH hi
  have q:=d.cell q I
  have hit:i<lK.length:=by omega
  have hge:=uy true lK i hit
  refine au 9<|iX F.H5 hi rfl rfl rfl<|lC q rfl<|au 7<|jE rfl rfl (fun aC=>?_) (fun aC=>?_)
  ·have aX:i=0:=by omega
   simp only[(by omega),Uu,iR,T3]at b
   exact au 4<|cX (kG [97,115,32] rfl b AB) fun _ aY aZ ba b=>au 5<|cX (K i hi hit _ A v _ y z _ k l _ d.g Ac r t j.g b AB AH) fun _ bb bc bd b=>au 3<|cX (WB (c:=32) b rfl AB) fun _ be bf bg b=>au 2<|ai ((i+1:Nat):Int) rfl rfl<|au 2 ⟨i+1,⟨Y.g,hi,b.cast Bh,d.g,Ac,j.g⟩,by show ps.length - (i+1)<ps.length - i;omega,rfl⟩
  exact au 4<|cX (kG [63,47,47,32] rfl b AB) fun _ bh bi bj b=>au 5<|cX (K i hi hit _ A v _ y z _ k l _ d.g Ac r t j.g b AB AH) fun _ bk bl bm b=>au 3<|cX (WB (c:=32) b rfl AB) fun _ bn bo bp b=>au 2<|ai ((i+1:Nat):Int) rfl rfl<|au 2 ⟨i+1,⟨Y.g,hi,b.cast Bh,d.g,Ac,j.g⟩,by show ps.length - (i+1)<ps.length - i;omega,rfl⟩
 obtain rfl:i=ps.length:=by omega
 rw[TK Ac]at b
 refine au 4<|ac 3<|mf 7 g R rfl<|cX (xJ 1 _ Ah) ?_
 rintro _ bq br bs rfl
 exact cX (kG [124] rfl b.g Aa) fun _ bt bu bv b=>au 4<|cX (WB (c:=32) b rfl Aa) fun _ bw bx bz b=>au 2<|mf 5 (Gb g) Q rfl<|au 1<|cX (ab av ay aq ar aw ax _ k l _ d.g Ac r t j.g b Aa AH) fun _ b0 b1 b2 b=>au 1<|rE p.g (b.cast Al)
theorem writes{O:World}{P:Nat→Prop}{F:Nat}{H:G}{I:List UInt8}(h:Pr F H I):WG O P F H I:=by
 induction h with
 |PQ r b=>exact Nl b
 |Ql g Q r k=>exact Ma g Q k
 |Lb g=>exact JI g
 |Mj g o p w m=>exact KC g o p m
 |MJ g o p w m=>exact J1 g o p m
 |P1 g=>exact Nr g
 |Mb g D b=>exact KW g b
 |MF J D b k=>exact I2 b k
 |NP g=>exact LH g
 |O7 g D b=>exact KF g b
 |Nw J D b k=>exact KG b k
 |N9 J b=>exact L7 b
 |L6 Z D b k=>exact KT b k
 |OP g=>exact MY g
 |ON l b=>exact LI b
 |Pp r b=>exact Lp b
 |Iy r R b k=>exact IM b k
 |Jl r b=>exact Jc b
 |Kd R b=>exact J6 b
 |NB=>exact Me
 |Nz g o p w m=>exact LG g o p m
 |NV=>exact MN
 |Fb S=>exact ML S
 |O0 g o p w m=>exact LO g o p m
 |Ox=>exact Ng
 |OR g o p w m=>exact Mp g o p m
 |N7=>exact LZ
 |OT r b=>exact Nb b
 |Nk l b=>exact MI b
 |Qq=>exact MP
 |QQ=>exact Nu
 |LN g l b=>exact JV g b
 |LP l b=>exact I8 b
 |Qk t y o p w b k z=>exact Nq b k o p z
 |PN t y o p w T b k z U=>exact MT b k o p z U
 |J8 t y b k=>exact JO b k
 |u4 t b=>exact JP b
 |ur t y b k=>exact J2 b k
 |red r K t y b k m A=>exact Mt b k m A
 |uh r K t y b k m A=>exact I1 b k m A
 |uI r K t y T b k m A z=>exact I0 b k m A z
 |HZ r b=>exact Mr b
 |un l b=>exact Ph b
 |IJ h q=>exact Jj q
 |uc h q=>exact Gz q
 |OX h q=>exact Lu q
 |Qj h q=>exact Ts ⟨_,_,rfl,rfl,q⟩
 |PZ h q=>exact Tk ⟨_,rfl,rfl,q⟩
 |NM c d hs f=>exact Nf c d f
 |Hm c d hs f=>exact K4 c d f
 |wU c d hs f=>exact Gj c d f
 |xI c d hs f=>exact GD c d f
 |sH c d hs f=>exact DZ c d f
 |NK c d hs j l f b=>exact Lv c d f j b
 |NZ c d hs j l f b=>exact Lr c d f j b
 |NI c d hs j l f b=>exact Nd c d f j b
 |N2 c d hs j l f b=>exact Nt c d f j b
 |NQ c d hs j l f b=>exact LA c d f j b
 |Nj c d hs j l f b=>exact Mh c d f j b
 |NR c d hs j l f b=>exact Mc c d f j b
 |GP c d hs j l f b=>exact J7 c d f j b
 |Ho c d hs j l f b=>exact Jy c d f j b
 |G3 c d hs j l f b=>exact KS c d f j b
 |Hl c d hs j l f b=>exact Lc c d f j b
 |FF c d hs j f=>exact IG c d f j
 |Hi c d hs j f=>exact J9 c d f j
 |FA c d hs l f b=>exact JJ c d f b
 |Fv c d hs f=>exact KM c d f
 |hQ c d hs r f b=>exact Ot c d f b
 |qT u E h v q=>exact Pu u v q
 |qC u E L M v B C=>exact OY u v B C
 |qB u E hk L M v B C=>exact OK hk u v B C
 |qP u E W X aa L M v Y B C=>exact Oo u v B C W X Y
end Go.Proofs.YtlojelcoibpphaaGreatDoor
namespace Go.Proofs.YtlojelcoibpphaaGreatDoor
open Go Go.RowKit D Go.Deep
variable{m:Nat}{t sA:ByteArray}{D:Nat→Prop}{Q P qF:List N}{S:List ByteArray}{vH:V}
def y8:List ByteArray:=[C7,Cy,CC,C0,Cs,C6,CS,CW,Ck,CA,C4,C2,CD,⟨#[109,111,100,117,108,101]⟩,Ea,Ct,CU,CB,Eb,Ec,C8,⟨#[110,111,116]⟩,⟨#[95,95,108,111,99,95,95]⟩,⟨#[101,109,112,116,121]⟩,⟨#[101,114,114,111,114]⟩]
def ri:List ByteArray:=[⟨#[64,116,101,120,116]⟩,⟨#[64,106,115,111,110]⟩,⟨#[64,104,116,109,108]⟩,⟨#[64,117,114,105]⟩,⟨#[64,99,115,118]⟩,⟨#[64,116,115,118]⟩,⟨#[64,115,104]⟩,⟨#[64,98,97,115,101,54,52]⟩,⟨#[64,98,97,115,101,54,52,100]⟩]
def F4:List ByteArray:=[⟨#[110,111,116,47,48]⟩,⟨#[108,101,110,103,116,104,47,48]⟩,⟨#[117,116,102,56,98,121,116,101,108,101,110,103,116,104,47,48]⟩,⟨#[107,101,121,115,47,48]⟩,⟨#[97,100,100,47,48]⟩,⟨#[97,110,121,47,48]⟩,⟨#[97,108,108,47,48]⟩,⟨#[102,108,97,116,116,101,110,47,48]⟩,⟨#[102,108,111,111,114,47,48]⟩,⟨#[99,101,105,108,47,48]⟩,⟨#[115,113,114,116,47,48]⟩,⟨#[97,98,115,47,48]⟩,⟨#[116,111,115,116,114,105,110,103,47,48]⟩,⟨#[116,111,110,117,109,98,101,114,47,48]⟩,⟨#[116,121,112,101,47,48]⟩,⟨#[115,111,114,116,47,48]⟩,⟨#[117,110,105,113,117,101,47,48]⟩,⟨#[109,105,110,47,48]⟩,⟨#[109,97,120,47,48]⟩,⟨#[114,101,118,101,114,115,101,47,48]⟩,⟨#[101,120,112,108,111,100,101,47,48]⟩,⟨#[105,109,112,108,111,100,101,47,48]⟩,⟨#[97,115,99,105,105,95,100,111,119,110,99,97,115,101,47,48]⟩,⟨#[97,115,99,105,105,95,117,112,99,97,115,101,47,48]⟩,⟨#[116,111,95,101,110,116,114,105,101,115,47,48]⟩,⟨#[102,114,111,109,95,101,110,116,114,105,101,115,47,48]⟩,⟨#[116,114,97,110,115,112,111,115,101,47,48]⟩,⟨#[116,111,106,115,111,110,47,48]⟩,⟨#[102,114,111,109,106,115,111,110,47,48]⟩,⟨#[116,114,105,109,47,48]⟩,⟨#[108,116,114,105,109,47,48]⟩,⟨#[114,116,114,105,109,47,48]⟩,⟨#[104,97,115,47,49]⟩,⟨#[99,111,110,116,97,105,110,115,47,49]⟩,⟨#[105,110,115,105,100,101,47,49]⟩,⟨#[105,110,47,49]⟩,⟨#[105,110,100,101,120,47,49]⟩,⟨#[114,105,110,100,101,120,47,49]⟩,⟨#[105,110,100,105,99,101,115,47,49]⟩,⟨#[115,116,97,114,116,115,119,105,116,104,47,49]⟩,⟨#[101,110,100,115,119,105,116,104,47,49]⟩,⟨#[108,116,114,105,109,115,116,114,47,49]⟩,⟨#[114,116,114,105,109,115,116,114,47,49]⟩,⟨#[115,112,108,105,116,47,49]⟩,⟨#[106,111,105,110,47,49]⟩,⟨#[102,108,97,116,116,101,110,47,49]⟩,⟨#[98,115,101,97,114,99,104,47,49]⟩,⟨#[103,101,116,112,97,116,104,47,49]⟩,⟨#[100,101,108,112,97,116,104,115,47,49]⟩,⟨#[115,101,116,112,97,116,104,47,50]⟩,⟨#[112,111,119,47,50]⟩]
def Fe:List ByteArray:=[⟨#[101,109,112,116,121,47,48]⟩,⟨#[101,114,114,111,114,47,48]⟩,⟨#[101,114,114,111,114,47,49]⟩,⟨#[109,97,112,47,49]⟩,⟨#[115,101,108,101,99,116,47,49]⟩,⟨#[114,101,99,117,114,115,101,47,48]⟩,⟨#[114,101,99,117,114,115,101,47,49]⟩,⟨#[114,101,99,117,114,115,101,47,50]⟩,⟨#[119,104,105,108,101,47,50]⟩,⟨#[117,110,116,105,108,47,50]⟩,⟨#[114,101,112,101,97,116,47,49]⟩,⟨#[114,97,110,103,101,47,49]⟩,⟨#[114,97,110,103,101,47,50]⟩,⟨#[114,97,110,103,101,47,51]⟩,⟨#[108,105,109,105,116,47,50]⟩,⟨#[102,105,114,115,116,47,48]⟩,⟨#[102,105,114,115,116,47,49]⟩,⟨#[108,97,115,116,47,48]⟩,⟨#[108,97,115,116,47,49]⟩,⟨#[110,116,104,47,49]⟩,⟨#[110,116,104,47,50]⟩,⟨#[97,110,121,47,49]⟩,⟨#[97,110,121,47,50]⟩,⟨#[97,108,108,47,49]⟩,⟨#[97,108,108,47,50]⟩,⟨#[105,115,101,109,112,116,121,47,49]⟩,⟨#[115,107,105,112,47,50]⟩,⟨#[97,100,100,47,49]⟩,⟨#[74,79,73,78,47,50]⟩,⟨#[74,79,73,78,47,51]⟩,⟨#[74,79,73,78,47,52]⟩,⟨#[119,105,116,104,95,101,110,116,114,105,101,115,47,49]⟩,⟨#[119,97,108,107,47,49]⟩,⟨#[115,111,114,116,95,98,121,47,49]⟩,⟨#[103,114,111,117,112,95,98,121,47,49]⟩,⟨#[117,110,105,113,117,101,95,98,121,47,49]⟩,⟨#[109,105,110,95,98,121,47,49]⟩,⟨#[109,97,120,95,98,121,47,49]⟩,⟨#[73,78,47,49]⟩,⟨#[73,78,47,50]⟩,⟨#[73,78,68,69,88,47,49]⟩,⟨#[73,78,68,69,88,47,50]⟩,⟨#[99,111,109,98,105,110,97,116,105,111,110,115,47,48]⟩,⟨#[99,111,109,98,105,110,97,116,105,111,110,115,47,49]⟩,⟨#[118,97,108,117,101,115,47,48]⟩,⟨#[110,117,108,108,115,47,48]⟩,⟨#[98,111,111,108,101,97,110,115,47,48]⟩,⟨#[110,117,109,98,101,114,115,47,48]⟩,⟨#[115,116,114,105,110,103,115,47,48]⟩,⟨#[97,114,114,97,121,115,47,48]⟩,⟨#[111,98,106,101,99,116,115,47,48]⟩,⟨#[105,116,101,114,97,98,108,101,115,47,48]⟩,⟨#[115,99,97,108,97,114,115,47,48]⟩,⟨#[109,97,112,95,118,97,108,117,101,115,47,49]⟩]
def L0:List ByteArray:=[⟨#[112,97,116,104,47,49]⟩,⟨#[112,97,116,104,115,47,48]⟩,⟨#[112,97,116,104,115,47,49]⟩,⟨#[108,101,97,102,95,112,97,116,104,115,47,48]⟩,⟨#[100,101,108,47,49]⟩,⟨#[112,105,99,107,47,49]⟩]
def yc:List ByteArray:=[CF,Cy,CI,CM,C7,Ea,CY,⟨#[43]⟩,C5,⟨#[42]⟩,CO,⟨#[37]⟩,⟨#[61,61]⟩,⟨#[33,61]⟩,⟨#[60]⟩,⟨#[60,61]⟩,⟨#[62]⟩,⟨#[62,61]⟩,⟨#[61]⟩,⟨#[124,61]⟩,⟨#[43,61]⟩,⟨#[45,61]⟩,⟨#[42,61]⟩,⟨#[47,61]⟩,⟨#[37,61]⟩,⟨#[47,47,61]⟩]
theorem iB{a:Option Addr}(b:List ByteArray)(s:ByteArray)(d:World)(z:b.length≤140737488351232)(hl:hT d D a b.length 1 (strCells b)):Calls Tryz.prog 52 #[.slice a b.length m,.string s] d (hH d [] fun o _=>∃j,o=.bool j∧(j=true→s∈b)∧(j=false→s∉b)):=by
 refine cY Tryz.func52 fun f=>ac 10<|lE [] d (σ:=Nat) [(4,17)] [(0,.slice a b.length m),(1,.string s)] (fun i=>[(5,.int .i64 (i:Int))]) (fun i A=>i≤b.length∧∀c (hj:c<b.length),c<i→¬b[c]=s) (fun i=>b.length - i) (0) ?_ ?_
 ·exact⟨Fr.refl _ _,TE _,fun c hj h=>by omega⟩
 rintro B i c p ⟨g,C,l⟩
 have f:=f.jP g
 have E:=g.size
 have hl:=hl.fr g (by intro q G;simp)
 have r:=g
 have H:=Fr.refl [] p
 refine ac 6<|jX rfl rfl (fun t=>?_) (fun t=>?_)
 ·have hi:i<b.length:=by omega
  obtain⟨q,I,rfl,J,u⟩:=hl.str hi
  refine au 9<|iX F.ku (hi) rfl rfl rfl<|lC u rfl<|au 1<|jS rfl rfl (fun k=>?_) (fun k=>?_)
  ·exact au 7<|rX f ⟨_,rfl,fun _=>k▸T2 hi,fun h=>by cases h⟩
  refine au 5<|ai ((i+1:Nat):Int) rfl rfl<|au 2 ?_
  refine⟨i+1,⟨r,hi,fun c hj h=>?_⟩,by show b.length - (i+1)<b.length - i;omega,rfl⟩
  by_cases v:c=i
  ·subst v;exact k
  exact l c hj Ac
 refine au 3<|ac 5<|rX f ⟨_,rfl,(fun h=>by cases h),fun _ w=>?_⟩
 obtain⟨c,hj,y⟩:=T0 w
 exact l c hj Ac y
theorem oQ(c:World):Calls Tryz.prog 90 #[] c (hH c [] fun f g=>∃b,f=.slice (some ⟨b,0,none⟩) y8.length y8.length∧c.heap.size≤b∧hT g (fun j=>j=b) (some ⟨b,0,none⟩) y8.length 1 (strCells y8)):=cY Tryz.func90 fun k=>ac 6<|DL.jq (cs:=(y8.map Value.string).toArray) rfl rfl Tryz.underlying24 Au fun l q d m r o=>have d:=Sp.mk d;have p:=ja o;au 3<|rX k.g ⟨l,rfl,m,p⟩
theorem pQ(c:World):Calls Tryz.prog 55 #[] c (hH c [] fun f g=>∃b,f=.slice (some ⟨b,0,none⟩) ri.length ri.length∧c.heap.size≤b∧hT g (fun j=>j=b) (some ⟨b,0,none⟩) ri.length 1 (strCells ri)):=cY Tryz.func55 fun k=>ac 6<|DL.jq (cs:=(ri.map Value.string).toArray) rfl rfl Tryz.underlying24 Au fun l q d m r o=>have d:=Sp.mk d;have p:=ja o;au 3<|rX k.g ⟨l,rfl,m,p⟩
theorem yw(c:World):Calls Tryz.prog 91 #[] c (hH c [] fun f g=>∃b,f=.slice (some ⟨b,0,none⟩) F4.length F4.length∧c.heap.size≤b∧hT g (fun j=>j=b) (some ⟨b,0,none⟩) F4.length 1 (strCells F4)):=cY Tryz.func91 fun k=>ac 6<|DL.jq (cs:=(F4.map Value.string).toArray) rfl rfl Tryz.underlying24 Au fun l q d m r o=>have d:=Sp.mk d;have p:=ja o;au 3<|rX k.g ⟨l,rfl,m,p⟩
theorem s3(c:World):Calls Tryz.prog 92 #[] c (hH c [] fun f g=>∃b,f=.slice (some ⟨b,0,none⟩) Fe.length Fe.length∧c.heap.size≤b∧hT g (fun j=>j=b) (some ⟨b,0,none⟩) Fe.length 1 (strCells Fe)):=cY Tryz.func92 fun k=>ac 6<|DL.jq (cs:=(Fe.map Value.string).toArray) rfl rfl Tryz.underlying24 Au fun l q d m r o=>have d:=Sp.mk d;have p:=ja o;au 3<|rX k.g ⟨l,rfl,m,p⟩
def Jw(n:Nat):Bool:=decide ((97≤n∧n≤122)∨(48≤n∧n≤57)∨n=95)
structure ke(s:ByteArray):Prop where
 len:1≤s.size∧s.size≤12
 first:∀(h:0<s.size),¬(48≤s[0].toNat∧s[0].toNat≤57)
 kw:s∉y8
 chars:∀i (h:i<s.size),Jw s[i].toNat=true
theorem mM(s:ByteArray)(hs:s.size≤140737488351232)(B:World):Calls Tryz.prog 56 #[.string s] B (hH B [] fun D _=>∃C,D=.bool C∧(C=true→ke s)):=by
 refine cY Tryz.func56 fun d=>ac 9<|jX rfl rfl (fun E=>?_) (fun E=>?_)
 ·exact au 27<|rX d ⟨false,rfl,fun h=>by cases h⟩
 refine au 3<|jG rfl rfl (fun F=>?_) (fun F=>?_)
 ·exact au 23<|rX d ⟨false,rfl,fun h=>by cases h⟩
 have h0:0<s.size:=by omega
 refine au 3<|DL.y rfl rfl (Y.jb (i:=0) Tryz.underlying9 rfl rfl rfl h0)<|jH rfl rfl (fun G=>?_) (fun G=>?_)
 ·refine au 2<|DL.y rfl rfl (Y.jb (i:=0) Tryz.underlying9 rfl rfl rfl h0)<|jM rfl rfl (fun H=>?_) (fun H=>?_)
  ·exact au 14<|rX d ⟨false,rfl,fun h=>by cases h⟩
  refine au 3<|cX (oQ _) ?_
  rintro _ T U W ⟨I,rfl,J,p⟩
  refine au 1<|cX (iB y8 s _ Ah p) ?_
  rintro _ K X Z ⟨q,rfl,L,r⟩
  refine(Ua q).elim (fun j=>?_) (fun j=>?_)
  ·subst j
   exact au 8<|rX d.g ⟨false,rfl,fun h=>by cases h⟩
  have t:s∉y8:=r j
  subst j
  refine au 10 ?_
  have u:∀(h:0<s.size),¬(48≤s[0].toNat∧s[0].toNat≤57):=fun h=>by omega
  refine lE [] K (σ:=Nat) [(2,4),(28,55)] [(0,.string s)] (fun i=>[(3,.int .i64 (i:Int))]) (fun i M=>i≤s.size∧∀b (hj:b<s.size),b<i→Jw s[b].toNat=true) (fun i=>s.size - i) (0) ?_ ?_
  ·exact⟨Fr.refl _ _,TE _,fun b hj h=>by omega⟩
  rintro O i b P ⟨v,Q,f⟩
  have d:=d.g.jP v
  have aa:=v.size
  have k:=v
  have ab:=Fr.refl [] P
  refine ac 6<|jX rfl rfl (fun w=>?_) (fun w=>?_)
  ·have hi:i<s.size:=by omega
   have hu:=s[i].toNat_lt
   refine au 9<|DL.y rfl rfl (Y.jb (i:=i) Tryz.underlying9 rfl rfl rfl hi)<|au 5<|jH rfl rfl (fun y=>?_) (fun y=>?_)
   ·refine au 2<|jM rfl rfl (fun z=>?_) (fun z=>?_)
    ·refine au 19<|ai ((i+1:Nat):Int) rfl rfl<|au 2 ?_
     refine⟨i+1,⟨k,hi,fun b hj h=>?_⟩,by show s.size - (i+1)<s.size - i;omega,rfl⟩
     by_cases c:b=i
     ·subst c;exact Th Ac
     exact f b hj Ac
    refine au 3<|jH rfl rfl (fun l=>?_) (fun l=>?_)
    ·refine au 2<|jM rfl rfl (fun m=>?_) (fun m=>?_)
     ·refine au 12<|ai ((i+1:Nat):Int) rfl rfl<|au 2 ?_
      refine⟨i+1,⟨k,hi,fun b hj h=>?_⟩,by show s.size - (i+1)<s.size - i;omega,rfl⟩
      by_cases c:b=i
      ·subst c;exact Th Ac
      exact f b hj Ac
     refine au 4<|jE rfl rfl (fun g=>?_) (fun g=>?_)
     ·refine au 7<|ai ((i+1:Nat):Int) rfl rfl<|au 2 ?_
      refine⟨i+1,⟨k,hi,fun b hj h=>?_⟩,by show s.size - (i+1)<s.size - i;omega,rfl⟩
      by_cases c:b=i
      ·subst c;exact Th Ac
      exact f b hj Ac
     exact au 9<|rX d ⟨false,rfl,fun h=>by cases h⟩
    refine au 7<|jE rfl rfl (fun g=>?_) (fun g=>?_)
    ·refine au 7<|ai ((i+1:Nat):Int) rfl rfl<|au 2 ?_
     refine⟨i+1,⟨k,hi,fun b hj h=>?_⟩,by show s.size - (i+1)<s.size - i;omega,rfl⟩
     by_cases c:b=i
     ·subst c;exact Th Ac
     exact f b hj Ac
    exact au 9<|rX d ⟨false,rfl,fun h=>by cases h⟩
   refine au 6<|jH rfl rfl (fun l=>?_) (fun l=>?_)
   ·refine au 2<|jM rfl rfl (fun m=>?_) (fun m=>?_)
    ·refine au 12<|ai ((i+1:Nat):Int) rfl rfl<|au 2 ?_
     refine⟨i+1,⟨k,hi,fun b hj h=>?_⟩,by show s.size - (i+1)<s.size - i;omega,rfl⟩
     by_cases c:b=i
     ·subst c;exact Th Ac
     exact f b hj Ac
    refine au 4<|jE rfl rfl (fun g=>?_) (fun g=>?_)
    ·refine au 7<|ai ((i+1:Nat):Int) rfl rfl<|au 2 ?_
     refine⟨i+1,⟨k,hi,fun b hj h=>?_⟩,by show s.size - (i+1)<s.size - i;omega,rfl⟩
     by_cases c:b=i
     ·subst c;exact Th Ac
     exact f b hj Ac
    exact au 9<|rX d ⟨false,rfl,fun h=>by cases h⟩
   refine au 7<|jE rfl rfl (fun g=>?_) (fun g=>?_)
   ·refine au 7<|ai ((i+1:Nat):Int) rfl rfl<|au 2 ?_
    refine⟨i+1,⟨k,hi,fun b hj h=>?_⟩,by show s.size - (i+1)<s.size - i;omega,rfl⟩
    by_cases c:b=i
    ·subst c;exact Th Ac
    exact f b hj Ac
   exact au 9<|rX d ⟨false,rfl,fun h=>by cases h⟩
  exact au 3<|ac 5<|rX d ⟨true,rfl,fun _=>⟨Ac,u,t,fun b hj=>f b hj Ac⟩⟩
 refine au 7<|cX (oQ _) ?_
 rintro _ ad ae af ⟨I,rfl,J,p⟩
 refine au 1<|cX (iB y8 s _ Ah p) ?_
 rintro _ R ag ah ⟨q,rfl,L,r⟩
 refine(Ua q).elim (fun j=>?_) (fun j=>?_)
 ·subst j
  exact au 8<|rX d.g ⟨false,rfl,fun h=>by cases h⟩
 have t:s∉y8:=r j
 subst j
 refine au 10 ?_
 have u:∀(h:0<s.size),¬(48≤s[0].toNat∧s[0].toNat≤57):=fun h=>by omega
 refine lE [] R (σ:=Nat) [(2,4),(28,55)] [(0,.string s)] (fun i=>[(3,.int .i64 (i:Int))]) (fun i M=>i≤s.size∧∀b (hj:b<s.size),b<i→Jw s[b].toNat=true) (fun i=>s.size - i) (0) ?_ ?_
 ·exact⟨Fr.refl _ _,TE _,fun b hj h=>by omega⟩
 rintro O i b S ⟨A,Q,f⟩
 have d:=d.g.jP A
 have aj:=A.size
 have o:=A
 have ak:=Fr.refl [] S
 refine ac 6<|jX rfl rfl (fun w=>?_) (fun w=>?_)
 ·have hi:i<s.size:=by omega
  have hu:=s[i].toNat_lt
  refine au 9<|DL.y rfl rfl (Y.jb (i:=i) Tryz.underlying9 rfl rfl rfl hi)<|au 5<|jH rfl rfl (fun y=>?_) (fun y=>?_)
  ·refine au 2<|jM rfl rfl (fun z=>?_) (fun z=>?_)
   ·refine au 19<|ai ((i+1:Nat):Int) rfl rfl<|au 2 ?_
    refine⟨i+1,⟨o,hi,fun b hj h=>?_⟩,by show s.size - (i+1)<s.size - i;omega,rfl⟩
    by_cases c:b=i
    ·subst c;exact Th Ac
    exact f b hj Ac
   refine au 3<|jH rfl rfl (fun l=>?_) (fun l=>?_)
   ·refine au 2<|jM rfl rfl (fun m=>?_) (fun m=>?_)
    ·refine au 12<|ai ((i+1:Nat):Int) rfl rfl<|au 2 ?_
     refine⟨i+1,⟨o,hi,fun b hj h=>?_⟩,by show s.size - (i+1)<s.size - i;omega,rfl⟩
     by_cases c:b=i
     ·subst c;exact Th Ac
     exact f b hj Ac
    refine au 4<|jE rfl rfl (fun g=>?_) (fun g=>?_)
    ·refine au 7<|ai ((i+1:Nat):Int) rfl rfl<|au 2 ?_
     refine⟨i+1,⟨o,hi,fun b hj h=>?_⟩,by show s.size - (i+1)<s.size - i;omega,rfl⟩
     by_cases c:b=i
     ·subst c;exact Th Ac
     exact f b hj Ac
    exact au 9<|rX d ⟨false,rfl,fun h=>by cases h⟩
   refine au 7<|jE rfl rfl (fun g=>?_) (fun g=>?_)
   ·refine au 7<|ai ((i+1:Nat):Int) rfl rfl<|au 2 ?_
    refine⟨i+1,⟨o,hi,fun b hj h=>?_⟩,by show s.size - (i+1)<s.size - i;omega,rfl⟩
    by_cases c:b=i
    ·subst c;exact Th Ac
    exact f b hj Ac
   exact au 9<|rX d ⟨false,rfl,fun h=>by cases h⟩
  refine au 6<|jH rfl rfl (fun l=>?_) (fun l=>?_)
  ·refine au 2<|jM rfl rfl (fun m=>?_) (fun m=>?_)
   ·refine au 12<|ai ((i+1:Nat):Int) rfl rfl<|au 2 ?_
    refine⟨i+1,⟨o,hi,fun b hj h=>?_⟩,by show s.size - (i+1)<s.size - i;omega,rfl⟩
    by_cases c:b=i
    ·subst c;exact Th Ac
    exact f b hj Ac
   refine au 4<|jE rfl rfl (fun g=>?_) (fun g=>?_)
   ·refine au 7<|ai ((i+1:Nat):Int) rfl rfl<|au 2 ?_
    refine⟨i+1,⟨o,hi,fun b hj h=>?_⟩,by show s.size - (i+1)<s.size - i;omega,rfl⟩
    by_cases c:b=i
    ·subst c;exact Th Ac
    exact f b hj Ac
   exact au 9<|rX d ⟨false,rfl,fun h=>by cases h⟩
  refine au 7<|jE rfl rfl (fun g=>?_) (fun g=>?_)
  ·refine au 7<|ai ((i+1:Nat):Int) rfl rfl<|au 2 ?_
   refine⟨i+1,⟨o,hi,fun b hj h=>?_⟩,by show s.size - (i+1)<s.size - i;omega,rfl⟩
   by_cases c:b=i
   ·subst c;exact Th Ac
   exact f b hj Ac
  exact au 9<|rX d ⟨false,rfl,fun h=>by cases h⟩
 exact au 3<|ac 5<|rX d ⟨true,rfl,fun _=>⟨Ac,u,t,fun b hj=>f b hj Ac⟩⟩
theorem xZ(s:ByteArray)(p:World):Calls Tryz.prog 58 #[.string s] p (hH p [] fun t _=>∃q,t=.bool q∧(q=true→s∈F4∨s∈Fe∨s∈L0)):=by
 refine cY Tryz.func58 fun b=>ac 6<|cX (yw _) ?_
 rintro _ C D E ⟨F,rfl,G,u⟩
 refine au 1<|cX (iB F4 s _ Ah u) ?_
 rintro _ H I J ⟨v,rfl,g,_⟩
 refine(Ua v).elim (fun c=>?_) (fun c=>?_)
 ·have j:=c
  subst c
  exact au 13<|rX b.g ⟨true,rfl,fun h=>by first|exact Ts (g j)|exact Tk (Ts (k l))|exact Tk (Tk (m o))⟩
 subst c
 refine au 1<|cX (s3 _) ?_
 rintro _ K L M ⟨O,rfl,P,w⟩
 refine au 1<|cX (iB Fe s _ Ah w) ?_
 rintro _ Q R S ⟨y,rfl,k,_⟩
 refine(Ua y).elim (fun d=>?_) (fun d=>?_)
 ·have l:=d
  subst d
  exact au 9<|rX b.g ⟨true,rfl,fun h=>by first|exact Ts (g j)|exact Tk (Ts (k l))|exact Tk (Tk (m o))⟩
 subst d
 refine au 2<|DL.jq (cs:=(L0.map Value.string).toArray) rfl rfl Tryz.underlying24 Au fun T U r W X z=>have r:=Sp.mk r;have A:=ja z;au 1<|cX (iB L0 s _ Ah A) ?_
 rintro _ Y Z aa ⟨B,rfl,m,_⟩
 refine(Ua B).elim (fun f=>?_) (fun f=>?_)
 ·have o:=f
  subst f
  exact au 4<|rX b.g ⟨true,rfl,fun h=>by first|exact Ts (g j)|exact Tk (Ts (k l))|exact Tk (Tk (m o))⟩
 subst f
 exact au 4<|rX b.g ⟨false,rfl,fun h=>by cases h⟩
def V0:V:=.mk 0 0 ⟨#[]⟩ [] [] []
theorem n5{c:Type}{b:List c}(h:b.length=0):b=[]:=Tn h
theorem tX(j:V)(k:Array Value)(t:Nat→Prop)(d:World)(l:j3 d t j k):Calls Tryz.prog 28 #[.agg k] d (hH d [] fun u _=>∃m,u=.bool m∧(m=true→j=V0)):=by
 have A:=l
 obtain⟨B,C,hk,D,ht,E,F,G,ks,hl,H,I,J,K⟩:=l
 rename_i L M O f g o P Q R S T U
 refine cY Tryz.func28 fun c=>ac 2<|bX rfl fun W X Y Z aa b=>au 5<|lD b rfl rfl<|jE rfl rfl (fun p=>?_) (fun p=>?_)
 ·refine au 2<|lD b rfl rfl<|jE rfl rfl (fun q=>?_) (fun q=>?_)
  ·refine au 3<|lD b rfl rfl<|jS rfl rfl (fun r=>?_) (fun r=>?_)
   ·refine au 3<|lD b rfl rfl<|au 2<|lD b rfl rfl<|au 1<|ai ((f.length+g.length:Nat):Int) rfl rfl<|au 1<|lD b rfl rfl<|au 1<|ai ((f.length+g.length+o.length:Nat):Int) rfl rfl<|jE rfl rfl (fun v=>?_) (fun v=>?_)
    ·refine au 4<|rX c.g ⟨true,rfl,fun _=>?_⟩
     have w:f=[]:=n5 Ac
     have y:g=[]:=n5 Ac
     have z:o=[]:=n5 Ac
     rw[p,q,r,w,y,z];rfl
    exact au 4<|rX c.g ⟨false,rfl,fun h=>by cases h⟩
   exact au 18<|rX c.g ⟨false,rfl,fun h=>by cases h⟩
  exact au 23<|rX c.g ⟨false,rfl,fun h=>by cases h⟩
 exact au 27<|rX c.g ⟨false,rfl,fun h=>by cases h⟩
theorem mO{op text:ByteArray}{val:V}{names:List ByteArray}{kids pats defs:List N}(cs:Array Value)(D:Nat→Prop)(w:World)(hR:RN w D 0 (.mk op text val names kids pats defs) cs):Calls Tryz.prog 33 #[.agg cs] w (hH w [] fun r _=>∃q,r=.bool q∧(q=true→text=⟨#[]⟩∧val=V0∧kids=[]∧names=[]∧pats=[]∧defs=[])):=by
 obtain⟨ka,kc,na,nc,pa,pc,da,dc,v0,v1,v2,v3,v4,v5,rfl⟩:=hR.hI
 have hv:=hR.oM
 obtain⟨b1',b2',b3',b4',b5',b6'⟩:=hR.hV
 refine cY Tryz.func33 fun FR=>ac 2<|bX rfl ?_
 intro b1 w1 f2 lo1 hi1 hb1
 refine au 5<|lD hb1 rfl rfl ?_
 refine jS rfl rfl (fun c5=>?_) (fun c5=>?_)
 ·refine au 2<|DL.y rfl rfl (Y.qW (sub:=#[v0,v1,v2,v3,v4,v5]) rfl hb1 rfl F.rC)<|cX (tX val _ D _ hv.g) ?_
  rintro _ w3 f4 sw3 ⟨q9,rfl,hz9⟩
  refine(Ua q9).elim (fun hq9=>?_) (fun hq9=>?_)
  ·replace hz9:=hz9 hq9
   subst hq9
   refine au 3<|lD (Gb hb1) rfl rfl<|au 2<|lD (Gb hb1) rfl rfl<|au 1<|ai ((kids.length+names.length:Nat):Int) rfl rfl<|au 1<|lD (Gb hb1) rfl rfl<|au 1<|ai ((kids.length+names.length+pats.length:Nat):Int) rfl rfl<|au 1<|lD (Gb hb1) rfl rfl<|au 1<|ai ((kids.length+names.length+pats.length+defs.length:Nat):Int) rfl rfl ?_
   refine jE rfl rfl (fun c27=>?_) (fun c27=>?_)
   ·refine au 4 ?_
    exact rX FR.g ⟨true,rfl,fun _=>⟨c5,hz9,n5 Ac,n5 Ac,n5 Ac,n5 Ac⟩⟩
   ·refine au 4 ?_
    exact rX FR.g ⟨false,rfl,fun h=>by cases h⟩
  ·subst hq9
   refine au 22 ?_
   exact rX FR.g ⟨false,rfl,fun h=>by cases h⟩
 ·refine au 26 ?_
  exact rX FR.g ⟨false,rfl,fun h=>by cases h⟩
def Dp(text:ByteArray)(n:Nat):List UInt8:=text.data.toList++(if n>9 then[47,109,97,110,121]else[47,UInt8.ofNat (48+n)])
theorem Oq:∀n,n<10→(⟨#[48,49,50,51,52,53,54,55,56,57]⟩:ByteArray).data.toList[n]? =some (UInt8.ofNat (48+n))
 |0,_=>rfl
 |1,_=>rfl
 |2,_=>rfl
 |3,_=>rfl
 |4,_=>rfl
 |5,_=>rfl
 |6,_=>rfl
 |7,_=>rfl
 |8,_=>rfl
 |9,_=>rfl
 |n+10,h=>by omega
theorem Lq:∀n,n<10→Utf8.encode (((UInt8.ofNat (48+n)).toNat:Nat):Int)=⟨#[UInt8.ofNat (48+n)]⟩
 |0,_=>by kernel_rfl
 |1,_=>by kernel_rfl
 |2,_=>by kernel_rfl
 |3,_=>by kernel_rfl
 |4,_=>by kernel_rfl
 |5,_=>by kernel_rfl
 |6,_=>by kernel_rfl
 |7,_=>by kernel_rfl
 |8,_=>by kernel_rfl
 |9,_=>by kernel_rfl
 |n+10,h=>by omega
theorem Hh(g:Array Value)(m:Nat→Prop)(c:World)(j:RN c m 0 (.mk sA t vH S Q P qF) g):Calls Tryz.prog 57 #[.agg g] c (hH c [] fun o _=>∃k:ByteArray,o=.string k∧k.data.toList=Dp t Q.length):=by
 obtain⟨u,v,w,y,z,A,B,C,D,E,G,H,I,J,rfl⟩:=j.hI
 obtain⟨K,L,M,O,R,T⟩:=j.hV
 refine cY Tryz.func57 fun l=>ac 2<|bX rfl fun U W X Z aa b=>au 6<|lD b rfl rfl<|au 1<|jG rfl rfl (fun p=>?_) (fun p=>?_)
 ·refine au 5<|lD b rfl rfl<|DL.L8 rfl rfl rfl rfl (by rw[show(⟨#[47,109,97,110,121]⟩:ByteArray).size=5 from rfl];omega) (fun ab q=>?_)
  refine au 3<|rX l.g ⟨_,rfl,?_⟩
  rw[q,Dp,TU Ac]
 refine au 4<|dF fun ad r ae af=>have ag:=r.size;aK [0]<|kL 1 (Gb b) rfl rfl rfl<|kT 2 rfl (fun d f=>Y.cat rfl rfl BT)<|aK [3]<|kL 4 (Gb b) rfl rfl rfl<|aK [5]<|kT 6 rfl (fun d f=>Y.ma (i:=Q.length) Tryz.underlying9 rfl rfl rfl (Oq _ Ac))<|kT 7 rfl (fun d f=>Y.D6 F.Np Tryz.underlying9 rfl (Lq Q.length Ac))<|kT 8 rfl (fun d f=>Y.cat rfl rfl (by rw[ByteArray.size_append,show(CO:ByteArray).size=1 from rfl,show(⟨#[UInt8.ofNat (48+Q.length)]⟩:ByteArray).size=1 from rfl];omega))<|aK [9]<|kD<|ac 1<|rX l.g ⟨_,rfl,?_⟩
 rw[Dp,TI Ac,Un,Un];simp
end Go.Proofs.YtlojelcoibpphaaGreatDoor
namespace Go.Proofs.YtlojelcoibpphaaGreatDoor
open Go Go.RowKit D Go.Deep Go.Proofs
def mi(h:Nat):List UInt8:=kJ (h/2)++(if h%2=1 then[46,53]else[])
def tB(ks:List ByteArray)(ts:List (List UInt8)):List UInt8:=if ks=[]then[123,125]else[123,32]++ih [44,32] (List.zipWith (fun k t=>qL k.data.toList++[58,32]++t) ks ts)++[32,125]
inductive sk:V→List UInt8→Prop
 |null:sk (.mk 0 0 ⟨#[]⟩ [] [] []) [110,117,108,108]
 |vQ:sk (.mk 1 0 ⟨#[]⟩ [] [] []) [102,97,108,115,101]
 |IA:sk (.mk 2 0 ⟨#[]⟩ [] [] []) [116,114,117,101]
 |num {h:Nat} (hb:h≤18014398509481984):sk (.mk 3 (h:Int) ⟨#[]⟩ [] [] []) (mi h)
 |neg {h:Nat} (h0:0<h) (hb:h≤18014398509481984):sk (.mk 3 (-(h:Int)) ⟨#[]⟩ [] [] []) (45::mi h)
 |text {s:ByteArray} (hv:Lib.validD s.data.toList=true):sk (.mk 4 0 s [] [] []) (qL s.data.toList)
 |list {l:List V} {ts:List (List UInt8)} (hl:l.length=ts.length) (h:∀(i:Nat)(h1:i<l.length)(h2:i<ts.length),sk l[i] ts[i]):sk (.mk 5 0 ⟨#[]⟩ l [] []) ([91]++ih [44,32] ts++[93])
 |map {ks:List ByteArray} {vs:List V} {ts:List (List UInt8)} (hk:ks.length=vs.length) (hl:vs.length=ts.length) (hv:∀k∈ks,Lib.validD k.data.toList=true) (h:∀(i:Nat)(h1:i<vs.length)(h2:i<ts.length),sk vs[i] ts[i]):sk (.mk 6 0 ⟨#[]⟩ [] ks vs) (tB ks ts)
def jt(first:Bool)(c:UInt8):Bool:=(97≤c&&c≤122)||(65≤c&&c≤90)||c==95||(!first&&(48≤c&&c≤57))
def jI:List UInt8→Bool
 |[]=>false
 |c::r=>jt true c&&r.all (jt false)
def y6:List ByteArray:=[Eb,Ec,C8,CA,CB,Ct,Ck,CD,CC,C7,Cy,C0,Cs,C6,CS,CW,C4,C2,Ea,CU]
def BE(s:ByteArray):Prop:=jI s.data.toList=true∧s∉y6
def uZ(s:ByteArray):Prop:=jI s.data.toList=true∨∃l,s.data.toList=36::l∧jI l=true
def iq(s:ByteArray):List UInt8:=if jI s.data.toList then s.data.toList else qL s.data.toList
def uz(f:ByteArray):List UInt8:=if f=⟨#[]⟩then[]else f.data.toList++[32]
def iz:N→ByteArray
 | .mk op _ _ _ _ _ _=>op
def isNeg:N→Bool
 | .mk _ _ (.mk kind half _ _ _ _) _ _ _ _=>decide (kind=3)&&decide (half<0)
def nL:List ByteArray:=[CE,CL,CX,Cp,Cz,Cu,CF,Co,CK,CH,Cv,Cm,CA,Ct,Ck,CC,Cw,Cx]
def nN(n:N):Bool:=nL.any (fun x=>decide (iz n=x))||(decide (iz n=Cr)&& !isNeg n)
def bx(n:N)(t:List UInt8):List UInt8:=if nN n then t else[40]++t++[41]
def n9(q:Bool)(n:N):Bool:=(nN n&&(decide (iz n=Cr)||decide (iz n=CX)||decide (iz n=Cp)))||(q&&(decide (iz n=Cu)||decide (iz n=CF)||decide (iz n=Co)||decide (iz n=CK)||decide (iz n=CH)))
def n4(q:Bool)(n:N)(t:List UInt8):List UInt8:=if n9 q n then[40]++t++[41]else bx n t
def tH(n:N)(t s:List UInt8):List UInt8:=if iz n=CE then 46::s else ib (n4 false n t) (true,46::s)
def qz(n:N)(t s:List UInt8):List UInt8:=if iz n=CE then 46::s else ib (n4 false n t) (false,s)
def lj:List ByteArray→List (List UInt8)→List UInt8
 |[],_=>[]
 |n::_,[]=>iS n.data.toList
 |n::ns,t::ts=>iS n.data.toList++[92,40]++t++[41]++lj ns ts
def og:List (List UInt8)→List UInt8
 |[]=>[]
 |[e]=>[32,101,108,115,101,32]++e
 |c::t::r=>[32,101,108,105,102,32]++c++[32,116,104,101,110,32]++t++og r
def oj(ps:List ByteArray):List UInt8:=if ps=[]then[]else[40]++ih [59,32] (ps.map fun p=>p.data.toList)++[41]
abbrev je:N:=.mk Cn ⟨#[]⟩ V0 [] [] [] []
abbrev mR(k v:N):N:=.mk ⟨#[]⟩ ⟨#[]⟩ V0 [] [k,v] [] []
abbrev wb(k p:N):N:=.mk ⟨#[]⟩ ⟨#[]⟩ V0 [] [k] [p] []
abbrev jk(s:ByteArray):N:=.mk Cr ⟨#[]⟩ (.mk 4 0 s [] [] []) [] [] [] []
abbrev mu(s:ByteArray):N:=.mk Cx s V0 [] [] [] []
inductive Gd:Nat→N→List UInt8→Prop
 |dot:Gd 0 (.mk ⟨#[46]⟩ ⟨#[]⟩ V0 [] [] [] []) ([46])
 |LM:Gd 0 (.mk ⟨#[46,46]⟩ ⟨#[]⟩ V0 [] [] [] []) ([46,46])
 |val {v:V} {t:List UInt8} (h:sk v t):Gd 0 (.mk ⟨#[118,97,108]⟩ ⟨#[]⟩ v [] [] [] []) (t)
 |fmt {s:ByteArray} (hs:s∈ri):Gd 0 (.mk ⟨#[102,111,114,109,97,116]⟩ s V0 [] [] [] []) (s.data.toList)
 |za {s:ByteArray} (hs:jI s.data.toList=true):Gd 0 (.mk ⟨#[98,114,101,97,107]⟩ s V0 [] [] [] []) ([98,114,101,97,107,32]++(36::s.data.toList))
 |var {s:ByteArray} (hs:jI s.data.toList=true):Gd 0 (mu s) (36::s.data.toList)
 |Lg {f:ByteArray} {ns:List ByteArray} {ks:List N} {ts:List (List UInt8)} (hf:f=⟨#[]⟩∨f∈ri) (hn:ns.length=ks.length+1) (hv:∀s∈ns,Lib.validD s.data.toList=true) (hl:ks.length=ts.length) (h:∀(i:Nat)(h1:i<ks.length)(h2:i<ts.length),Gd 0 ks[i] ts[i]):Gd 0 (.mk ⟨#[116,101,120,116]⟩ f V0 ns ks [] []) (uz f++([34]++lj ns ts++[34]))
 |zO:Gd 0 (.mk ⟨#[108,105,115,116]⟩ ⟨#[]⟩ V0 [] [] [] []) ([91,93])
 |zH {k:N} {t:List UInt8} (h:Gd 0 k t):Gd 0 (.mk ⟨#[108,105,115,116]⟩ ⟨#[]⟩ V0 [] [k] [] []) ([91]++t++[93])
 |obj {ks:List N} {ts:List (List UInt8)} (hl:ks.length=2*ts.length) (h:∀(i:Nat)(h1:2*i+1<ks.length)(h2:i<ts.length),Gd 3 (mR (ks[2*i]'(TW h1)) ks[2*i+1]) ts[i]):Gd 0 (.mk ⟨#[111,98,106,101,99,116]⟩ ⟨#[]⟩ V0 [] ks [] []) (if ts=[]then[123,125]else[123,32]++ih [44,32] ts++[32,125])
 |call {s:ByteArray} {ks:List N} {ts:List (List UInt8)} (hs:BE s) (hl:ks.length=ts.length) (h:∀(i:Nat)(h1:i<ks.length)(h2:i<ts.length),Gd 0 ks[i] ts[i]):Gd 0 (.mk ⟨#[99,97,108,108]⟩ s V0 [] ks [] []) (s.data.toList++(if ts=[]then[]else[40]++ih [59,32] ts++[41]))
 |FP {s:ByteArray} {k:N} {t:List UInt8} (hv:Lib.validD s.data.toList=true) (h:Gd 0 k t):Gd 0 (.mk ⟨#[102,105,101,108,100]⟩ s V0 [] [k] [] []) (tH k t (iq s))
 |idx {k q:N} {t u:List UInt8} (h:Gd 0 k t) (hq:Gd 0 q u):Gd 0 (.mk ⟨#[105,110,100,101,120]⟩ ⟨#[]⟩ V0 [] [k,q] [] []) (qz k t ([91]++u++[93]))
 |LD {k q r:N} {t u v:List UInt8} (h:Gd 0 k t) (hq:Gd 0 q u) (hr:Gd 0 r v) (nq:iz q≠⟨#[110,111,110,101]⟩) (nr:iz r≠⟨#[110,111,110,101]⟩):Gd 0 (.mk ⟨#[115,108,105,99,101]⟩ ⟨#[]⟩ V0 [] [k,q,r] [] []) (qz k t ([91]++u++[58]++v++[93]))
 |LW {k q:N} {t u:List UInt8} (h:Gd 0 k t) (hq:Gd 0 q u) (nq:iz q≠⟨#[110,111,110,101]⟩):Gd 0 (.mk ⟨#[115,108,105,99,101]⟩ ⟨#[]⟩ V0 [] [k,q,je] [] []) (qz k t ([91]++u++[58]++[93]))
 |slt {k r:N} {t v:List UInt8} (h:Gd 0 k t) (hr:Gd 0 r v) (nr:iz r≠⟨#[110,111,110,101]⟩):Gd 0 (.mk ⟨#[115,108,105,99,101]⟩ ⟨#[]⟩ V0 [] [k,je,r] [] []) (qz k t ([91]++[58]++v++[93]))
 |each {k:N} {t:List UInt8} (h:Gd 0 k t):Gd 0 (.mk ⟨#[101,97,99,104]⟩ ⟨#[]⟩ V0 [] [k] [] []) (ib (n4 false k t) (false,[91,93]))
 |opt {k:N} {t:List UInt8} (h:Gd 0 k t):Gd 0 (.mk ⟨#[63]⟩ ⟨#[]⟩ V0 [] [k] [] []) (ib (n4 true k t) (false,[63]))
 |neg {k:N} {t:List UInt8} (h:Gd 0 k t):Gd 0 (.mk ⟨#[110,101,103]⟩ ⟨#[]⟩ V0 [] [k] [] []) ([45]++bx k t)
 |HZ {s:ByteArray} {k:N} {t:List UInt8} (hs:jI s.data.toList=true) (h:Gd 0 k t):Gd 0 (.mk ⟨#[108,97,98,101,108]⟩ s V0 [] [k] [] []) ([108,97,98,101,108,32]++(36::s.data.toList)++[32,124,32]++t)
 |vF {ds:List N} {us:List (List UInt8)} {k:N} {t:List UInt8} (hne:0<ds.length) (hl:ds.length=us.length) (hd:∀(i:Nat)(h1:i<ds.length)(h2:i<us.length),Gd 2 ds[i] us[i]) (h:Gd 0 k t):Gd 0 (.mk ⟨#[100,101,102]⟩ ⟨#[]⟩ V0 [] [k] [] ds) ((us.map (· ++[32])).flatten++t)
 |u4 {k:N} {t:List UInt8} (h:Gd 0 k t):Gd 0 (.mk ⟨#[116,114,121]⟩ ⟨#[]⟩ V0 [] [k] [] []) ([116,114,121,32]++bx k t)
 |ur {k q:N} {t u:List UInt8} (h:Gd 0 k t) (hq:Gd 0 q u):Gd 0 (.mk ⟨#[116,114,121]⟩ ⟨#[]⟩ V0 [] [k,q] [] []) ([116,114,121,32]++bx k t++[32,99,97,116,99,104,32]++bx q u)
 |red {k q r p:N} {t u v ta:List UInt8} (h:Gd 0 k t) (hp:Gd 1 p ta) (hq:Gd 0 q u) (hr:Gd 0 r v):Gd 0 (.mk ⟨#[114,101,100,117,99,101]⟩ ⟨#[]⟩ V0 [] [k,q,r] [p] []) ([114,101,100,117,99,101,32]++bx k t++[32,97,115,32]++ta++[32,40]++u++[59,32]++v++[41])
 |uh {k q r p:N} {t u v ta:List UInt8} (h:Gd 0 k t) (hp:Gd 1 p ta) (hq:Gd 0 q u) (hr:Gd 0 r v):Gd 0 (.mk ⟨#[102,111,114,101,97,99,104]⟩ ⟨#[]⟩ V0 [] [k,q,r] [p] []) ([102,111,114,101,97,99,104,32]++bx k t++[32,97,115,32]++ta++[32,40]++u++[59,32]++v++[41])
 |uI {k q r x p:N} {t u v y ta:List UInt8} (h:Gd 0 k t) (hp:Gd 1 p ta) (hq:Gd 0 q u) (hr:Gd 0 r v) (hx:Gd 0 x y):Gd 0 (.mk ⟨#[102,111,114,101,97,99,104]⟩ ⟨#[]⟩ V0 [] [k,q,r,x] [p] []) ([102,111,114,101,97,99,104,32]++bx k t++[32,97,115,32]++ta++[32,40]++u++[59,32]++v++[59,32]++y++[41])
 |MW {k q:N} {t u:List UInt8} {ks:List N} {ts:List (List UInt8)} (h0:Gd 0 k t) (hq:Gd 0 q u) (hl:ks.length=ts.length) (h:∀(i:Nat)(h1:i<ks.length)(h2:i<ts.length),Gd 0 ks[i] ts[i]):Gd 0 (.mk ⟨#[105,102]⟩ ⟨#[]⟩ V0 [] (k::q::ks) [] []) ([105,102,32]++t++[32,116,104,101,110,32]++u++og ts++[32,101,110,100])
 |Nn {k q:N} {t u:List UInt8} {ps:List N} {us:List (List UInt8)} (h:Gd 0 k t) (hq:Gd 0 q u) (hne:0<ps.length) (hl:ps.length=us.length) (hp:∀(i:Nat)(h1:i<ps.length)(h2:i<us.length),Gd 1 ps[i] us[i]):Gd 0 (.mk ⟨#[97,115]⟩ ⟨#[]⟩ V0 [] [k,q] ps []) (bx k t++[32]++iR true us++[124,32]++u)
 |bin {o:Nat} {k q:N} {t u:List UInt8} (ho:1≤o∧o≤24) (h:Gd 0 k t) (hq:Gd 0 q u):Gd 0 (.mk (jQ o) ⟨#[]⟩ V0 [] [k,q] [] []) (bx k t++(if o=2 then[]else[32])++mI o++[32]++bx q u)
 |pV {s:ByteArray} (hs:jI s.data.toList=true):Gd 3 (mR (mu s) je) (36::s.data.toList)
 |pN {s:ByteArray} (hs:jI s.data.toList=true):Gd 3 (mR (jk s) je) (s.data.toList)
 |pT {s:ByteArray} (hs:jI s.data.toList=false) (hv:Lib.validD s.data.toList=true):Gd 3 (mR (jk s) je) (qL s.data.toList)
 |pI {ns:List ByteArray} {ks:List N} {ts:List (List UInt8)} (hn:ns.length=ks.length+1) (hv:∀s∈ns,Lib.validD s.data.toList=true) (hl:ks.length=ts.length) (h:∀(i:Nat)(h1:i<ks.length)(h2:i<ts.length),Gd 0 ks[i] ts[i]):Gd 3 (mR (.mk ⟨#[116,101,120,116]⟩ ⟨#[]⟩ V0 ns ks [] []) je) ([34]++lj ns ts++[34])
 |Nv {k v:N} {t u:List UInt8} (h:Gd 0 k t) (hq:Gd 0 v u) (nv:iz v≠⟨#[110,111,110,101]⟩):Gd 3 (mR k v) ([40]++t++[41]++[58,32]++bx v u)
 |MV {s:ByteArray} (hs:jI s.data.toList=true):Gd 1 (.mk ⟨#[36]⟩ s V0 [] [] [] []) (36::s.data.toList)
 |L9 {ps:List N} {us:List (List UInt8)} (hne:0<ps.length) (hl:ps.length=us.length) (hp:∀(i:Nat)(h1:i<ps.length)(h2:i<us.length),Gd 1 ps[i] us[i]):Gd 1 (.mk ⟨#[91]⟩ ⟨#[]⟩ V0 [] [] ps []) ([91]++ih [44,32] us++[93])
 |MU {ks ps:List N} {us:List (List UInt8)} (hne:0<ps.length) (hk:ks.length=ps.length) (hl:ps.length=us.length) (hp:∀(i:Nat)(h0:i<ks.length)(h1:i<ps.length)(h2:i<us.length),Gd 4 (wb ks[i] ps[i]) us[i]):Gd 1 (.mk ⟨#[123]⟩ ⟨#[]⟩ V0 [] ks ps []) ([123]++ih [44,32] us++[125])
 |MR {s:ByteArray} (hs:jI s.data.toList=true):Gd 4 (wb (mu s) je) (36::s.data.toList)
 |DU {s:ByteArray} {p:N} {u:List UInt8} (hs:jI s.data.toList=true) (hp:Gd 1 p u):Gd 4 (wb (mu s) p) (36::s.data.toList++[58,32]++u)
 |EM {s:ByteArray} {p:N} {u:List UInt8} (hv:Lib.validD s.data.toList=true) (hp:Gd 1 p u):Gd 4 (wb (jk s) p) (qL s.data.toList++[58,32]++u)
 |df {s:ByteArray} {ps:List ByteArray} {k:N} {t:List UInt8} (hs:jI s.data.toList=true) (hp:∀p∈ps,uZ p) (h:Gd 0 k t):Gd 2 (.mk ⟨#[]⟩ s V0 ps [k] [] []) ([100,101,102,32]++s.data.toList++oj ps++[58,32]++t++[59])
mutual
def V.wt:V→Nat
 | .mk _ _ text list keys vals=>1+text.size+V.h9 list+(keys.map fun k=>k.size+1).sum+V.h9 vals
def V.h9:List V→Nat
 |[]=>0
 |v::r=>v.wt+V.h9 r
end
mutual
def N.wt:N→Nat
 | .mk op text val names kids pats defs=>1+op.size+text.size+val.wt+(names.map fun k=>k.size+1).sum+N.h9 kids+N.h9 pats+N.h9 defs
def N.h9:List N→Nat
 |[]=>0
 |v::r=>v.wt+N.h9 r
end
theorem V.iP:∀{l:List V}{i:Nat}(h:i<l.length),l[i].wt≤V.h9 l
 |b::l,0,_=>by simp[V.h9]
 |b::l,i+1,h=>by have:=V.iP (l:=l) (i:=i) AU;simp only[TZ,V.h9];omega
theorem N.iP:∀{l:List N}{i:Nat}(h:i<l.length),l[i].wt≤N.h9 l
 |b::l,0,_=>by simp[N.h9]
 |b::l,i+1,h=>by have:=N.iP (l:=l) (i:=i) AU;simp only[TZ,N.h9];omega
theorem V.om(b:V):1≤b.wt:=by cases b;simp only[V.wt];omega
theorem N.om(b:N):1≤b.wt:=by cases b;simp only[N.wt];omega
theorem V.iw:∀(l:List V),l.length≤V.h9 l
 |[]=>Tv _
 |b::c=>by have:=V.iw c;have:=b.om;simp only[To,V.h9];omega
theorem N.iw:∀(l:List N),l.length≤N.h9 l
 |[]=>Tv _
 |b::c=>by have:=N.iw c;have:=b.om;simp only[To,N.h9];omega
theorem jY:∀(b:List ByteArray),b.length≤(b.map fun c=>c.size+1).sum
 |[]=>Tv _
 |f::d=>by have:=jY d;simp only[To,T8,Ui];omega
theorem lM:∀{l:List ByteArray}{i:Nat}(h:i<l.length),l[i].size+1≤(l.map fun b=>b.size+1).sum
 |c::l,0,_=>by simp
 |c::l,i+1,h=>by have:=lM (l:=l) (i:=i) AU;simp only[TZ,T8,Ui];omega
end Go.Proofs.YtlojelcoibpphaaGreatDoor
namespace Go.Proofs.YtlojelcoibpphaaGreatDoor
open Go Go.RowKit D
variable{L M:List UInt8}{uA:UInt8}
abbrev iY:ByteArray:=⟨#[110,97,109,101]⟩
abbrev kB:ByteArray:=Cu
abbrev lP:ByteArray:=⟨#[118,97,114]⟩
abbrev lu:ByteArray:=Cz
abbrev vf:ByteArray:=CX
abbrev kU:ByteArray:=⟨#[115,116,114]⟩
abbrev jU:ByteArray:=⟨#[111,112]⟩
abbrev v8:ByteArray:=CW
abbrev Gh:ByteArray:=⟨#[98,97,100]⟩
abbrev bE:ByteArray:=⟨#[]⟩
def ba(l:List UInt8):ByteArray:=⟨l.toArray⟩
def jK(c:UInt8):Bool:=c==32||c==9||c==10||c==13
def p6:List UInt8→List UInt8
 |[]=>[]
 |c::r=>if jK c then p6 r else c::r
def zJ:List UInt8→Nat
 |[]=>0
 |c::r=>if jt false c then zJ r+1 else 0
def wd:List UInt8→Nat
 |[]=>0
 |c::r=>if jt true c then zJ r+1 else 0
def p4(c:UInt8):Bool:=48≤c&&c≤57
def kM(l:List UInt8):UInt8:=match l with
 |[]=>32
 |c::_=>c
def nu:List UInt8→Nat
 |[]=>0
 |c::r=>if p4 c||(c==46&&p4 (kM r))then nu r+1 else 0
def ly:List ByteArray:=[⟨#[63,47,47]⟩,⟨#[47,47,61]⟩,⟨#[124,61]⟩,⟨#[43,61]⟩,⟨#[45,61]⟩,⟨#[42,61]⟩,⟨#[47,61]⟩,⟨#[37,61]⟩,⟨#[61,61]⟩,⟨#[33,61]⟩,⟨#[60,61]⟩,⟨#[62,61]⟩,CY,CL]
def r5:List UInt8:=[46,91,93,40,41,123,125,124,44,58,59,61,43,45,42,47,37,60,62,63]
def sg(l:List UInt8):ByteArray×ByteArray×List UInt8:=match ly.find? (fun s=>s.data.toList.isPrefixOf l)with
 |some s=>(jU,s,l.drop s.size)
 |none=>(if r5.contains (kM l)then jU else Gh,ba (l.take 1),l.drop 1)
def p5(l:List UInt8):ByteArray×ByteArray×List UInt8:=match l with
 |[]=>(v8,bE,[])
 |c::r=>
  if wd (c::r)≠0 then(iY,ba ((c::r).take (wd (c::r))),(c::r).drop (wd (c::r)))
  else if c=34 then(kU,bE,r)
  else if c=46∧wd r≠0 then(kB,ba (r.take (wd r)),r.drop (wd r))
  else if c=36∧wd r≠0 then(lP,ba (r.take (wd r)),r.drop (wd r))
  else if c=64∧wd r≠0 then(lu,ba (64::r.take (wd r)),r.drop (wd r))
  else if p4 c then(vf,ba ((c::r).take (nu (c::r))),(c::r).drop (nu (c::r)))
  else sg (c::r)
def lx(l:List UInt8):ByteArray×ByteArray×List UInt8:=p5 (p6 l)
theorem iO(b:ByteArray):ba b.data.toList=b:=by unfold ba;simp
theorem wK:∀(b c:List UInt8),b.all (jt false)=true→jt false (kM c)=false→zJ (b++c)=b.length
 |[],[],_,_=>rfl
 |[],d::c,_,h=>by simp only[kM]at h;simp[zJ,h]
 |d::b,c,hw,h=>by
  simp only[Vw,Tx]at hw
  simp only[TH,zJ,hw.1,if_true,wK b c hw.2 h,To]
theorem sZ(hw:jI L)(h:jt false (kM M)=false):wd (L++M)=L.length:=by
 cases L with
 |nil=>cases hw
 |cons b L=>
  simp only[jI,Tx]at hw
  simp only[TH,wd,hw.1,if_true,wK L M hw.2 h,To]
theorem EO(h:jt true (kM L)=false):wd L=0:=by
 cases L with
 |nil=>rfl
 |cons b c=>simp only[kM]at h;simp[wd,h]
theorem JD(h:jt false uA=false):jt true uA=false:=by
 unfold jt at h⊢
 simp only[Uq]at h⊢
 exact⟨h.1,by simp⟩
theorem zg(h:jt true uA):jK uA=false:=by
 unfold jt at h
 unfold jK
 simp only[TO,Tx,TA,Uh,Bool.not_true,VY,Bool.or_false,T1,←TV,Uq,beq_eq_false_iff_ne,ne_eq,reduceCtorEq,TD]at h⊢
 simp only[UInt8.reduceToNat]at h⊢
 omega
theorem od(h:jK uA=false):p6 (uA::L)=uA::L:=by simp[p6,h]
theorem sn(h:jI L):∃b c,L=b::c∧jt true b=true:=by
 cases L with
 |nil=>cases h
 |cons b c=>simp only[jI,Tx]at h;exact⟨b,c,rfl,h.1⟩
theorem kY{w l:List UInt8}(hw:jI w)(h:jt false (kM l)=false):lx (w++l)=(iY,ba w,l):=by
 obtain⟨b,c,rfl,hc⟩:=sn hw
 have h1:=sZ hw h
 unfold lx
 rw[TH,od (zg hc)]
 unfold p5
 simp only[TH]at h1
 simp only[h1]
 rw[TU Al]
 simp
theorem mQ{l:List UInt8}(hw:jI L)(h:jt false (kM l)=false):lx (36::(L++l))=(lP,ba L,l):=by
 have h1:=sZ hw h
 obtain⟨b,c,rfl,hc⟩:=sn hw
 unfold lx
 rw[od (by rfl)]
 unfold p5
 simp only[h1]
 simp[wd,show jt true 36=false from rfl]
theorem zG(hw:jI L)(h:jt false (kM M)=false):lx (46::(L++M))=(kB,ba L,M):=by
 have h1:=sZ hw h
 obtain⟨b,c,rfl,hc⟩:=sn hw
 unfold lx
 rw[od (by rfl)]
 unfold p5
 simp only[h1]
 simp[wd,show jt true 46=false from rfl]
theorem zl{l:List UInt8}(hw:jI L)(h:jt false (kM l)=false):lx (64::(L++l))=(lu,ba (64::L),l):=by
 have h1:=sZ hw h
 obtain⟨b,c,rfl,hc⟩:=sn hw
 unfold lx
 rw[od (by rfl)]
 unfold p5
 simp only[h1]
 simp[wd,show jt true 64=false from rfl]
theorem wg(c:jK uA=false)(d:jt true uA=false)(b:uA≠34∧uA≠36∧uA≠64)(f:uA=46→jt true (kM L)=false)(g:p4 uA=false)(hs:ly.find? (fun s=>s.data.toList.isPrefixOf (uA::L))=none)(hc:r5.contains uA):lx (uA::L)=(jU,ba [uA],L):=by
 unfold lx
 rw[od c]
 unfold p5
 have h1:wd (uA::L)=0:=EO d
 simp only[h1]
 rw[TI Al,TI b.1,TI (fun h=>h.2 (EO (f h.1))),TI (fun h=>b.2.1 h.1),TI (fun h=>b.2.2 h.1),TI (by rw[g];decide)]
 unfold sg
 rw[hs]
 show(if r5.contains uA then jU else Gh,ba [uA],L)=_
 rw[hc];rfl
theorem HX{b:List UInt8}{i:Nat}(hi:i≤b.length)(h:∀c (hj:c<b.length),c<i→jt (decide (c=0)) b[c]=true)(d:∀(hj:i<b.length),jt (decide (i=0)) b[i]=false):wd b=i:=by
 have g:∀(b:List UInt8)(i:Nat),i≤b.length→(∀c (hj:c<b.length),c<i→jt false b[c]=true)→(∀(hj:i<b.length),jt false b[i]=false)→zJ b=i:=by
  intro b
  induction b with
  |nil=>intro i hi _ _;simp only[Tw]at hi;simp[zJ];omega
  |cons j f k=>
   intro i hi h d
   cases i with
   |zero=>have:=d Al;simp only[TF]at this;simp[zJ,this]
   |succ i=>
    have h0:=h 0 Al Ac
    simp only[TF]at h0
    simp only[zJ,h0,if_true]
    rw[k i A3 (fun c hj l=>by have:=h (c+1) B1 Ac;simpa using this) (fun hj=>by have:=d B1;simpa using this)]
 cases b with
 |nil=>simp only[Tw]at hi;simp[wd];omega
 |cons j f=>
  cases i with
  |zero=>have:=d Al;simp only[TF,decide_true]at this;simp[wd,this]
  |succ i=>
   have h0:=h 0 Al Ac
   simp only[TF,decide_true]at h0
   simp only[wd,h0,if_true]
   rw[g f i A3 (fun c hj l=>by have:=h (c+1) B1 Ac;simpa using this) (fun hj=>by have:=d B1;simpa using this)]
def rL(l:List UInt8)(j:Nat):Bool:=p4 (l.getD j 0)||(l.getD j 0==46&&p4 (l.getD (j+1) 32))
theorem nW:∀{f:List UInt8}{i:Nat},i≤f.length→(∀c,c<i→rL f c=true)→(i<f.length→rL f i=false)→nu f=i
 |[],i,hi,_,_=>by simp only[Tw]at hi;simp[nu];omega
 |d::b,0,_,_,g=>by
  have:=g Al
  have e:rL (d::b) 0=(p4 d||(d==46&&p4 (kM b))):=by cases b<;>rfl
  rw[e]at this
  unfold nu
  rw[this];rfl
 |d::b,i+1,hi,h,g=>by
  have h0:=h 0 Ac
  have e:rL (d::b) 0=(p4 d||(d==46&&p4 (kM b))):=by cases b<;>rfl
  have j:∀c,rL (d::b) (c+1)=rL b c:=fun c=>rfl
  rw[e]at h0
  unfold nu
  rw[h0,TU rfl,nW (i:=i) A3 (fun c hj=>by have:=h (c+1) Ac;rwa[j]at this) (fun hj=>by have:=g B1;rwa[j]at this)]
theorem sI(h:∀s∈ly,s.data.toList.isPrefixOf (uA::L)=false):ly.find? (fun s=>s.data.toList.isPrefixOf (uA::L))=none:=by
 rw[List.find?_eq_none];intro s hs;rw[h s hs];decide
end Go.Proofs.YtlojelcoibpphaaGreatDoor
namespace Go.Proofs.YtlojelcoibpphaaGreatDoor
open Go Go.RowKit D Go.Deep Go.Proofs
theorem ve(c:Nat)(d:List Value):∀(b:Nat)(a:Array Value),((d.zipIdx b).foldl (fun(g:Array Value) (f:Value×Nat)=>g.setIfInBounds (c+f.2) f.1) a).size=a.size∧
  ∀i,i<a.size→((d.zipIdx b).foldl (fun(g:Array Value) (f:Value×Nat)=>g.setIfInBounds (c+f.2) f.1) a)[i]? =if c+b≤i∧i<c+b+d.length then d[i - (c+b)]? else a[i]? :=by
 induction d with
 |nil=>intro b a;simp;intro i hi h1 h2;omega
 |cons j d l=>
  intro b a
  obtain⟨h1,h2⟩:=l (b+1) (a.setIfInBounds (c+b) j)
  simp only[List.zipIdx_cons,Vy]
  refine⟨by rw[h1];simp,fun i hi=>?_⟩
  rw[h2 i A3]
  by_cases m:i=c+b
  ·subst m
   rw[TI Ac,TU Al]
   simp[hi]
  by_cases hc:c+(b+1)≤i∧i<c+(b+1)+d.length
  ·rw[TU hc,TU AM]
   rw[show i - (c+b)=(i - (c+(b+1)))+1 by omega]
   simp
  rw[TI hc,TI AM,U5 Ac]
def uL:Nat→List (Array Value)→List (Nat×Value)
 |_,[]=>[]
 |k,c::r=>(k,.agg c)::uL (k+1) r
theorem uN{b:Nat}:∀(css:List (Array Value))(k:Nat)(c:Array Value),(∀d∈css,d.size=b)→(k+css.length)*b≤c.size→
  ∃f,Instr.fill (fun i=>some (i*b,b)) c (uL k css)=some f∧f.size=c.size∧∀i,i<c.size→f[i]? =if k*b≤i∧i<(k+css.length)*b then(hS css)[i - k*b]? else c[i]?
 |[],k,c,_,_=>⟨c,rfl,rfl,fun i hi=>by rw[TI Al]⟩
 |d::css,k,c,hs,hl=>by
  have hc:d.size=b:=hs d Al
  have g:(k+(d::css).length)*b=(k+1+css.length)*b:=by rw[To];congr 1;omega
  rw[g]at hl
  have u:(k+1)*b≤(k+1+css.length)*b:=UP _ Ac
  have v:(k+1)*b=k*b+b:=VB _ _
  obtain⟨h1,h2⟩:=ve (k*b) d.toList 0 c
  obtain⟨f,m,o,p⟩:=uN css (k+1) ((d.toList.zipIdx 0).foldl (fun(q:Array Value) (j:Value×Nat)=>q.setIfInBounds (k*b+j.2) j.1) c) (fun x hx=>hs x Ci) (by rw[h1];exact hl)
  refine⟨f,?_,by rw[o,h1],fun i hi=>?_⟩
  ·unfold uL Instr.fill
   have r:(Value.agg d).cells=d:=rfl
   simp only[r]
   rw[TI (by simp only[hc,ne_eq,not_true_eq_false,decide_false,Bool.false_or,TA];omega)]
   rw[←m]
   congr 1
   rw[←Array.foldl_toList,Array.toList_zipIdx]
  ·rw[p i (by rw[h1];exact hi),g]
   have t:d.toList.length=b:=by simpa using hc
   by_cases l:(k+1)*b≤i∧i<(k+1+css.length)*b
   ·rw[TU l,TU Ac]
    simp only[hS,US]
    rw[Uy Ac,t]
    congr 1;omega
   ·rw[TI l,h2 i hi]
    by_cases y:k*b≤i∧i<(k+1)*b
    ·rw[TU Ac,TU Ac]
     simp only[hS,US]
     rw[UB Ac];simp
    ·rw[TI Ac,TI Ac]
theorem zP{b:Nat}{css:List (Array Value)}{c:Array Value}(hs:∀d∈css,d.size=b)(hl:c.size=css.length*b):Instr.fill (fun i=>some (i*b,b)) c (uL 0 css)=some (hS css).toArray:=by
 obtain⟨j,h1,h2,f⟩:=uN css 0 c hs (by rw[T9,hl];exact Tv _)
 rw[h1];congr 1
 apply Array.ext_getElem?
 intro i
 have g:=ju hs
 by_cases hi:i<c.size
 ·rw[f i hi,TU (by rw[Nat.zero_mul,T9];omega)];simp
 rw[Uz Ac,Uz (by simp[g];omega)]
theorem D.DL.Ez{d:Program}{n:Nat}{e:Env}{w:World}{o t:List Oper}{u:Env→World→Prop}{y:TypeId}{z:String}{A:Array Edge}{p:Option (Nat×Bool)}{f l q B m c:Nat}{g:List (Nat×Operand)}{css:List (Array Value)}(C:hU o e p)(E:Nat.blt m n)(ht:lR d f l q B)
  (F:GJ e g=uL 0 css) (hl:css.length=c) (hs:∀G∈css,G.size=q) (h0:0<c) (I:c≤8)
  (k:∀b w',Fr [] w w'→w.heap.size≤b→b<w'.heap.size→w'.heap[b]? =some (.cells (hS css).toArray l (0,0))→DL d n o t (jZ e m (.slice (some ⟨b,0,none⟩) c c)) w' u):
  DL d n o (⟨some m,.buildSlice f c g.toArray,y,z,A,p⟩::t) e w u:=by
 obtain⟨i,J,h1,h2,r,Q,K,R,L,M⟩:=kj ht
 have U:c*q≤8*1000:=Nat.mul_le_mul I M
 have hrun:=run_buildSlice (P:=d) w f l c (uL 0 css).toArray (hS css).toArray i J h1 h2 K (by rw[r];omega) (by rw[r];intro h;have:=Nat.mul_pos h0 L;omega) (by
  rw[r]
  exact zP hs (by simp[hl]))
 refine DL.run (w':={w with heap:=w.heap.push (.cells (hS css).toArray l)}) C E (v:=.slice (some ⟨w.heap.size,0,none⟩) c c) ?_ (k w.heap.size _ (mN w _) (Tv _) Al (mr w _))
 have O:execOp (ev e) ⟨some m,.buildSlice f c g.toArray,y,z,A,p⟩=(do pure (.value (←Instr.buildSlice f c (g.toArray.map (fun j=>(j.1,ev e j.2)))))):=rfl
 have P:g.toArray.map (fun j=>(j.1,ev e j.2))=(uL 0 css).toArray:=by rw[←F,tj];simp
 rw[O,P]
 simp only[Sem.run_bind,hrun,Result.andThen_ok,Sem.run_pure]
 rfl
theorem D.bN{d:Program}{n:Nat}{e:Env}{w:World}{f j:List Oper}{l:Env→World→Prop}{t:TypeId}{u:String}{v:Array Edge}{m:Option (Nat×Bool)}{o p q y g b:Nat}{r:List (Nat×Operand)}{css:List (Array Value)}(ht:lR d o p q y)
  (z:GJ e r=uL 0 css) (hl:css.length=b) (hs:∀A∈css,A.size=q)
  (k:∀c w',Sp [] w w'→w.heap.size≤c→c<w'.heap.size→w'.heap[c]? =some (.cells (hS css).toArray p (0,0))→DL d n f j (jZ e g (.slice (some ⟨c,0,none⟩) b b)) w' l) (h0:0<b:=by decide) (B:b≤8:=by decide) (C:hU f e m=true:=by rfl) (E:Nat.blt g n=true:=by rfl):
  DL d n f (⟨some g,.buildSlice o b r.toArray,t,u,v,m⟩::j) e w l:=DL.Ez C E ht z hl hs h0 B fun c w' F=>k c w' ⟨F⟩
theorem D.DK.if{g:Program}{n:Nat}{e:Env}{w:World}{b:List Oper}{S:World→Prop}{j:Nat}{d:Array Bool}{l:Env→World→Prop}{c:Oper}{f:Prop}[Decidable f](i:Nat)(hi:kW b i=some c)(hs:Region.noSelect b.toArray)(m:Region.free .any b.toArray d i)(o:(Region.ready .any b.toArray d).contains i)
  (p:hU b e c.guard) (q:nE n c.dst) (h:∀w,S w→Y g e c w (.bool (decide f)))
  (ht:f→DK g n b S j (d.setIfInBounds i true) (put e c.dst (.bool true)) w l) (r:¬f→DK g n b S j (d.setIfInBounds i true) (put e c.dst (.bool false)) w l):DK g n b S (j+1) d e w l:=by
 by_cases hc:f
 ·exact DK.take i hi hs m o p q (v:=.bool true) (fun w hw=>by have:=h w hw;rwa[Th hc]at this) (ht hc)
 exact DK.take i hi hs m o p q (v:=.bool false) (fun w hw=>by have:=h w hw;rwa[Ti hc]at this) (r hc)
theorem D.DK.u5{f:Program}{n:Nat}{e:Env}{w:World}{b:List Oper}{S:World→Prop}{j:Nat}{d:Array Bool}{l:Env→World→Prop}{c:Oper}{g:Bool}(i:Nat)(hi:kW b i=some c)(hs:Region.noSelect b.toArray)(m:Region.free .any b.toArray d i)(o:(Region.ready .any b.toArray d).contains i)
  (p:hU b e c.guard) (q:nE n c.dst) (h:∀w,S w→Y f e c w (.bool g))
  (ht:g=true→DK f n b S j (d.setIfInBounds i true) (put e c.dst (.bool true)) w l) (r:g=false→DK f n b S j (d.setIfInBounds i true) (put e c.dst (.bool false)) w l):DK f n b S (j+1) d e w l:=by
 cases g with
 |true=>exact DK.take i hi hs m o p q h (ht rfl)
 |false=>exact DK.take i hi hs m o p q h (r rfl)
theorem D.DC.mz{f:Program}{n:Nat}{e:Env}{w:World}{l:List Oper}{id:Nat}{d:Exit→Env→World→Prop}(j:List Nat)(m:f.follows .mixedOrders)
  (h:∀w',Fr [] w w'→w'.heap.size=w.heap.size→DK f n l (Fr j w') l.length (Array.replicate l.length false) e w' (fun o p=>d .normal o p)):DC f n (.region id l.toArray true) e w d:=by
 refine⟨fun a q=>wp_region_noPanic (wp_region_held (S:=Fr j {w with drawn:=w.drawn+1}) m ?_)⟩
 have:=(h _ (Fr.drawn w (w.drawn+1)) rfl).out a (NoPanic fun x g w'=>∃b,mJ n g b∧(∀c,c∉ji (.region id l.toArray true)→b c=e c)∧d x b w') q (Fr.refl _ _) (fun t a w h=>h) (fun g b w' h1 h2 r=>
  (show∃b,mJ n g b∧(∀c,c∉ji (.region id l.toArray true)→b c=e c)∧d .normal b w' from⟨b,h1,fun c ht=>h2 c Br,r⟩))
 simpa using this
theorem D.DL.mK{c:Program}{n:Nat}{e:Env}{w:World}{j m:List Oper}{o:Env→World→Prop}{v:TypeId}{z:String}{A:Array Edge}{p:Option (Nat×Bool)}{x y:Operand}{g l:TypeId}{b d q:Nat}{f cs new:Array Value}(B:hU j e p)(ht:l9 c g q)(hx:ev e x=.pointer (some ⟨b,d,none⟩))(C:ev e y=.agg cs)(hs:cs.size=q)(h1:cs.all (·.oneCell'))
  (r:w.heap[b]? =some (.cells f l (0,0))) (E:Nat.ble (d+cs.size) f.size) (F:(f.toList.take d++cs.toList++f.toList.drop (d+cs.size)).toArray=new)
  (k:∀w',Fr [b] w w'→w'.heap.size=w.heap.size→w'.heap[b]? =some (.cells new l (0,0))→DL c n j m e w' o):
  DL c n j (⟨none,.store g x y,v,z,A,p⟩::m) e w o:=by
 have t:(c.info? g).map (·.size)=some cs.size:=by
  unfold l9 at ht
  rw[Tx]at ht
  cases hi:c.info? g with
  |none=>rw[hi]at ht;cases ht.2
  |some i=>rw[hi]at ht;simp only[Vd,hs];simpa using ht.2
 have G:=TM E
 have u:=run_storeCells_at c b d l cs.toList 0 f w r (by simpa using G) (fun I J=>(VC.1 h1) I (by simpa using J))
 have hrun:(storeVar g ⟨b,d,none⟩ (.agg cs)).run c w=.ok () (w.setRow b new):=by
  cases hq:c.info? g with
  |none=>simp[hq]at t
  |some i=>
   have K:cs.size=i.size:=by simp[hq]at t;omega
   have L:(f.toList.take (d+0)++cs.toList++f.toList.drop (d+0+cs.toList.length)).toArray=new:=by rw[←F];simp
   rw[L]at u
   simp[storeVar,sizeOf,typeInfo,hq,Value.cells,K,u]
 refine DL.Kz (w':=w.setRow b new) B rfl ?_ (k _ ⟨rfl,rfl,rfl,by simp[World.setRow],fun i hi M=>?_⟩ (by simp[World.setRow]) ?_)
 ·simp only[execOp,hx,C,Instr.storeAt,Instr.sureAddr,Sem.run_bind,Sem.run_pure,Result.andThen_ok,hrun]
 ·have O:b≠i:=fun h=>M (by simp[h])
  simp[World.setRow,UZ,O]
 simp[World.setRow,UZ,r]
def Dn(lo hi:Nat)(c:Nat):Prop:=lo≤c∧c<hi
def DV(vs:List Nat)(lo hi:Nat)(c:Nat):Prop:=lo≤c∧c<hi∧c∉vs
theorem DV.dn{f:List Nat}{lo hi c d:Nat}(h1:c≤lo)(h2:hi≤d):∀b,DV f lo hi b→Dn c d b:=fun b h=>⟨Tq h1 h.1,Tj h.2.1 h2⟩
theorem RN.k9{w w':World}{D:Nat→Prop}{k:Nat}{b:N}{c:Array Value}(h:RN w D k b c)(d:Fr [] w w'):RN w' D k b c:=h.fr d (fun g _ f=>by cases f)
theorem RN.PB{w w':World}{c:List Nat}{lo hi b k:Nat}{d:N}{f:Array Value}(h:RN w (DV c lo hi) k d f)(g:Fr [b] w w')(hs:b<lo∨hi≤b∨b∈c):RN w' (DV c lo hi) k d f:=h.fr g (fun l hc j=>by
 rcases Tt.1 j with rfl
 rcases hs with h|h|h
 ·have:=hc.1;omega
 ·have:=hc.2.1;omega
 ·exact hc.2.2 h)
theorem RN.Q1{w w':World}{d:Nat→Prop}{f:List Nat}{lo hi c k:Nat}{g:N}{j:Array Value}(h:RN w (fun b=>d b∨DV f lo hi b) k g j)(l:Fr [c] w w')(h0:¬d c)(hs:c<lo∨hi≤c∨c∈f):RN w' (fun b=>d b∨DV f lo hi b) k g j:=h.fr l (fun b hc m=>by
 rcases Tt.1 m with rfl
 rcases hc with hc|hc
 ·exact h0 hc
 rcases hs with h|h|h
 ·have:=hc.1;omega
 ·have:=hc.2.1;omega
 ·exact hc.2.2 h)
theorem FJ{w:World}{c b d f:Nat}{css:List (Array Value)}(g:w.heap[b]? =some (.cells (hS css).toArray d (0,0)))(j:c≤b)(hs:∀l∈css,l.size=f)(h0:css.length≤maxLen):w.ownsRow c d f (.slice (some ⟨b,0,none⟩) css.length css.length) css.length (hS css):=by
 have hl:=ju hs
 refine⟨hl,.inr ⟨b,css.length,(hS css).toArray,rfl,j,g,Tv _,h0,?_,?_⟩⟩
 ·simp[hl]
 rw[←hl];simp
def DX(X:Nat→Prop)(lo hi:Nat)(c:Nat):Prop:=lo≤c∧c<hi∧¬X c
structure NC(w:World)(k T sz:Nat)(X:Nat→Prop)(lo H:Nat)(ns:List N)(sl:Value)(css:List (Array Value)):Prop where
 own:w.ownsRow lo T sz sl ns.length (hS css)
 ob:∀b,sl.ownBlock=some b→b<H∧¬X b
 len:css.length=ns.length
 xk:∀c∈css,c.size=sz
 el:∀(i:Nat)(h1:i<ns.length)(h2:i<css.length),RN w (fun c=>DX X lo H c∧sl.ownBlock≠some c) k ns[i] css[i]
section
variable{S:List Nat}{w w':World}{k T sz:Nat}{X:Nat→Prop}{lo H:Nat}{ns:List N}{sl:Value}{css:List (Array Value)}
theorem NC.nil(w:World)(k T sz:Nat)(X:Nat→Prop)(lo H:Nat):NC w k T sz X lo H [] Zl []:=
 ⟨World.ownsRow_nil _ _ _ _,(fun b h=>by simp[Value.ownBlock]at h),rfl,(fun c h=>by cases h),(fun i h=>by cases h)⟩
theorem NC.fr(h:NC w k T sz X lo H ns sl css)(d:Fr S w w')(hs:∀b∈S,b<lo∨H≤b∨X b):NC w' k T sz X lo H ns sl css:=by
 refine⟨kX h.own d (fun b c f=>?_),h.ob,h.len,h.xk,fun i h1 h2=>(h.el i h1 h2).fr d (fun b c g=>?_)⟩
 ·have h1:=h.ob b f
  have h2:=(ik h.own b (hF.2 f)).1
  rcases hs b c with h|h|h
  ·omega
  ·omega
  exact h1.2 h
 rcases hs b g with h|h|h
 ·have:=c.1.1;omega
 ·have:=c.1.2.1;omega
 exact c.1.2.2 h
theorem NC.g(h:NC w k T sz X lo H ns sl css)(b:NC w k T sz X lo H ns sl css→NC w' k T sz X lo H ns sl css:=by exact Gq):NC w' k T sz X lo H ns sl css:=b h
theorem NC.k9(h:NC w k T sz X lo H ns sl css)(b:Fr [] w w'):NC w' k T sz X lo H ns sl css:=h.fr b (fun d c=>by cases c)
theorem NC.n6{b:Nat}(h:NC w k T sz X lo H ns sl css)(c:Fr [b] w w')(d:b<lo∨H≤b∨X b):NC w' k T sz X lo H ns sl css:=h.fr c (fun g f=>by rcases Tt.1 f with rfl;exact d)
theorem NC.up{X':Nat→Prop}{f:Nat}(h:NC w k T sz X lo H ns sl css)(g:H≤f)(j:∀b,lo≤b→b<H→X' b→X b):NC w k T sz X' lo f ns sl css:=
 ⟨h.own,fun b c=>⟨Tj (h.ob b c).1 g,fun d=>(h.ob b c).2 (j b (ik h.own b (hF.2 c)).1 (h.ob b c).1 d)⟩,h.len,h.xk,fun i h1 h2=>(h.el i h1 h2).mono (fun l hc=>⟨⟨hc.1.1,Tj hc.1.2.1 g,fun d=>hc.1.2.2 (j l hc.1.1 hc.1.2.1 d)⟩,hc.2⟩)⟩
theorem NC.snoc{f:Value}{g:Array Value}{n:N}(h:NC w k T sz X lo H ns sl css)(z:H≤w.heap.size)(t:¬X w.heap.size)(hs:g.size=sz)
  (u:RN w (fun d=>lo≤d∧H≤d∧d<w.heap.size∧¬X d) k n g) (j:Fr (hX sl) w w') (m:w'.ownsRow lo T sz f (ns.length+1) (hS css++g.toList)) (o:f.ownBlock=sl.ownBlock∨f.ownBlock=some w.heap.size):
  NC w' k T sz X lo w'.heap.size (ns++[n]) f (css++[g]):=by
 have A:=j.size
 have p:∀b,b<w.heap.size→sl.ownBlock≠some b→f.ownBlock≠some b:=fun b c v=>by
  rcases o with h1|h1
  ·rw[h1];exact v
  rw[h1];intro h2;cases h2;omega
 refine⟨by rw[ra];simpa using m,fun b c=>⟨(ik m b (hF.2 c)).2,?_⟩,by simp[h.len],fun d hc=>?_,fun i h1 h2=>?_⟩
 ·rcases o with h1|h1
  ·exact(h.ob b (h1▸c)).2
  rw[h1]at c;cases c;exact t
 ·rcases Uc.1 hc with hc|hc
  ·exact h.xk d hc
  rw[Tt.1 hc];exact hs
 by_cases hi:i<ns.length
 ·have q:i<css.length:=by rw[h.len];exact hi
  rw[TC hi,TC q]
  refine((h.el i hi q).fr j (fun b c l=>c.2 (hF.1 l))).mono (fun b c=>⟨⟨c.1.1,by have:=c.1.2.1;omega,c.1.2.2⟩,p b (by have:=c.1.2.1;omega) c.2⟩)
 have y:i=ns.length:=by simp only[Tl,TG]at h1;omega
 subst y
 rw[Tz (Tv _),Tz (by rw[h.len];exact Tv _)]
 simp only[h.len,UF,TF]
 have r:∀b,sl.ownBlock=some b→b<H:=fun b c=>(h.ob b c).1
 refine(u.fr j (fun b c l=>by have:=r b (hF.1 l);omega)).mono (fun b c=>⟨⟨c.1,Ac,c.2.2.2⟩,p b c.2.2.1 (fun e=>by have:=r b e;omega)⟩)
theorem NC.done(h:NC w k T sz X lo H ns sl css)(j:0<sz):∃a c,sl=.slice a ns.length c∧hT w (DX X lo H) a ns.length sz (fun i=>css.getD i #[])∧(∀(i:Nat)(hi:i<ns.length),RN w (DX X lo H) k ns[i] (css.getD i #[]))∧ns.length≤c:=by
 obtain⟨a,c,l,m⟩:=qQ h.own h.xk h.len j
 subst l
 refine⟨a,c,rfl,m.mono (fun d b=>⟨(ik h.own d (hF.2 b)).1,(h.ob d b).1,(h.ob d b).2⟩),fun i hi=>?_,?_⟩
 ·have f:i<css.length:=by rw[h.len];exact hi
  have e:css.getD i #[]=css[i]:=by simp[TL,f]
  rw[e]
  exact(h.el i hi f).mono (fun d b=>b.1)
 rcases h.own.2 with⟨h1,_⟩|⟨o,p,q,h1,_,_,g,_⟩
 ·injection h1 with _ h2 g;omega
 injection h1 with _ _ h2;subst h2;exact g
theorem NC.one(h:NC w k T sz X lo H ns sl css):sl.oneCell'=true:=by
 obtain⟨a,b,rfl,_⟩:=kg h.own;rfl
theorem NC.hE{b:Nat}{n:N}{c:Array Value}(d:w.heap[b]? =some (.cells (hS [c]).toArray T (0,0)))(f:lo≤b)(g:b<H)(j:¬X b)(hs:c.size=sz)(hc:RN w (fun x=>DX X lo H x∧b≠x) k n c):NC w k T sz X lo H [n] (.slice (some ⟨b,0,none⟩) 1 1) [c]:=
 ⟨FJ (css:=[c]) d f (fun x hx=>by rw[Tt.1 hx];exact hs) (by show 1≤_;decide),(fun x hx=>by simp only[Value.ownBlock,UD]at hx;subst hx;exact⟨g,j⟩),rfl,(fun x hx=>by rw[Tt.1 hx];exact hs),(fun i h1 h2=>by have:i=0:=AW;subst this;exact hc.mono (fun x hx=>⟨hx.1,by simp only[Value.ownBlock,ne_eq,UD];exact hx.2⟩))⟩
end
structure SC(w:World)(X:Nat→Prop)(lo H:Nat)(ns:List ByteArray)(sl:Value):Prop where
 own:w.ownsRow lo 9 1 sl ns.length (ns.map Value.string)
 ob:∀b,sl.ownBlock=some b→b<H∧¬X b
section
variable{S:List Nat}{w w':World}{X:Nat→Prop}{lo H:Nat}{ns:List ByteArray}{sl:Value}
theorem SC.nil(w:World)(X:Nat→Prop)(lo H:Nat):SC w X lo H [] Zl:=⟨World.ownsRow_nil _ _ _ _,(fun b h=>by simp[Value.ownBlock]at h)⟩
theorem SC.fr(h:SC w X lo H ns sl)(d:Fr S w w')(hs:∀b∈S,b<lo∨H≤b∨X b):SC w' X lo H ns sl:=by
 refine⟨kX h.own d (fun b f c=>?_),h.ob⟩
 have h1:=h.ob b c
 have h2:=(ik h.own b (hF.2 c)).1
 rcases hs b f with h|h|h
 ·omega
 ·omega
 exact h1.2 h
theorem SC.g(h:SC w X lo H ns sl)(b:SC w X lo H ns sl→SC w' X lo H ns sl:=by exact Gq):SC w' X lo H ns sl:=b h
theorem SC.k9(h:SC w X lo H ns sl)(b:Fr [] w w'):SC w' X lo H ns sl:=h.fr b (fun d c=>by cases c)
theorem SC.n6{b:Nat}(h:SC w X lo H ns sl)(c:Fr [b] w w')(d:b<lo∨H≤b∨X b):SC w' X lo H ns sl:=h.fr c (fun g f=>by rcases Tt.1 f with rfl;exact d)
theorem SC.up{X':Nat→Prop}{d:Nat}(h:SC w X lo H ns sl)(f:H≤d)(g:∀b,lo≤b→b<H→X' b→X b):SC w X' lo d ns sl:=⟨h.own,fun b c=>⟨Tj (h.ob b c).1 f,fun j=>(h.ob b c).2 (g b (ik h.own b (hF.2 c)).1 (h.ob b c).1 j)⟩⟩
theorem SC.snoc{b:Value}{n:ByteArray}(h:SC w X lo H ns sl)(g:¬X w.heap.size)(d:w'.ownsRow lo 9 1 b (ns.length+1) (ns.map Value.string++[Value.string n]))(j:b.ownBlock=sl.ownBlock∨b.ownBlock=some w.heap.size):SC w' X lo w'.heap.size (ns++[n]) b:=by
 refine⟨by simpa using d,fun f c=>⟨(ik d f (hF.2 c)).2,?_⟩⟩
 rcases j with h1|h1
 ·exact(h.ob f (h1▸c)).2
 rw[h1]at c;cases c;exact g
theorem SC.done(h:SC w X lo H ns sl):∃a d,sl=.slice a ns.length d∧hT w (DX X lo H) a ns.length 1 (strCells ns):=by
 obtain⟨a,f,rfl,hl,hc⟩:=kg h.own
 refine⟨a,f,rfl,fun i hi=>?_⟩
 obtain⟨b,rfl,g,l,j⟩:=hc i hi
 refine⟨b,0,rfl,⟨g,(h.ob b rfl).1,(h.ob b rfl).2⟩,fun c hj=>?_,rfl⟩
 have:c<1:=hj
 obtain rfl:c=0:=by omega
 have h1:=j 0 Ac
 rw[T9]
 rw[h1]
 simp[strCells,hi]
theorem SC.one(h:SC w X lo H ns sl):sl.oneCell'=true:=by obtain⟨a,b,rfl,_⟩:=kg h.own;rfl
end
theorem Dn.n1{lo hi b:Nat}(h:b<lo∨hi≤b):∀c,Dn lo hi c→c∉[b]:=fun c hc d=>by
 rcases Tt.1 d with rfl
 have:=hc.1;have:=hc.2;omega
theorem Dn.up{lo hi c d:Nat}(h1:c≤lo)(h2:hi≤d):∀b,Dn lo hi b→Dn c d b:=fun b h=>⟨Tq h1 h.1,Tj h.2 h2⟩
theorem j3.zero(w:World)(b:Nat→Prop):j3 w b V0 #[Zi,Zi,Zs,Zl,Zl,Zl]:=by
 refine j3.mk (la:=none) (ka:=none) (va:=none) (lc:=0) (kc:=0) (vc:=0) (list:=[]) (keys:=[]) (vals:=[]) (fun _=>#[]) (fun _=>#[]) Ah Ah Ah Ah Ah Ah (fun k h=>by cases h) ?_ ?_ ?_ ?_ ?_
 all_goals intro i h;cases h
theorem oy{w:World}{d:Nat→Prop}{b T sz:Nat}{css:List (Array Value)}(g:w.heap[b]? =some (.cells (hS css).toArray T (0,0)))(j:d b)(hs:∀l∈css,l.size=sz):hT w d (some ⟨b,0,none⟩) css.length sz (fun i=>css.getD i #[]):=by
 intro i hi
 have m:css[i].size=sz:=hs _ (T2 hi)
 have e:css.getD i #[]=css[i]:=by simp[TL,hi]
 refine⟨b,0,rfl,j,fun c hj=>?_,by show(css.getD i #[]).size=sz;rw[e,m]⟩
 have hj:c<(css.getD i #[]).size:=hj
 show _=(css.getD i #[])[c]?
 rw[e]at hj⊢
 have:=mg hs i c hi Ac
 rw[T9,←this]
 have f:i*sz+c<(hS css).length:=by
  rw[ju hs]
  have:(i+1)*sz≤css.length*sz:=UP _ hi
  rw[VB]at this;omega
 rw[TP f]
 exact jm g (by simp[f])
theorem RN.su{w:World}{D:Nat→Prop}{op text:ByteArray}{kids:List N}{ck:Nat→Array Value}{b:Option Addr}{c:Nat}(f:op.size≤1099511627776)(ht:text.size≤1099511627776)(g:kids.length≤1099511627776)(hk:hT w D b kids.length 12 ck)(d:∀(i:Nat)(h:i<kids.length),RN w D 0 kids[i] (ck i))(hc:kids.length≤c):
  RN w D 0 (.mk op text V0 [] kids [] []) #[.string op,.string text,Zi,Zi,Zs,Zl,Zl,Zl,.slice b kids.length c,Zl,Zl,Zl]:=by
 refine RN.q (names:=[]) (pats:=[]) (defs:=[]) ck (fun _=>#[]) (fun _=>#[]) Ac Ac (j3.zero w D) Ac Ah Ah Ah (fun s h=>by cases h) hk d ?_ ?_ ?_ ?_ ?_ hc
 all_goals intro i h;cases h
theorem RN.jw{w:World}{D:Nat→Prop}{op text:ByteArray}(b:op.size≤1099511627776)(ht:text.size≤1099511627776):
  RN w D 0 (.mk op text V0 [] [] [] []) #[.string op,.string text,Zi,Zi,Zs,Zl,Zl,Zl,Zl,Zl,Zl,Zl]:=
 RN.su (kids:=[]) (ck:=fun _=>#[]) b ht Ah (fun i h=>by cases h) (fun i h=>by cases h) Ah
theorem oH{w:World}{c:Nat→Prop}{k:Nat}:∀{b:List N}{css:List (Array Value)},b.length=css.length→(∀(i:Nat)(h1:i<b.length)(h2:i<css.length),RN w c k b[i] css[i])→∀(i:Nat)(h:i<b.length),RN w c k b[i] (css.getD i #[]):=by
 intro b css hl h i hi
 have d:i<css.length:=by omega
 have e:css.getD i #[]=css[i]:=by simp[TL,d]
 rw[e];exact h i hi d
theorem RN.r0{w:World}{D:Nat→Prop}{op text:ByteArray}{k:N}{c:Array Value}{b T cap:Nat}(d:op.size≤1099511627776)(ht:text.size≤1099511627776)(f:w.heap[b]? =some (.cells (hS [c]).toArray T (0,0)))(g:D b)(h:RN w D 0 k c)(hc:1≤cap):
  RN w D 0 (.mk op text V0 [] [k] [] []) #[.string op,.string text,Zi,Zi,Zs,Zl,Zl,Zl,.slice (some ⟨b,0,none⟩) 1 cap,Zl,Zl,Zl]:=
 RN.su (kids:=[k]) d ht Al (oy f g (fun x hx=>by rw[Tt.1 hx];exact h.hA)) (oH rfl (fun i h1 h2=>by have:i=0:=AW;subst this;exact h)) hc
theorem RN.yF{w:World}{D:Nat→Prop}{op text:ByteArray}{k b:N}{d f:Array Value}{c T cap:Nat}(j:op.size≤1099511627776)(ht:text.size≤1099511627776)(l:w.heap[c]? =some (.cells (hS [d,f]).toArray T (0,0)))(m:D c)(h:RN w D 0 k d)(g:RN w D 0 b f)(hc:2≤cap):
  RN w D 0 (.mk op text V0 [] [k,b] [] []) #[.string op,.string text,Zi,Zi,Zs,Zl,Zl,Zl,.slice (some ⟨c,0,none⟩) 2 cap,Zl,Zl,Zl]:=
 RN.su (kids:=[k,b]) j ht Al (oy l m (fun x hx=>by simp only[Tr,Tp,TD]at hx;rcases hx with rfl|rfl;exact h.hA;exact g.hA)) (oH rfl (fun i h1 h2=>by
  match i,h1 with
  |0,_=>exact h
  |1,_=>exact g)) hc
theorem RN.G0{w:World}{D:Nat→Prop}{op text:ByteArray}{k b c:N}{f g x:Array Value}{d T cap:Nat}(m:op.size≤1099511627776)(ht:text.size≤1099511627776)(o:w.heap[d]? =some (.cells (hS [f,g,x]).toArray T (0,0)))(p:D d)(h:RN w D 0 k f)(j:RN w D 0 b g)(l:RN w D 0 c x)(hc:3≤cap):
  RN w D 0 (.mk op text V0 [] [k,b,c] [] []) #[.string op,.string text,Zi,Zi,Zs,Zl,Zl,Zl,.slice (some ⟨d,0,none⟩) 3 cap,Zl,Zl,Zl]:=
 RN.su (kids:=[k,b,c]) m ht Al (oy o p (fun x hx=>by simp only[Tr,Tp,TD]at hx;rcases hx with rfl|rfl|rfl;exact h.hA;exact j.hA;exact l.hA)) (oH rfl (fun i h1 h2=>by
  match i,h1 with
  |0,_=>exact h
  |1,_=>exact j
  |2,_=>exact l)) hc
theorem RN.up{w:World}{D D':Nat→Prop}{k:Nat}{b:N}{c:Array Value}(h:RN w D k b c)(f:∀d,D d→D' d):RN w D' k b c:=h.mono f
theorem pA{s:ByteArray}{i:Nat}(h:i<s.size)(b:i<s.data.toList.length):s.data.toList[i]=s[i]:=by simp[U0]
theorem oL{s:ByteArray}{b c:Nat}(h:b+c<s.size)(d:c<(s.data.toList.drop b).length):(s.data.toList.drop b)[c]=s[b+c]:=by rw[List.getElem_drop];exact pA h _
theorem iH(s:ByteArray)(b:Nat):(s.data.toList.drop b).length=s.size - b:=by rw[Vt,←hK]
theorem nZ(s:ByteArray)(b i:Nat):s.extract b (b+i)=ba ((s.data.toList.drop b).take i):=by
 unfold ba
 have:(s.extract b (b+i)).data.toList=(s.data.toList.drop b).take i:=by
  rw[UI,UQ,UL];try(congr 1;omega)
 rw[←this]
abbrev pG(s:ByteArray)(a:Nat)(k t:ByteArray):Array Value:=#[.string s,.int .i64 (a:Int),.string k,.string t,.bool false]
def At(w:World)(br:Nat)(s:ByteArray)(L:List UInt8):Prop:=
 ∃a,a≤s.size∧s.data.toList.drop a=(lx L).2.2∧w.heap[br]? =some (.cells (pG s a (lx L).1 (lx L).2.1) 54 (0,0))
def kO(k fn:Nat)(ar:List Value)(L:List UInt8)(x:N)(L':List UInt8):Prop:=
 ∀(w:World)(br:Nat)(s:ByteArray),s.size≤1099511627776→At w br s L→
  Calls Tryz.prog fn (Pt br::ar).toArray w (hH w [br] fun r w'=>∃cs,r=.agg cs∧At w' br s L'∧RN w' (Dn w.heap.size w'.heap.size) k x cs)
abbrev RQ(fn:Nat):=kO 0 fn
def tE(fn:Nat)(x0:N)(L:List UInt8)(x:N)(L':List UInt8):Prop:=
 ∀(w:World)(br:Nat)(s:ByteArray)(D0:Nat→Prop)(cs:Array Value),s.size≤1099511627776→At w br s L→(∀c,D0 c→c<w.heap.size∧c≠br)→RN w D0 0 x0 cs→
  Calls Tryz.prog fn #[Pt br,.agg cs] w (hH w [br] fun r w'=>∃cs',r=.agg cs'∧At w' br s L'∧RN w' (fun c=>D0 c∨Dn w.heap.size w'.heap.size c) 0 x cs')
def RS(fn:Nat)(L:List UInt8)(x:ByteArray)(L':List UInt8):Prop:=
 ∀(w:World)(br:Nat)(s:ByteArray),s.size≤1099511627776→At w br s L→
  Calls Tryz.prog fn #[Pt br] w (hH w [br] fun r w'=>r=.string x∧At w' br s L')
theorem At.ob{w:World}{b:Nat}{s:ByteArray}{c:List UInt8}{k d:ByteArray}{f:List UInt8}(h:At w b s c)(e:lx c=(k,d,f)):∃a,a≤s.size∧s.data.toList.drop a=f∧w.heap[b]? =some (.cells (pG s a k d) 54 (0,0)):=by
 obtain⟨a,h1,h2,g⟩:=h
 rw[e]at h2 g
 exact⟨a,h1,h2,g⟩
def iE(L:List UInt8)(x:ByteArray):Bool:=(decide ((lx L).1=jU)||decide ((lx L).1=iY))&&decide ((lx L).2.1=x)
theorem sS{b:List UInt8}{x k c:ByteArray}{d:List UInt8}(e:lx b=(k,c,d)):iE b x=((decide (k=jU)||decide (k=iY))&&decide (c=x)):=by rw[iE,e]
theorem At.lt{w:World}{b:Nat}{s:ByteArray}{c:List UInt8}(h:At w b s c):b<w.heap.size:=by obtain⟨a,_,_,h⟩:=h;exact hC h
theorem At.fr{S:List Nat}{w w':World}{b:Nat}{s:ByteArray}{c:List UInt8}(h:At w b s c)(d:Fr S w w')(hs:b∉S):At w' b s c:=by obtain⟨a,h1,h2,f⟩:=h;exact⟨a,h1,h2,d.hO f hs⟩
theorem At.g{w w':World}{b:Nat}{s:ByteArray}{c:List UInt8}(h:At w b s c)(d:At w b s c→At w' b s c:=by exact Gq):At w' b s c:=d h
theorem At.k9{w w':World}{b:Nat}{s:ByteArray}{c:List UInt8}(h:At w b s c)(d:Fr [] w w'):At w' b s c:=h.fr d Al
theorem At.n6{w w':World}{b c:Nat}{s:ByteArray}{d:List UInt8}(h:At w b s d)(f:Fr [c] w w')(g:b<c):At w' b s d:=h.fr f (by simp;omega)
theorem At.sp{w:World}{b:Nat}{s:ByteArray}{c:List UInt8}(h:At w b s (32::c)):At w b s c:=h
end Go.Proofs.YtlojelcoibpphaaGreatDoor
