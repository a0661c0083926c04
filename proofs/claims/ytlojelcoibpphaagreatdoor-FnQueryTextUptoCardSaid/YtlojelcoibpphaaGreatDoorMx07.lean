/- FnQueryText, second form: own texts, joined and made short by a program (part 7): for every argument of bulk at most 1048576 the law answers true. -/
import Derived.Test.YtlojelcoibpphaaGreatDoorMx01
import Derived.Test.YtlojelcoibpphaaGreatDoorMx06
import Derived.Test.YtlojelcoibpphaaGreatDoorMx03
import Derived.Test.YtlojelcoibpphaaGreatDoorMx02
set_option maxRecDepth 100000
set_option maxHeartbeats 2000000
set_option linter.unusedVariables false
set_option linter.unusedSimpArgs false
set_option linter.unusedSectionVars false
set_option linter.defProp false
namespace Go.Proofs.YtlojelcoibpphaaGreatDoor
open Go Go.RowKit D Go.Deep Go.Proofs
variable{L M lA lB lC:List UInt8}{m:Nat}{w:World}{t sA sB:ByteArray}{X:Nat→Prop}{c cA:Array Value}{q p qA:N}{Q:List N}{S:List ByteArray}{vH:V}
theorem hM{css:List (Array Value)}(h:∀b∈css,b.all (·.oneCell')=true):(hS css).toArray.all (·.oneCell')=true:=by
 simp only[Vp,hS,List.all_flatMap,Uk]
 intro b hc c d
 exact(VC.1 (h b hc)) c (by simpa using d)
theorem hW{css:List (Array Value)}{sz m:Nat}(hs:∀b∈css,b.size=sz)(c:css.length=m):(hS css).toArray.size=m*sz:=by
 have:=ju hs
 simp[this,c]
section
variable{w w':World}{k T sz:Nat}{X:Nat→Prop}{lo H:Nat}{ns:List N}{sl sl':Value}{css:List (Array Value)}
theorem NC.app{f:List N}{g:List (Array Value)}(h:NC w k T sz X lo H ns sl css)(A:H≤w.heap.size)(t:¬X w.heap.size)(u:g.length=f.length)(hs:∀d∈g,d.size=sz)
  (v:∀(i:Nat)(h1:i<f.length)(h2:i<g.length),RN w (fun d=>lo≤d∧H≤d∧d<w.heap.size∧¬X d) k f[i] g[i]) (j:Fr (hX sl) w w') (m:w'.ownsRow lo T sz sl' (ns.length+f.length) (hS css++(hS g).toArray.toList)) (o:sl'.ownBlock=sl.ownBlock∨sl'.ownBlock=some w.heap.size):
  NC w' k T sz X lo w'.heap.size (ns++f) sl' (css++g):=by
 have B:=j.size
 have p:∀b,b<w.heap.size→sl.ownBlock≠some b→sl'.ownBlock≠some b:=fun b c y=>by
  rcases o with h1|h1
  ·rw[h1];exact y
  rw[h1];intro h2;cases h2;omega
 refine⟨by simpa[hS]using m,fun b c=>⟨(ik m b (hF.2 c)).2,?_⟩,by simp[h.len,u],fun d hc=>?_,fun i h1 h2=>?_⟩
 ·rcases o with h1|h1
  ·exact(h.ob b (h1▸c)).2
  rw[h1]at c;cases c;exact t
 ·rcases Uc.1 hc with hc|hc
  ·exact h.xk d hc
  exact hs d hc
 by_cases hi:i<ns.length
 ·have q:i<css.length:=by rw[h.len];exact hi
  rw[TC hi,TC q]
  refine((h.el i hi q).fr j (fun b c l=>c.2 (hF.1 l))).mono (fun b c=>⟨⟨c.1.1,by have:=c.1.2.1;omega,c.1.2.2⟩,p b (by have:=c.1.2.1;omega) c.2⟩)
 rw[Tz Ac,Tz (by rw[h.len];omega)]
 simp only[h.len]
 have z:i - ns.length<f.length:=by simp only[Tl]at h1;omega
 have r:∀b,sl.ownBlock=some b→b<H:=fun b c=>(h.ob b c).1
 refine((v (i - ns.length) z Ac).fr j (fun b c l=>by have:=r b (hF.1 l);omega)).mono (fun b c=>⟨⟨c.1,Ac,c.2.2.2⟩,p b c.2.2.1 (fun e=>by have:=r b e;omega)⟩)
theorem NC.kI{n:N}{b:Array Value}(h:NC w k T sz X lo H ns sl css)(c:H≤w.heap.size)(d:¬X w.heap.size)(hs:b.size=sz)
  (f:RN w (fun b=>lo≤b∧H≤b∧b<w.heap.size∧¬X b) k n b) (g:Fr (hX sl) w w') (j:w'.ownsRow lo T sz sl' (ns.length+1) (hS css++(hS [b]).toArray.toList)) (l:sl'.ownBlock=sl.ownBlock∨sl'.ownBlock=some w.heap.size):
  NC w' k T sz X lo w'.heap.size (ns++[n]) sl' (css++[b]):=
 h.app c d rfl (fun x hx=>by rw[Tt.1 hx];exact hs) (fun i h1 h2=>by have:i=0:=AW;subst this;exact f) g j l
theorem NC.yn{n d:N}{b c:Array Value}(h:NC w k T sz X lo H ns sl css)(f:H≤w.heap.size)(g:¬X w.heap.size)(hs:b.size=sz)(j:c.size=sz)
  (l:RN w (fun b=>lo≤b∧H≤b∧b<w.heap.size∧¬X b) k n b) (m:RN w (fun b=>lo≤b∧H≤b∧b<w.heap.size∧¬X b) k d c) (o:Fr (hX sl) w w') (p:w'.ownsRow lo T sz sl' (ns.length+2) (hS css++(hS [b,c]).toArray.toList)) (q:sl'.ownBlock=sl.ownBlock∨sl'.ownBlock=some w.heap.size):
  NC w' k T sz X lo w'.heap.size (ns++[n,d]) sl' (css++[b,c]):=
 h.app f g rfl (fun x hx=>by simp only[Tr,Tp,TD]at hx;rcases hx with rfl|rfl;exact hs;exact j) (fun i h1 h2=>by
  match i,h1 with
  |0,_=>exact l
  |1,_=>exact m) o p q
theorem NC.lo'(h:NC w k T sz X lo H ns sl css):∀b∈hX sl,lo≤b:=fun b c=>(ik h.own b c).1
theorem NC.nx(h:NC w k T sz X lo H ns sl css){b:Nat}(hx:X b):b∉hX sl:=fun c=>(h.ob b (hF.1 c)).2 hx
theorem NC.lt(h:NC w k T sz X lo H ns sl css){b:Nat}(hx:b<lo):b∉hX sl:=fun c=>by have:=h.lo' b c;omega
theorem NC.ge(h:NC w k T sz X lo H ns sl css){b:Nat}(hx:H≤b):b∉hX sl:=fun c=>by have:=(h.ob b (hF.1 c)).1;omega
end
def Rw(w:World)(D:Nat→Prop)(k sz:Nat)(ns:List N)(sl:Value):Prop:=
 ∃a c cl,sl=.slice a ns.length c∧hT w D a ns.length sz cl∧(∀(i:Nat)(h:i<ns.length),RN w D k ns[i] (cl i))∧ns.length≤c∧ns.length≤1099511627776
def Rs(w:World)(D:Nat→Prop)(ns:List ByteArray)(sl:Value):Prop:=
 ∃a c,sl=.slice a ns.length c∧hT w D a ns.length 1 (strCells ns)∧ns.length≤1099511627776∧∀s∈ns,s.size≤1099511627776
section
variable{w:World}{D:Nat→Prop}{k sz:Nat}{ns:List N}{sl:Value}
theorem Rw.nil:Rw w D k sz [] Zl:=⟨none,0,fun _=>#[],rfl,(fun i h=>by cases h),(fun i h=>by cases h),by decide,by decide⟩
theorem Rs.nil:Rs w D [] Zl:=⟨none,0,rfl,(fun i h=>by cases h),by decide,fun s h=>by cases h⟩
theorem Rw.mono{D':Nat→Prop}(h:Rw w D k sz ns sl)(b:∀d,D d→D' d):Rw w D' k sz ns sl:=
 let⟨a,c,cl,h1,h2,h3,h4⟩:=h;⟨a,c,cl,h1,h2.mono b,fun i hi=>(h3 i hi).mono b,h4⟩
theorem NC.rw{X:Nat→Prop}{lo H T:Nat}{css:List (Array Value)}(h:NC w k T sz X lo H ns sl css)(b:0<sz)(hl:ns.length≤1099511627776):Rw w (DX X lo H) k sz ns sl:=
 let⟨a,c,h1,h2,h3,h4⟩:=h.done b;⟨a,c,_,h1,h2,h3,h4,hl⟩
theorem SC.rs{X:Nat→Prop}{lo H:Nat}{ns:List ByteArray}(h:SC w X lo H ns sl)(hl:ns.length≤1099511627776)(hs:∀s∈ns,s.size≤1099511627776):Rs w (DX X lo H) ns sl:=
 let⟨a,c,h1,h2⟩:=h.done;⟨a,c,h1,h2,hl,hs⟩
theorem Rs.mono{D':Nat→Prop}{ns:List ByteArray}(h:Rs w D ns sl)(d:∀b,D b→D' b):Rs w D' ns sl:=
 let⟨a,c,h1,h2,h3⟩:=h;⟨a,c,h1,h2.mono d,h3⟩
theorem Rw.one{b T cap:Nat}{n:N}{c:Array Value}(d:w.heap[b]? =some (.cells (hS [c]).toArray T (0,0)))(f:D b)(hs:c.size=sz)(h:RN w D k n c)(hc:1≤cap):Rw w D k sz [n] (.slice (some ⟨b,0,none⟩) 1 cap):=
 ⟨_,cap,_,rfl,oy d f (fun x hx=>by rw[Tt.1 hx];exact hs),oH rfl (fun i h1 h2=>by have:i=0:=AW;subst this;exact h),hc,(by decide:1≤1099511627776)⟩
theorem Rw.two{b T cap:Nat}{n f:N}{c d:Array Value}(g:w.heap[b]? =some (.cells (hS [c,d]).toArray T (0,0)))(j:D b)(hs:c.size=sz)(l:d.size=sz)(h:RN w D k n c)(m:RN w D k f d)(hc:2≤cap):Rw w D k sz [n,f] (.slice (some ⟨b,0,none⟩) 2 cap):=
 ⟨_,cap,_,rfl,oy g j (fun x hx=>by simp only[Tr,Tp,TD]at hx;rcases hx with rfl|rfl;exact hs;exact l),oH rfl (fun i h1 h2=>by
  match i,h1 with
  |0,_=>exact h
  |1,_=>exact m),hc,(by decide:2≤1099511627776)⟩
theorem RN.nJ{op text:ByteArray}{names:List ByteArray}{kids pats defs:List N}{s1 b c d:Value}(B:op.size≤1099511627776)(ht:text.size≤1099511627776)(hk:Rw w D 0 12 kids s1)(f:Rs w D names b)(g:Rw w D 1 4 pats c)(j:Rw w D 2 14 defs d):
  RN w D 0 (.mk op text V0 names kids pats defs) #[.string op,.string text,Zi,Zi,Zs,Zl,Zl,Zl,s1,b,c,d]:=by
 obtain⟨C,E,l,rfl,m,o,p,F⟩:=hk
 obtain⟨G,I,rfl,q,J,r⟩:=f
 obtain⟨K,L,t,rfl,u,v,M,O⟩:=g
 obtain⟨P,Q,y,rfl,z,A,R,S⟩:=j
 exact RN.q l t y Ac Ac (j3.zero w D) Ac Ac Ac Ac (fun s hs=>by have:=r s hs;omega) m o q u v z A p
theorem RN.Li{op text:ByteArray}{kids pats:List N}{s1 b:Value}(o:op.size≤1099511627776)(ht:text.size≤1099511627776)(hk:Rw w D 0 12 kids s1)(c:Rw w D 1 4 pats b):
  RN w D 1 (.mk op text V0 [] kids pats []) #[.string op,.string text,s1,b]:=by
 obtain⟨p,q,d,rfl,f,g,r,t⟩:=hk
 obtain⟨u,v,j,rfl,l,m,y,z⟩:=c
 exact RN.p d j Ac Ac Ac Ac f g l m
theorem RN.Qv{text:ByteArray}{names:List ByteArray}{b:N}{s1:Value}{c d f g j l m o p q r t:Value}(ht:text.size≤1099511627776)(u:Rs w D names s1)(v:RN w D 0 b #[c,d,f,g,j,l,m,o,p,q,r,t]):
  RN w D 2 (.mk ⟨#[]⟩ text V0 names [b] [] []) #[.string text,s1,c,d,f,g,j,l,m,o,p,q,r,t]:=by
 obtain⟨A,B,rfl,y,C,z⟩:=u
 exact RN.d Ac Ac (fun s hs=>by have:=z s hs;omega) y v
end
theorem RN.E3{w:World}{D:Nat→Prop}{s:ByteArray}(h:RN w D 0 (jk s) c):∃b d f g j k l m o p q r t u,c=#[.string Cr,Zs,.int .i64 4,Zi,.string s,.slice b 0 m,.slice d 0 o,.slice f 0 p,.slice g 0 q,.slice j 0 r,.slice k 0 t,.slice l 0 u]:=by
 obtain⟨y,z,A,B,C,E,F,G,H,I,J,K,L,M,rfl⟩:=h.hI
 have v:=h.oM
 cases v
 exact⟨_,_,_,_,_,_,_,_,_,_,_,_,_,_,rfl⟩
def Ev(q s:N):N:=match s with
 | .mk op _ (.mk _ _ t _ _ _) _ _ _ _=>if op=⟨#[118,97,108]⟩then .mk ⟨#[102,105,101,108,100]⟩ t V0 [] [q] [] []else .mk ⟨#[105,110,100,101,120]⟩ ⟨#[]⟩ V0 [] [q,s] [] []
theorem F1{s:ByteArray}(hD0:∀b,X b→b<w.heap.size)(d:RN w X 0 q c)(p:RN w X 0 (jk s) cA)(hs:s.size≤1099511627776):Calls Tryz.prog 51 #[.agg c,.agg cA] w (hH w [] fun r j=>∃k,r=.agg k∧RN j (fun b=>X b∨Dn w.heap.size j.heap.size b) 0 (Ev q (jk s)) k):=by
 obtain⟨C,E,G,H,I,J,K,L,M,O,P,Q,R,S,rfl⟩:=p.E3
 have d:=d.up (D':=fun b=>X b∨DV [] w.heap.size w.heap.size b) (fun b h=>Ts h)
 refine cY Tryz.func51 fun t=>ac 2<|bX rfl fun u T U W Y v=>bX rfl fun y Z aa ab ad l=>al F.z31 rfl fun z ae af ag ah g=>au 5<|lD (Gb l) rfl rfl<|au 7<|lD (Gb l) rfl rfl<|lw (Gb v) rfl d.hA<|bN (css:=[c]) F.ic rfl rfl Ag ?_
 intro m o ai aj ak A
 obtain⟨B,am,an⟩:=nl o
 have f:=RN.r0 (w:=o) (D:=(fun b=>X b∨DV [u,y,z] w.heap.size B b)) (op:=Cu) (text:=s) (cap:=1) Ap Ap A Ay (d.g.up Ab) Ah
 exact bD #[.string Cu,.string s,Zi,Zi,Zs,Zl,Zl,Zl,.slice (some ⟨m,0,none⟩) 1 1,Zl,Zl,Zl]<|sA (cs:=#[.string Cu,.string s,Zi,Zi,Zs,Zl,Zl,Zl,.slice (some ⟨m,0,none⟩) 1 1,Zl,Zl,Zl]) (Gb g) rfl rfl rfl f.hA f.one fun ao ap aq g=>au 2<|hD.hZ rfl (by rw[f.hA];exact F.hN) (hB.hE g) (hH.mk t.g ⟨_,rfl,f.g.up Aw⟩)
theorem FM{ks ps:List N}(hD0:∀b,X b→b<w.heap.size)(f:RN w X 0 q c)(d:RN w X 0 (.mk t sB vH S ks ps Q) cA)(p:t≠Cr):Calls Tryz.prog 51 #[.agg c,.agg cA] w (hH w [] fun r k=>∃l,r=.agg l∧RN k (fun b=>X b∨Dn w.heap.size k.heap.size b) 0 (.mk CF ⟨#[]⟩ V0 [] [q,.mk t sB vH S ks ps Q] [] []) l):=by
 obtain⟨u,v,y,z,A,B,C,E,G,H,I,J,K,L,rfl⟩:=d.hI
 have f:=f.up (D':=fun b=>X b∨DV [] w.heap.size w.heap.size b) (fun b h=>Ts h)
 have d:=d.up (D':=fun b=>X b∨DV [] w.heap.size w.heap.size b) (fun b h=>Ts h)
 refine cY Tryz.func51 fun M=>ac 2<|bX rfl fun O Z aa ab ad P=>bX rfl fun R ae af ag ah m=>al F.z31 rfl fun T ai aj ak am j=>au 5<|lD (Gb m) rfl rfl<|sX p rfl rfl<|au 5<|lw (Gb P) rfl f.hA<|lw (Gb m) rfl d.hA<|bN (css:=[c,#[.string t,.string sB,G,H,I,J,K,L,.slice u ks.length v,.slice y S.length z,.slice A ps.length B,.slice C Q.length E]]) F.ic rfl rfl (by intro b hc;simp only[Tr,Tp,TD]at hc;rcases hc with rfl|rfl;exact f.hA;exact d.hA) fun U an ao ap aq W=>cX (jA _ _ _ _ _) ?_
 rintro _ o ar av rfl
 obtain⟨Y,aw,ax⟩:=nl o
 have g:=RN.yF (w:=o) (D:=(fun b=>X b∨DV [O,R,T] w.heap.size Y b)) (op:=CF) (text:=⟨#[]⟩) (cap:=2) Ap Ap (Gb W) Ay (f.g.up Ab) (d.g.up Ab) Ah
 exact sA (cs:=#[.string CF,Zs,Zi,Zi,Zs,Zl,Zl,Zl,.slice (some ⟨U,0,none⟩) 2 2,Zl,Zl,Zl]) (Gb j) rfl rfl rfl g.hA g.one fun ay az a0 j=>au 2<|hD.hZ rfl (by rw[g.hA];exact F.hN) (hB.hE j) (hH.mk M.g ⟨_,rfl,g.g.up Aw⟩)
theorem o5{D0:Nat→Prop}{s:N}(hD0:∀b,D0 b→b<w.heap.size)(f:RN w D0 0 q c)(g:RN w D0 0 s cA)(hs:iz s≠Cr∨∃d:ByteArray,s=jk d∧d.size≤1099511627776):Calls Tryz.prog 51 #[.agg c,.agg cA] w (hH w [] fun A j=>∃k,A=.agg k∧RN j (fun b=>D0 b∨Dn w.heap.size j.heap.size b) 0 (Ev q s) k):=by
 rcases hs with hs|⟨d,rfl,ht⟩
 ·obtain⟨l,m,⟨o,p,r,t,u,v⟩,y,ks,ps,z⟩:=s
  have e:Ev q (.mk l m (.mk o p r t u v) y ks ps z)=.mk CF ⟨#[]⟩ V0 [] [q,.mk l m (.mk o p r t u v) y ks ps z] [] []:=TI hs
  rw[e];exact FM hD0 f g hs
 exact F1 hD0 f g ht
theorem Dy{L:List UInt8}(ht:iE L CR):tE 140 q L (.mk CK ⟨#[]⟩ V0 [] [q] [] []) (lx L).2.2:=by
 intro d y s k m hs c hD0 f
 have f:=f.up (D':=fun b=>k b∨DV [] d.heap.size d.heap.size b) (fun b h=>Ts h)
 have z:=c.lt
 have A:=c.lt
 refine cY Tryz.func140 fun o=>ac 2<|bX rfl fun p B C E G r=>al F.z31 rfl fun t H I J K j=>au 5<|cX (jD ht hs c.g) ?_
 rintro _ M O P ⟨rfl,c⟩
 refine au 4<|lw (Gb r) rfl f.hA<|bN (css:=[m]) F.ic rfl rfl Ag fun u Q R S T v=>cX (jA _ _ _ _ _) ?_
 rintro _ l U W rfl
 obtain⟨w,X,Y⟩:=nl l
 have g:=RN.r0 (w:=l) (D:=(fun b=>k b∨DV [p,t] d.heap.size w b)) (op:=CK) (text:=⟨#[]⟩) (cap:=1) Ap Ap (Gb v) Ay (f.g.up Ab) Ah
 exact sA (cs:=#[.string CK,Zs,Zi,Zi,Zs,Zl,Zl,Zl,.slice (some ⟨u,0,none⟩) 1 1,Zl,Zl,Zl]) (Gb j) rfl rfl rfl g.hA g.one fun Z aa ab j=>au 2<|hD.hZ rfl (by rw[g.hA];exact F.hN) (hB.hE j) (hH.mk o.g ⟨_,rfl,c.g,g.g.up Aw⟩)
theorem Gv{q:N}(B:iE L CR=false)(C:iE L C1=false)(h1:RQ 15 [] L p M)(E:iE M C1=false)(ht:iE M CR):tE 140 q L (.mk CF ⟨#[]⟩ V0 [] [q,p] [] []) (lx M).2.2:=by
 intro f W s j G hs c hD0 g
 have g:=g.up (D':=fun b=>j b∨DV [] f.heap.size f.heap.size b) (fun b h=>Ts h)
 have X:=c.lt
 have Y:=c.lt
 refine cY Tryz.func140 fun t=>ac 2<|bX rfl fun l Z aa ab ad H=>al F.z31 rfl fun m ae af ag ah o=>au 5<|cX (jd B c.g) ?_
 rintro _ u ai aj rfl
 refine au 5 ?_
 obtain⟨I,ak,am⟩:=nl u
 have v:=RN.jw (w:=u) (D:=(fun b=>j b∨DV [l,m] f.heap.size I b)) (op:=Cn) (text:=⟨#[]⟩) Ah Ap
 refine bD #[.string Cn,Zs,Zi,Zi,Zs,Zl,Zl,Zl,Zl,Zl,Zl,Zl]<|al F.z31 rfl fun w an ao ap aq y=>sA (cs:=#[.string Cn,Zs,Zi,Zi,Zs,Zl,Zl,Zl,Zl,Zl,Zl,Zl]) y rfl rfl rfl v.hA v.one fun ar av aw y=>au 5<|cX (jd C c.g) ?_
 rintro _ J ax ay rfl
 refine au 6 ?_
 obtain⟨az,z⟩:=nm J
 have a0:=t.g.le z
 refine cX (h1 _ _ _ hs c.g) ?_
 rintro _ K a1 a2 ⟨O,rfl,c,d⟩
 obtain⟨P,Q,a3⟩:=nl K
 rw[←z,←Q]at d
 have d:=d.up (D':=(fun b=>j b∨DV [l,m,w] f.heap.size P b)) AD
 refine al F.z31 rfl fun R a4 a5 a6 a7 r=>sA r rfl rfl rfl d.hA d.one fun a8 a9 aA r=>au 5<|cX (jd E c.g) ?_
 rintro _ aB aC aD rfl
 refine au 6<|cX (im ht hs c.g) ?_
 rintro _ aE aF aG ⟨rfl,c⟩
 refine au 3<|lw (Gb H) rfl g.hA<|lw (Gb r) rfl d.hA<|bN (css:=[G,O]) F.ic rfl rfl (by intro b hc;simp only[Tr,Tp,TD]at hc;rcases hc with rfl|rfl;exact g.hA;exact d.hA) fun S aH aI aJ aK T=>cX (jA _ _ _ _ _) ?_
 rintro _ A aL aM rfl
 obtain⟨U,aN,aO⟩:=nl A
 have k:=RN.yF (w:=A) (D:=(fun b=>j b∨DV [l,m,w,R] f.heap.size U b)) (op:=CF) (text:=⟨#[]⟩) (cap:=2) Ap Ap (Gb T) Ay (g.g.up Ab) (d.g.up Ab) Ah
 exact sA (cs:=#[.string CF,Zs,Zi,Zi,Zs,Zl,Zl,Zl,.slice (some ⟨S,0,none⟩) 2 2,Zl,Zl,Zl]) (Gb o) rfl rfl rfl k.hA k.one fun aP aQ aR o=>au 2<|hD.hZ rfl (by rw[k.hA];exact F.hN) (hB.hE o) (hH.mk t.g ⟨_,rfl,c.g,k.g.up Aw⟩)
theorem Kw{q:N}{L L1:List UInt8}{k:N}(ae:iE L CR=false)(af:iE L C1)(h1:RQ 15 [] (lx L).2.2 k L1)(ht:iE L1 CR):tE 140 q L (.mk Co ⟨#[]⟩ V0 [] [q,je,k] [] []) (lx L1).2.2:=by
 intro g ag s r I hs d hD0 m
 have m:=m.up (D':=fun c=>r c∨DV [] g.heap.size g.heap.size c) (fun c h=>Ts h)
 have aw:=d.lt
 have ax:=d.lt
 refine cY Tryz.func140 fun y=>ac 2<|bX rfl fun t ay az a0 a1 ah=>al F.z31 rfl fun u a2 a3 a4 a5 l=>au 5<|cX (jd ae d.g) ?_
 rintro _ T a6 a7 rfl
 refine au 5 ?_
 obtain⟨ai,a8,a9⟩:=nl T
 have o:=RN.jw (w:=T) (D:=(fun c=>r c∨DV [t,u] g.heap.size ai c)) (op:=Cn) (text:=⟨#[]⟩) Ah Ap
 refine bD #[.string Cn,Zs,Zi,Zi,Zs,Zl,Zl,Zl,Zl,Zl,Zl,Zl]<|al F.z31 rfl fun z aA aB aC aD J=>sA (cs:=#[.string Cn,Zs,Zi,Zi,Zs,Zl,Zl,Zl,Zl,Zl,Zl,Zl]) J rfl rfl rfl o.hA o.one fun aE aF aH J=>au 5<|cX (jD af hs d.g) ?_
 rintro _ aI aJ aK ⟨rfl,d⟩
 refine au 3<|dR [ag] 4 fun aj ak aL G=>have aM:=ak.size;gT 0 rfl (fun am K=>Y.jl rfl (K.hO (Gb ah) AK) (by rw[m.hA];exact F.hN))<|gT 1 rfl (fun am K=>Y.jl rfl (K.hO (Gb J) AK) (by rw[o.hA];exact F.hN))<|aG [2]<|DG.pick [3,6] Au Al (fun aN U=>?_)
 simp only[Tr,Tp,TD]at U
 rcases U with rfl|rfl
 ·refine⟨_,rfl,?_⟩
  obtain⟨an,B⟩:=nm aj
  have ao:=y.g.le B
  refine cX (h1 _ _ _ hs d.g) ?_
  rintro _ ap aO aP ⟨H,rfl,d,j⟩
  obtain⟨M,O,aq⟩:=nl ap
  rw[←B,←O]at j
  have j:=j.up (D':=(fun c=>r c∨DV [t,u,z] g.heap.size M c)) AD
  refine gn G.g<|gQ 4 6 ?_ ?_
  ·refine bN (css:=[I,#[.string Cn,Zs,Zi,Zi,Zs,Zl,Zl,Zl,Zl,Zl,Zl,Zl],H]) F.ic rfl rfl (by intro c hc;simp only[Tr,Tp,TD]at hc;rcases hc with rfl|rfl|rfl;exact m.hA;exact o.hA;exact j.hA) fun p aQ aR W X A=>gl<|gQ 5 6 ?_ ?_
   ·refine cX (jA _ _ _ _ _) ?_
    rintro _ Z aS aT rfl
    obtain⟨v,P,Q⟩:=nl Z
    have b:=RN.G0 (w:=Z) (D:=(fun c=>r c∨DV [t,u,z] g.heap.size v c)) (op:=Co) (text:=⟨#[]⟩) (cap:=3) Ap Ap (Gb A) Ay (m.g.up Ab) (o.g.up Ab) (j.g.up Ab) Ah
    refine gl<|gp 6<|al F.z31 rfl fun w aU aV R S f=>gl<|gp 7<|sA (cs:=#[.string Co,Zs,Zi,Zi,Zs,Zl,Zl,Zl,.slice (some ⟨p,0,none⟩) 3 3,Zl,Zl,Zl]) f rfl rfl rfl b.hA b.one fun aW aX aY C=>have f:=C;gl<|gD<|ac 3<|cX (im ht hs d.g) ?_
    rintro _ aZ ba bb ⟨rfl,d⟩
    exact au 3<|lw (Gb f) rfl b.hA<|sA (cs:=#[.string Co,Zs,Zi,Zi,Zs,Zl,Zl,Zl,.slice (some ⟨p,0,none⟩) 3 3,Zl,Zl,Zl]) (Gb l) rfl rfl rfl b.hA b.one fun bc bd be E=>have l:=E;au 2<|hD.hZ rfl (by rw[b.hA];exact F.hN) (hB.hE l) (hH.mk y.g ⟨_,rfl,d.g,b.g.up Aw⟩)
   refine al F.z31 rfl fun w bf bg R S f=>gl<|gp 5<|cX (jA _ _ _ _ _) ?_
   rintro _ aa bh bi rfl
   obtain⟨v,P,Q⟩:=nl aa
   have b:=RN.G0 (w:=aa) (D:=(fun c=>r c∨DV [t,u,z,w] g.heap.size v c)) (op:=Co) (text:=⟨#[]⟩) (cap:=3) Ap Ap (Gb A) Ay (m.g.up Ab) (o.g.up Ab) (j.g.up Ab) Ah
   refine gl<|gp 7<|sA (cs:=#[.string Co,Zs,Zi,Zi,Zs,Zl,Zl,Zl,.slice (some ⟨p,0,none⟩) 3 3,Zl,Zl,Zl]) (Gb f) rfl rfl rfl b.hA b.one fun bj bk bl C=>have f:=C;gl<|gD<|ac 3<|cX (im ht hs d.g) ?_
   rintro _ bm bn bo ⟨rfl,d⟩
   exact au 3<|lw (Gb f) rfl b.hA<|sA (cs:=#[.string Co,Zs,Zi,Zi,Zs,Zl,Zl,Zl,.slice (some ⟨p,0,none⟩) 3 3,Zl,Zl,Zl]) (Gb l) rfl rfl rfl b.hA b.one fun bp bq br E=>have l:=E;au 2<|hD.hZ rfl (by rw[b.hA];exact F.hN) (hB.hE l) (hH.mk y.g ⟨_,rfl,d.g,b.g.up Aw⟩)
  refine al F.z31 rfl fun w bs bt R S f=>gn G.g<|gp 4<|bN (css:=[I,#[.string Cn,Zs,Zi,Zi,Zs,Zl,Zl,Zl,Zl,Zl,Zl,Zl],H]) F.ic rfl rfl (by intro c hc;simp only[Tr,Tp,TD]at hc;rcases hc with rfl|rfl|rfl;exact m.hA;exact o.hA;exact j.hA) fun p bu bv W X A=>gl<|gp 5<|cX (jA _ _ _ _ _) ?_
  rintro _ ab bw bx rfl
  obtain⟨v,P,Q⟩:=nl ab
  have b:=RN.G0 (w:=ab) (D:=(fun c=>r c∨DV [t,u,z,w] g.heap.size v c)) (op:=Co) (text:=⟨#[]⟩) (cap:=3) Ap Ap (Gb A) Ay (m.g.up Ab) (o.g.up Ab) (j.g.up Ab) Ah
  refine gl<|gp 7<|sA (cs:=#[.string Co,Zs,Zi,Zi,Zs,Zl,Zl,Zl,.slice (some ⟨p,0,none⟩) 3 3,Zl,Zl,Zl]) (Gb f) rfl rfl rfl b.hA b.one fun bz b0 b1 C=>have f:=C;gl<|gD<|ac 3<|cX (im ht hs d.g) ?_
  rintro _ b2 b3 b4 ⟨rfl,d⟩
  exact au 3<|lw (Gb f) rfl b.hA<|sA (cs:=#[.string Co,Zs,Zi,Zi,Zs,Zl,Zl,Zl,.slice (some ⟨p,0,none⟩) 3 3,Zl,Zl,Zl]) (Gb l) rfl rfl rfl b.hA b.one fun b5 b6 b7 E=>have l:=E;au 2<|hD.hZ rfl (by rw[b.hA];exact F.hN) (hB.hE l) (hH.mk y.g ⟨_,rfl,d.g,b.g.up Aw⟩)
 refine⟨_,rfl,?_⟩
 refine al F.z31 rfl fun w ar b8 R S f=>gn G.g<|gp 3 ?_
 obtain⟨an,B⟩:=nm ar
 have ao:=y.g.le B
 refine cX (h1 _ _ _ hs d.g) ?_
 rintro _ av b9 bA ⟨H,rfl,d,j⟩
 obtain⟨M,O,aq⟩:=nl av
 rw[←B,←O]at j
 have j:=j.up (D':=(fun c=>r c∨DV [t,u,z,w] g.heap.size M c)) AD
 refine gn G.g<|gp 4<|bN (css:=[I,#[.string Cn,Zs,Zi,Zi,Zs,Zl,Zl,Zl,Zl,Zl,Zl,Zl],H]) F.ic rfl rfl (by intro c hc;simp only[Tr,Tp,TD]at hc;rcases hc with rfl|rfl|rfl;exact m.hA;exact o.hA;exact j.hA) fun p bB bC W X A=>gl<|gp 5<|cX (jA _ _ _ _ _) ?_
 rintro _ ad bE bF rfl
 obtain⟨v,P,Q⟩:=nl ad
 have b:=RN.G0 (w:=ad) (D:=(fun c=>r c∨DV [t,u,z,w] g.heap.size v c)) (op:=Co) (text:=⟨#[]⟩) (cap:=3) Ap Ap (Gb A) Ay (m.g.up Ab) (o.g.up Ab) (j.g.up Ab) Ah
 refine gl<|gp 7<|sA (cs:=#[.string Co,Zs,Zi,Zi,Zs,Zl,Zl,Zl,.slice (some ⟨p,0,none⟩) 3 3,Zl,Zl,Zl]) (Gb f) rfl rfl rfl b.hA b.one fun bG bH bI f=>gl<|gD<|ac 3<|cX (im ht hs d.g) ?_
 rintro _ bJ bK bL ⟨rfl,d⟩
 exact au 3<|lw (Gb f) rfl b.hA<|sA (cs:=#[.string Co,Zs,Zi,Zi,Zs,Zl,Zl,Zl,.slice (some ⟨p,0,none⟩) 3 3,Zl,Zl,Zl]) (Gb l) rfl rfl rfl b.hA b.one fun bM bO bP l=>au 2<|hD.hZ rfl (by rw[b.hA];exact F.hN) (hB.hE l) (hH.mk y.g ⟨_,rfl,d.g,b.g.up Aw⟩)
theorem EV{q:N}{L1:List UInt8}{k:N}(B:iE L CR=false)(C:iE L C1=false)(h1:RQ 15 [] L k L1)(E:iE L1 C1)(ht:iE (lx L1).2.2 CR):tE 140 q L (.mk Co ⟨#[]⟩ V0 [] [q,k,je] [] []) (lx (lx L1).2.2).2.2:=by
 intro f U s l G hs c hD0 g
 have g:=g.up (D':=fun b=>l b∨DV [] f.heap.size f.heap.size b) (fun b h=>Ts h)
 have W:=c.lt
 have X:=c.lt
 refine cY Tryz.func140 fun v=>ac 2<|bX rfl fun o Y Z aa ab H=>al F.z31 rfl fun p ad ae af ag r=>au 5<|cX (jd B c.g) ?_
 rintro _ w ah ai rfl
 refine au 5 ?_
 obtain⟨I,aj,ak⟩:=nl w
 have j:=RN.jw (w:=w) (D:=(fun b=>l b∨DV [o,p] f.heap.size I b)) (op:=Cn) (text:=⟨#[]⟩) Ah Ap
 refine bD #[.string Cn,Zs,Zi,Zi,Zs,Zl,Zl,Zl,Zl,Zl,Zl,Zl]<|al F.z31 rfl fun y am an ao ap t=>sA (cs:=#[.string Cn,Zs,Zi,Zi,Zs,Zl,Zl,Zl,Zl,Zl,Zl,Zl]) t rfl rfl rfl j.hA j.one fun aq ar av t=>au 5<|cX (jd C c.g) ?_
 rintro _ J aw ax rfl
 refine au 6 ?_
 obtain⟨ay,z⟩:=nm J
 have az:=v.g.le z
 refine cX (h1 _ _ _ hs c.g) ?_
 rintro _ K a0 a1 ⟨M,rfl,c,d⟩
 obtain⟨O,P,a2⟩:=nl K
 rw[←z,←P]at d
 have d:=d.up (D':=(fun b=>l b∨DV [o,p,y] f.heap.size O b)) AD
 refine al F.z31 rfl fun Q a3 a4 a5 a6 u=>sA u rfl rfl rfl d.hA d.one fun a7 a8 a9 u=>au 5<|cX (jD E hs c.g) ?_
 rintro _ aA aB aC ⟨rfl,c⟩
 refine au 8<|cX (jD ht hs c) ?_
 rintro _ aD aE aF ⟨rfl,c⟩
 refine au 4<|lw (Gb H) rfl g.hA<|lw (Gb u) rfl d.hA<|lw (Gb t) rfl j.hA<|bN (css:=[G,M,#[.string Cn,Zs,Zi,Zi,Zs,Zl,Zl,Zl,Zl,Zl,Zl,Zl]]) F.ic rfl rfl (by intro b hc;simp only[Tr,Tp,TD]at hc;rcases hc with rfl|rfl|rfl;exact g.hA;exact d.hA;exact j.hA) fun R aG aH aI aJ S=>cX (jA _ _ _ _ _) ?_
 rintro _ A aK aL rfl
 obtain⟨T,aM,aN⟩:=nl A
 have m:=RN.G0 (w:=A) (D:=(fun b=>l b∨DV [o,p,y,Q] f.heap.size T b)) (op:=Co) (text:=⟨#[]⟩) (cap:=3) Ap Ap (Gb S) Ay (g.g.up Ab) (d.g.up Ab) (j.g.up Ab) Ah
 exact sA (cs:=#[.string Co,Zs,Zi,Zi,Zs,Zl,Zl,Zl,.slice (some ⟨R,0,none⟩) 3 3,Zl,Zl,Zl]) (Gb r) rfl rfl rfl m.hA m.one fun aO aP aQ r=>au 2<|hD.hZ rfl (by rw[m.hA];exact F.hN) (hB.hE r) (hH.mk v.g ⟨_,rfl,c.g,m.g.up Aw⟩)
theorem Jt{q:N}{L1 L2:List UInt8}{k p:N}(ak:iE L CR=false)(am:iE L C1=false)(h1:RQ 15 [] L k L1)(an:iE L1 C1)(ao:iE (lx L1).2.2 CR=false)(h2:RQ 15 [] (lx L1).2.2 p L2)(ht:iE L2 CR):tE 140 q L (.mk Co ⟨#[]⟩ V0 [] [q,k,p] [] []) (lx L2).2.2:=by
 intro f ap s t K hs d hD0 o
 have o:=o.up (D':=fun c=>t c∨DV [] f.heap.size f.heap.size c) (fun c h=>Ts h)
 have a8:=d.lt
 have a9:=d.lt
 refine cY Tryz.func140 fun w=>ac 2<|bX rfl fun u aA aB aC aD aq=>al F.z31 rfl fun v aE aF aH aI m=>au 5<|cX (jd ak d.g) ?_
 rintro _ X aJ aK rfl
 refine au 5 ?_
 obtain⟨ar,aL,aM⟩:=nl X
 have Z:=RN.jw (w:=X) (D:=(fun c=>t c∨DV [u,v] f.heap.size ar c)) (op:=Cn) (text:=⟨#[]⟩) Ah Ap
 refine bD #[.string Cn,Zs,Zi,Zi,Zs,Zl,Zl,Zl,Zl,Zl,Zl,Zl]<|al F.z31 rfl fun y aN aO aP aQ aa=>sA (cs:=#[.string Cn,Zs,Zi,Zi,Zs,Zl,Zl,Zl,Zl,Zl,Zl,Zl]) aa rfl rfl rfl Z.hA Z.one fun aR aS aT aa=>au 5<|cX (jd am d.g) ?_
 rintro _ av aU aV rfl
 refine au 6 ?_
 obtain⟨aW,ab⟩:=nm av
 have aX:=w.g.le ab
 refine cX (h1 _ _ _ hs d.g) ?_
 rintro _ aw aY aZ ⟨M,rfl,d,l⟩
 obtain⟨ax,ay,ba⟩:=nl aw
 rw[←ab,←ay]at l
 have l:=l.up (D':=(fun c=>t c∨DV [u,v,y] f.heap.size ax c)) AD
 refine al F.z31 rfl fun B bb bc bd be O=>sA O rfl rfl rfl l.hA l.one fun bf bg bh O=>au 5<|cX (jD an hs d.g) ?_
 rintro _ bi bj bk ⟨rfl,d⟩
 refine au 8<|cX (jd ao d) ?_
 rintro _ bl bm bn rfl
 refine au 4<|dR [ap] 4 fun az a0 bo I=>have bp:=a0.size;gT 0 rfl (fun a1 P=>Y.jl rfl (P.hO (Gb aq) AK) (by rw[o.hA];exact F.hN))<|gT 1 rfl (fun a1 P=>Y.jl rfl (P.hO (Gb O) AK) (by rw[l.hA];exact F.hN))<|aG [2]<|DG.pick [3,6] Au Al (fun bq ad=>?_)
 simp only[Tr,Tp,TD]at ad
 rcases ad with rfl|rfl
 ·refine⟨_,rfl,?_⟩
  obtain⟨a2,E⟩:=nm az
  have a3:=w.g.le E
  refine cX (h2 _ _ _ hs d.g) ?_
  rintro _ a4 br bs ⟨J,rfl,d,j⟩
  obtain⟨Q,R,a5⟩:=nl a4
  rw[←E,←R]at j
  have j:=j.up (D':=(fun c=>t c∨DV [u,v,y,B] f.heap.size Q c)) AD
  refine gn I.g<|gQ 4 6 ?_ ?_
  ·refine bN (css:=[K,M,J]) F.ic rfl rfl (by intro c hc;simp only[Tr,Tp,TD]at hc;rcases hc with rfl|rfl|rfl;exact o.hA;exact l.hA;exact j.hA) fun r bt bu ae af C=>gl<|gQ 5 6 ?_ ?_
   ·refine cX (jA _ _ _ _ _) ?_
    rintro _ ag bv bw rfl
    obtain⟨z,S,T⟩:=nl ag
    have b:=RN.G0 (w:=ag) (D:=(fun c=>t c∨DV [u,v,y,B] f.heap.size z c)) (op:=Co) (text:=⟨#[]⟩) (cap:=3) Ap Ap (Gb C) Ay (o.g.up Ab) (l.g.up Ab) (j.g.up Ab) Ah
    refine gl<|gp 6<|al F.z31 rfl fun A bx bz U W g=>gl<|gp 7<|sA (cs:=#[.string Co,Zs,Zi,Zi,Zs,Zl,Zl,Zl,.slice (some ⟨r,0,none⟩) 3 3,Zl,Zl,Zl]) g rfl rfl rfl b.hA b.one fun b0 b1 b2 G=>have g:=G;gl<|gD<|ac 3<|cX (im ht hs d.g) ?_
    rintro _ b3 b4 b5 ⟨rfl,d⟩
    exact au 3<|lw (Gb g) rfl b.hA<|sA (cs:=#[.string Co,Zs,Zi,Zi,Zs,Zl,Zl,Zl,.slice (some ⟨r,0,none⟩) 3 3,Zl,Zl,Zl]) (Gb m) rfl rfl rfl b.hA b.one fun b6 b7 b8 H=>have m:=H;au 2<|hD.hZ rfl (by rw[b.hA];exact F.hN) (hB.hE m) (hH.mk w.g ⟨_,rfl,d.g,b.g.up Aw⟩)
   refine al F.z31 rfl fun A b9 bA U W g=>gl<|gp 5<|cX (jA _ _ _ _ _) ?_
   rintro _ ah bB bC rfl
   obtain⟨z,S,T⟩:=nl ah
   have b:=RN.G0 (w:=ah) (D:=(fun c=>t c∨DV [u,v,y,B,A] f.heap.size z c)) (op:=Co) (text:=⟨#[]⟩) (cap:=3) Ap Ap (Gb C) Ay (o.g.up Ab) (l.g.up Ab) (j.g.up Ab) Ah
   refine gl<|gp 7<|sA (cs:=#[.string Co,Zs,Zi,Zi,Zs,Zl,Zl,Zl,.slice (some ⟨r,0,none⟩) 3 3,Zl,Zl,Zl]) (Gb g) rfl rfl rfl b.hA b.one fun bE bF bG G=>have g:=G;gl<|gD<|ac 3<|cX (im ht hs d.g) ?_
   rintro _ bH bI bJ ⟨rfl,d⟩
   exact au 3<|lw (Gb g) rfl b.hA<|sA (cs:=#[.string Co,Zs,Zi,Zi,Zs,Zl,Zl,Zl,.slice (some ⟨r,0,none⟩) 3 3,Zl,Zl,Zl]) (Gb m) rfl rfl rfl b.hA b.one fun bK bL bM H=>have m:=H;au 2<|hD.hZ rfl (by rw[b.hA];exact F.hN) (hB.hE m) (hH.mk w.g ⟨_,rfl,d.g,b.g.up Aw⟩)
  refine al F.z31 rfl fun A bO bP U W g=>gn I.g<|gp 4<|bN (css:=[K,M,J]) F.ic rfl rfl (by intro c hc;simp only[Tr,Tp,TD]at hc;rcases hc with rfl|rfl|rfl;exact o.hA;exact l.hA;exact j.hA) fun r bQ bR ae af C=>gl<|gp 5<|cX (jA _ _ _ _ _) ?_
  rintro _ ai bS bT rfl
  obtain⟨z,S,T⟩:=nl ai
  have b:=RN.G0 (w:=ai) (D:=(fun c=>t c∨DV [u,v,y,B,A] f.heap.size z c)) (op:=Co) (text:=⟨#[]⟩) (cap:=3) Ap Ap (Gb C) Ay (o.g.up Ab) (l.g.up Ab) (j.g.up Ab) Ah
  refine gl<|gp 7<|sA (cs:=#[.string Co,Zs,Zi,Zi,Zs,Zl,Zl,Zl,.slice (some ⟨r,0,none⟩) 3 3,Zl,Zl,Zl]) (Gb g) rfl rfl rfl b.hA b.one fun bU bV bW G=>have g:=G;gl<|gD<|ac 3<|cX (im ht hs d.g) ?_
  rintro _ bY bZ ca ⟨rfl,d⟩
  exact au 3<|lw (Gb g) rfl b.hA<|sA (cs:=#[.string Co,Zs,Zi,Zi,Zs,Zl,Zl,Zl,.slice (some ⟨r,0,none⟩) 3 3,Zl,Zl,Zl]) (Gb m) rfl rfl rfl b.hA b.one fun cb cc cd H=>have m:=H;au 2<|hD.hZ rfl (by rw[b.hA];exact F.hN) (hB.hE m) (hH.mk w.g ⟨_,rfl,d.g,b.g.up Aw⟩)
 refine⟨_,rfl,?_⟩
 refine al F.z31 rfl fun A a6 ce U W g=>gn I.g<|gp 3 ?_
 obtain⟨a2,E⟩:=nm a6
 have a3:=w.g.le E
 refine cX (h2 _ _ _ hs d.g) ?_
 rintro _ a7 cf cg ⟨J,rfl,d,j⟩
 obtain⟨Q,R,a5⟩:=nl a7
 rw[←E,←R]at j
 have j:=j.up (D':=(fun c=>t c∨DV [u,v,y,B,A] f.heap.size Q c)) AD
 refine gn I.g<|gp 4<|bN (css:=[K,M,J]) F.ic rfl rfl (by intro c hc;simp only[Tr,Tp,TD]at hc;rcases hc with rfl|rfl|rfl;exact o.hA;exact l.hA;exact j.hA) fun r ch ci ae af C=>gl<|gp 5<|cX (jA _ _ _ _ _) ?_
 rintro _ aj cj ck rfl
 obtain⟨z,S,T⟩:=nl aj
 have b:=RN.G0 (w:=aj) (D:=(fun c=>t c∨DV [u,v,y,B,A] f.heap.size z c)) (op:=Co) (text:=⟨#[]⟩) (cap:=3) Ap Ap (Gb C) Ay (o.g.up Ab) (l.g.up Ab) (j.g.up Ab) Ah
 refine gl<|gp 7<|sA (cs:=#[.string Co,Zs,Zi,Zi,Zs,Zl,Zl,Zl,.slice (some ⟨r,0,none⟩) 3 3,Zl,Zl,Zl]) (Gb g) rfl rfl rfl b.hA b.one fun cl cm cn g=>gl<|gD<|ac 3<|cX (im ht hs d.g) ?_
 rintro _ co cp cq ⟨rfl,d⟩
 exact au 3<|lw (Gb g) rfl b.hA<|sA (cs:=#[.string Co,Zs,Zi,Zi,Zs,Zl,Zl,Zl,.slice (some ⟨r,0,none⟩) 3 3,Zl,Zl,Zl]) (Gb m) rfl rfl rfl b.hA b.one fun cr ct cu m=>au 2<|hD.hZ rfl (by rw[b.hA];exact F.hN) (hB.hE m) (hH.mk w.g ⟨_,rfl,d.g,b.g.up Aw⟩)
inductive Lf:List UInt8→List N→List UInt8→Prop
 |nil {L:List UInt8} (hn:iE L ⟨#[63,47,47]⟩=false):Lf L [] L
 |cons {p:N} {ps:List N} {L L2 L':List UInt8} (ht:iE L ⟨#[63,47,47]⟩=true) (h:kO 1 138 [] (lx L).2.2 p L2) (r:Lf L2 ps L'):Lf L (p::ps) L'
theorem xT(j:iE L Cy=false):tE 134 q L q L:=by
 intro g o s k p hs c hD0 b
 have b:=b.up (D':=fun d=>k d∨DV [] g.heap.size g.heap.size d) (fun d h=>Ts h)
 have r:=c.lt
 have t:=c.lt
 refine cY Tryz.func134 fun l=>ac 2<|bX rfl fun u v w y z m=>al F.z31 rfl fun A B C D E f=>au 5<|cX (jd j c.g) ?_
 rintro _ G H I rfl
 exact au 5<|lw (Gb m) rfl b.hA<|sA (Gb f) rfl rfl rfl b.hA b.one fun J K M f=>au 2<|hD.hZ rfl (by rw[b.hA];exact F.hN) (hB.hE f) (hH.mk l.g ⟨_,rfl,c.g,b.g.up Aw⟩)
theorem FW{ps:List N}(ht:iE lA Cy)(h1:kO 1 138 [] (lx lA).2.2 p lB)(ab:Lf lB ps.tail M)(an:ps=p::ps.tail)(ao:ps.length≤1048576)(ap:iE M CI)(h2:RQ 15 [] (lx M).2.2 qA L):tE 134 q lA (.mk Cy ⟨#[]⟩ V0 [] [q,qA] ps []) L:=by
 intro f G s A Q hs c hD0 g
 have g:=g.up (D':=fun b=>A b∨DV [] f.heap.size f.heap.size b) (fun b h=>Ts h)
 have aq:=c.lt
 have aX:=c.lt
 refine cY Tryz.func134 fun r=>ac 2<|bX rfl fun k aY aZ ba ar v=>al F.z31 rfl fun l bb bc bd av t=>au 5<|cX (jD ht hs c.g) ?_
 rintro _ aw be bf ⟨rfl,c⟩
 refine au 7 ?_
 obtain⟨ax,R⟩:=nm aw
 have bg:=r.g.le R
 refine cX (h1 _ _ _ hs c) ?_
 rintro _ ay az bh ⟨ad,rfl,c,u⟩
 obtain⟨a0,ae,bi⟩:=nl ay
 rw[←R,←ae]at u
 have bj:=az.l2 R ae
 have u:=u.up (D':=(DV [k,l] ax a0)) Ad
 refine bN (css:=[ad]) F.nX rfl rfl (by intro b hc;simp only[Tr,Tp,TD]at hc;rcases hc with rfl;exact u.jc) ?_
 intro S af bk bl bm T
 obtain⟨a1,bn,bo⟩:=nl af
 have U:=RN.nJ (w:=af) (D:=(fun b=>A b∨DV [k,l] f.heap.size a1 b)) (op:=Cy) (text:=⟨#[]⟩) Ap Ap Rw.nil Rs.nil (Rw.one (cap:=1) T Ay u.jc (u.g.up Ab) Ah) Rw.nil
 refine bD #[.string Cy,Zs,Zi,Zi,Zs,Zl,Zl,Zl,Zl,Zl,.slice (some ⟨S,0,none⟩) 1 1,Zl]<|al F.z31 rfl fun o bp bq br a2 d=>sA (cs:=#[.string Cy,Zs,Zi,Zi,Zs,Zl,Zl,Zl,Zl,Zl,.slice (some ⟨S,0,none⟩) 1 1,Zl]) d rfl rfl rfl U.hA U.one ?_
 intro ag bs bt d
 obtain⟨ah,bu,a3⟩:=nl ag
 have j:NC ag 1 59 4 (fun b=>b=k∨b=l∨b=o) f.heap.size ah [_] _ _:=NC.hE (Gb T) Ac Ac As u.jc (u.g.up AA)
 refine au 3 ?_
 have g:=g.g.up (D':=fun b=>A b∨DV [k,l,o] f.heap.size f.heap.size b) Ab
 refine lE [G] f (σ:=List N×List UInt8×List N×Value×List (Array Value)×Nat) [(14,22)] [(0,Pt G),(3,Pt k),(4,Pt l),(5,Pt o)] (fun _=>[]) (fun(B,L,C,I,H,W) y=>Lf L B M∧C++B=ps∧At y G s L∧y.heap[k]? =some (.cells Q 31 (0,0))∧y.heap[l]? =some (.cells #[Zs,Zs,Zi,Zi,Zs,Zl,Zl,Zl,Zl,Zl,Zl,Zl] 31 (0,0))∧y.heap[o]? =some (.cells #[.string Cy,Zs,Zi,Zi,Zs,Zl,Zl,Zl,Zl,Zl,I,Zl] 31 (0,0))∧RN y (fun b=>A b∨DV [k,l,o] f.heap.size f.heap.size b) 0 q Q∧NC y 1 59 4 (fun b=>b=k∨b=l∨b=o) f.heap.size W C I H∧W≤y.heap.size) (fun(B,_)=>B.length) ((ps.tail,lB,[p],.slice (some ⟨S,0,none⟩) 1 1,[ad],ah)) ?_ ?_
 ·exact⟨r.g,ab,an.symm,c.g,(Gb v),(Gb t),d,g,j,Ac⟩
 clear r g v t c u T U d j a3 ab
 rintro bv ⟨B,L,C,I,H,W⟩ bw bx ⟨r,a4,X,c,v,t,d,g,j,bz⟩
 have aq:=c.lt
 have ar:=hC v
 have av:=hC t
 have a2:=hC d
 have b0:C.length+B.length≤1048576:=by rw[←Tl,X];exact ao
 refine ac 4 ?_
 cases a4 with
 |nil a5=>
  refine cX (jd a5 c) ?_
  rintro _ b1 b2 b3 rfl
  refine au 3<|ac 3<|cX (im ap hs c.g) ?_
  rintro _ b4 b5 b6 ⟨rfl,c⟩
  refine au 2<|dR [G] 3 fun a6 a7 b7 P=>have b8:=a7.size;gT 0 rfl (fun b9 a8=>Y.jl rfl (a8.hO (Gb v) AK) (by rw[g.hA];exact F.hN))<|aG [1]<|gp 2 ?_
  obtain⟨bA,ai⟩:=nm a6
  have bB:=r.g.le ai
  refine cX (h2 _ _ _ hs c.g) ?_
  rintro _ a9 bC bE ⟨aA,rfl,c,E⟩
  obtain⟨aB,aC,bF⟩:=nl a9
  rw[←ai,←aC]at E
  have E:=E.up (D':=(fun b=>A b∨DV [k,l,o] f.heap.size aB b)) AD
  refine gn P.g<|gp 3<|bN (css:=[Q,aA]) F.ic rfl rfl (by intro b hc;simp only[Tr,Tp,TD]at hc;rcases hc with rfl|rfl;exact g.hA;exact E.hA) fun aj bG bH bI bJ aD=>gl<|aG [4]<|gp 5<|sc (Gb d) rfl rfl rfl rfl fun Z bK bL d=>have d:Z.heap[o]? =some (.cells #[.string Cy,Zs,Zi,Zi,Zs,Zl,Zl,Zl,.slice (some ⟨aj,0,none⟩) 2 2,Zl,I,Zl] 31 (0,0)):=d;gl<|gD<|ac 2 ?_
  obtain⟨aE,bM,bO⟩:=nl Z
  have J:=RN.nJ (w:=Z) (D:=(fun b=>A b∨DV [k,l,o] f.heap.size aE b)) (op:=Cy) (text:=⟨#[]⟩) Ap Ap (Rw.two (cap:=2) (Gb aD) Ay g.hA E.hA (g.g.up Ab) (E.g.up Ab) Ah) Rs.nil ((j.g.rw Ah Ae).mono (by intro b hc;right;obtain⟨h1,h2,aF⟩:=hc;(try dsimp only at aF);refine⟨Ac,Ac,?_⟩;simp only[Tr,Tp,TD,U9];omega)) Rw.nil
  refine lw d rfl J.hA<|sA (cs:=#[.string Cy,Zs,Zi,Zi,Zs,Zl,Zl,Zl,.slice (some ⟨aj,0,none⟩) 2 2,Zl,I,Zl]) (Gb t) rfl rfl rfl J.hA J.one fun bP bQ bR t=>au 2 ?_
  obtain rfl:C=ps:=by simpa using X
  exact hD.hZ rfl (by rw[J.hA];exact F.hN) (hB.hE t) (hH.mk r.g ⟨_,rfl,c.g,J.g.up Aw⟩)
 |cons ht h aH=>
  refine cX (jD ht hs c) ?_
  rintro _ bS bT bU ⟨rfl,c⟩
  refine au 4<|dR [G] 5 fun aI aJ bV P=>have bW:=aJ.size;aG [0]<|gM 1 (Gb d) rfl rfl rfl<|aG [2]<|gp 3 ?_
  obtain⟨aK,aa⟩:=nm aI
  have bY:=r.g.le aa
  refine cX (h _ _ _ hs c.g) ?_
  rintro _ aL aM bZ ⟨aN,rfl,c,z⟩
  obtain⟨aO,ak,ca⟩:=nl aL
  rw[←aa,←ak]at z
  have cb:=aM.l2 aa ak
  have z:=z.up (D':=(DV [k,l,o] aK aO)) Ad
  refine gn P.g<|gp 4<|bN (css:=[aN]) F.nX rfl rfl (by intro b hc;simp only[Tr,Tp,TD]at hc;rcases hc with rfl;exact z.jc) fun cc cd ce cf aP aQ=>gn P.g<|gp 5<|DL.hJ rfl rfl F.nX rfl rfl j.g.own (hB.hE aQ) (hW (sz:=4) (m:=1) (by intro b hc;simp only[Tr,Tp,TD]at hc;rcases hc with rfl;exact z.jc) rfl) (hM Aq) Ae Ae Ac ?_
  intro aR aS w aT aU
  have am:=j.g.lo';have K:=fun O=>j.g.nx (b:=O);have hL:=fun O=>j.lt (b:=O)
  have j:=j.g.kI Ac As z.jc (z.g.up Ai) w aT aU
  have r:=r.g.put w (fun x hx=>Tk (am x hx))
  have v:=w.hO (Gb v) (K _ As)
  have t:=w.hO (Gb t) (K _ As)
  have d:=w.hO (Gb d) (K _ As)
  have g:=g.g.fr w (fun b hc=>by rcases hc with hc|hc;(have:=hD0 b hc;exact hL _ Ac);exact K _ A5)
  have c:=c.g.fr w (hL _ Ac)
  have aP:=Tj Ac w.size
  clear am K hL
  obtain⟨cg,aV,ch⟩:=nl aS
  rw[←aV]at j
  exact gl<|aG [6]<|gp 7<|sc d rfl rfl j.one rfl fun aW ci cj d=>have d:aW.heap[o]? =some (.cells #[.string Cy,Zs,Zi,Zi,Zs,Zl,Zl,Zl,Zl,Zl,aR,Zl] 31 (0,0)):=d;gl<|gD ⟨(_,_,C++[_],_,_,_),⟨r.g,aH,by rw[←X,Ty];rfl,c.g,(Gb v),(Gb t),d,g.g,j.g,Ac⟩,TY _,trivial⟩
inductive TS:Nat→N→List UInt8→N→List UInt8→Prop
 |nil {q:N} {L:List UInt8} (hf:(lx L).1≠kB) (h1:iE L ⟨#[91]⟩=false) (h2:iE L ⟨#[63]⟩=false) (h3:iE L ⟨#[46]⟩=false):TS 0 q L q L
 |FP {m:Nat} {q q':N} {L r L':List UInt8} {x:ByteArray} (e:lx L=(kB,x,r)) (hx:x.size≤1099511627776) (rest:TS m (.mk ⟨#[102,105,101,108,100]⟩ x V0 [] [q] [] []) r q' L'):TS (m+1) q L q' L'
 |opt {m:Nat} {q q':N} {L L':List UInt8} (ht:iE L ⟨#[63]⟩=true) (rest:TS m (.mk ⟨#[63]⟩ ⟨#[]⟩ V0 [] [q] [] []) (lx L).2.2 q' L'):TS (m+1) q L q' L'
 |za {m:Nat} {q q1 q':N} {L L1 L':List UInt8} (ht:iE L ⟨#[91]⟩=true) (h:tE 140 q (lx L).2.2 q1 L1) (rest:TS m q1 L1 q' L'):TS (m+1) q L q' L'
 |str {m:Nat} {q s q':N} {L r L1 L':List UInt8} (ht:iE L ⟨#[46]⟩=true) (e0:lx (lx L).2.2=(kU,bE,r)) (h:kO 0 141 [.string ⟨#[]⟩] (lx L).2.2 s L1) (hv:iz s≠⟨#[118,97,108]⟩∨∃t:ByteArray,s=jk t∧t.size≤1099511627776) (rest:TS m (Ev q s) L1 q' L'):TS (m+1) q L q' L'
theorem zI{x:ByteArray}(h:iE L x):(lx L).1≠kB:=by
 unfold iE at h
 intro e
 rw[e]at h
 cases h
theorem Ee{x:ByteArray}(h:iE L x)(b:x≠t):iE L t=false:=by
 unfold iE at h⊢
 simp only[Tx,TA]at h
 rw[h.2,Ti b,VQ]
theorem iZ{L1:List UInt8}(h1:RQ 139 [] M q L1)(H:TS m q L1 p L):RQ 135 [] M p L:=by
 intro g A s hs b
 have ai:=b.lt
 have aK:=b.lt
 refine cY Tryz.func135 fun j=>ac 2<|al F.z31 rfl fun k aj aL aM ak l=>au 4 ?_
 obtain⟨aN,aa⟩:=nm aj
 have aO:=j.g.le aa
 refine cX (h1 _ _ _ hs b.g) ?_
 rintro _ am aP aQ ⟨an,rfl,b,r⟩
 obtain⟨J,ao,aR⟩:=nl am
 rw[←aa,←ao]at r
 have r:=r.up (D':=(DV [k] g.heap.size J)) Ad
 refine al F.z31 rfl fun o aS aT aU ap c=>sA c rfl rfl rfl r.hA r.one fun aV aW aX c=>au 3 ?_
 have r:=r.g.up (D':=DV [k,o] g.heap.size J) Af
 refine lE [A] g (σ:=Nat×N×List UInt8×Array Value×Nat) [(6,58)] [(0,Pt A),(2,Pt k),(3,Pt o)] (fun _=>[]) (fun(m,K,O,w,P) B=>TS m K O p L∧At B A s O∧B.heap[k]? =some (.cells #[Zs,Zs,Zi,Zi,Zs,Zl,Zl,Zl,Zl,Zl,Zl,Zl] 31 (0,0))∧B.heap[o]? =some (.cells w 31 (0,0))∧RN B (DV [k,o] g.heap.size P) 0 K w∧P≤B.heap.size) (fun(m,_)=>m) ((m,q,L1,an,J)) ?_ ?_
 ·exact⟨j.g,H,b.g,(Gb l),c,r,Ac⟩
 clear j l b r c H
 rintro aY ⟨m,K,O,w,P⟩ aZ ba ⟨j,H,b,l,c,d,bb⟩
 have ai:=b.lt
 have ak:=hC l
 have ap:=hC c
 refine ac 1 ?_
 cases H with
 |nil aq ar av aw=>
  refine ac 5 ?_
  obtain⟨a,C,E,f⟩:=id b
  refine lD f rfl rfl<|au 12<|lD f rfl rfl<|sX (aq) rfl rfl<|au 6<|cX (jd ar b) ?_
  rintro _ bc bd be rfl
  refine au 6<|cX (jd av b.g) ?_
  rintro _ bf bg bh rfl
  refine au 6<|cX (jd aw b.g) ?_
  rintro _ bi bj bk rfl
  exact au 5<|lw (Gb c) rfl d.hA<|sA (Gb l) rfl rfl rfl d.hA d.one fun bl bm bn l=>au 2<|hD.hZ rfl (by rw[d.hA];exact F.hN) (hB.hE l) (hH.mk j.g ⟨_,rfl,b.g,d.g.up oX⟩)
 | @FP m _ _ _ bo _ x e hx t=>
  refine ac 5 ?_
  obtain⟨a,C,E,f⟩:=b.ob e
  refine lD f rfl rfl<|au 12<|lD f rfl rfl<|au 5<|dR [A] 6 fun bp ax bq Q=>have br:=ax.size;aG [0,1,2,3]<|gT 5 rfl (fun R S=>Y.jl rfl (S.hO (Gb c) AK) (by rw[d.hA];exact F.hN))<|gQ 4 6 ?_ ?_
  ·refine lD (Gb f) rfl rfl<|gn Q<|gp 6<|bN (css:=[w]) F.ic rfl rfl Ag fun G ab bs ay az T=>gl ?_
   obtain⟨U,a0,a1⟩:=nl ab
   have u:=RN.r0 (w:=ab) (D:=(DV [k,o] g.heap.size U)) (op:=Cu) (text:=x) (cap:=1) Ap Ap T Ar (d.g.up Af) Ah
   refine gf 7 rfl (fun R=>Y.build (cs:=#[.string Cu,.string x,Zi,Zi,Zs,Zl,Zl,Zl,.slice (some ⟨G,0,none⟩) 1 1,Zl,Zl,Zl]) Au)<|gp 8<|sA (cs:=#[.string Cu,.string x,Zi,Zi,Zs,Zl,Zl,Zl,.slice (some ⟨G,0,none⟩) 1 1,Zl,Zl,Zl]) (Gb c) rfl rfl d.hA u.hA u.one fun bt bu bv v=>have c:=v;gl<|gD<|ac 2<|cX (jf hs b.g) ?_
   rintro _ bw bx bz ⟨rfl,b⟩
   rw[e]at b
   exact au 1 ⟨(_,_,_,_,_),⟨j.g,t,b,(Gb l),(Gb c),u.g,Ac⟩,TY _,trivial⟩
  refine bN (css:=[w]) F.ic rfl rfl Ag fun G ad b0 ay az T=>gl<|gp 4<|lD (Gb f) rfl rfl<|gl ?_
  obtain⟨U,a0,a1⟩:=nl ad
  have u:=RN.r0 (w:=ad) (D:=(DV [k,o] g.heap.size U)) (op:=Cu) (text:=x) (cap:=1) Ap Ap T Ar (d.g.up Af) Ah
  refine gf 7 rfl (fun R=>Y.build (cs:=#[.string Cu,.string x,Zi,Zi,Zs,Zl,Zl,Zl,.slice (some ⟨G,0,none⟩) 1 1,Zl,Zl,Zl]) Au)<|gp 8<|sA (cs:=#[.string Cu,.string x,Zi,Zi,Zs,Zl,Zl,Zl,.slice (some ⟨G,0,none⟩) 1 1,Zl,Zl,Zl]) (Gb c) rfl rfl d.hA u.hA u.one fun b1 b2 b3 v=>have c:=v;gl<|gD<|ac 2<|cX (jf hs b.g) ?_
  rintro _ b4 b5 b6 ⟨rfl,b⟩
  rw[e]at b
  exact au 1 ⟨(_,_,_,_,_),⟨j.g,t,b,(Gb l),(Gb c),u.g,Ac⟩,TY _,trivial⟩
 |opt ht t=>
  refine ac 5 ?_
  obtain⟨a,C,E,f⟩:=id b
  refine lD f rfl rfl<|au 12<|lD f rfl rfl<|sX (zI ht) rfl rfl<|au 6<|cX (jd (Ee ht Ah) b) ?_
  rintro _ b7 b8 b9 rfl
  refine au 6<|cX (jD ht hs b.g) ?_
  rintro _ bA bB bC ⟨rfl,b⟩
  refine au 4<|lw (Gb c) rfl d.hA<|bN (css:=[w]) F.ic rfl rfl Ag fun a2 bD bE bF bG a3=>cX (jA _ _ _ _ _) ?_
  rintro _ ae bH bI rfl
  obtain⟨a4,bJ,bK⟩:=nl ae
  have W:=RN.r0 (w:=ae) (D:=(DV [k,o] g.heap.size a4)) (op:=CH) (text:=⟨#[]⟩) (cap:=1) Ap Ap (Gb a3) Ar (d.g.up Af) Ah
  exact sA (cs:=#[.string CH,Zs,Zi,Zi,Zs,Zl,Zl,Zl,.slice (some ⟨a2,0,none⟩) 1 1,Zl,Zl,Zl]) (Gb c) rfl rfl d.hA W.hA W.one fun bL bM bO v=>have c:=v;au 1 ⟨(_,_,_,_,_),⟨j.g,t,b.g,(Gb l),c,W.g,Ac⟩,TY _,trivial⟩
 |za ht h t=>
  refine ac 5 ?_
  obtain⟨a,C,E,f⟩:=id b
  refine lD f rfl rfl<|au 12<|lD f rfl rfl<|sX (zI ht) rfl rfl<|au 6<|cX (jD ht hs b) ?_
  rintro _ a5 bP bQ ⟨rfl,b⟩
  refine au 5<|lw (Gb c) rfl d.hA ?_
  obtain⟨bR,af⟩:=nm a5
  have bS:=j.g.le af
  refine cX (h _ _ _ _ _ hs b (fun a6 hc=>⟨by have:=hc.2.1;omega,by have:=hc.1;omega⟩) d.g) ?_
  rintro _ a7 bT bU ⟨bV,rfl,b,y⟩
  obtain⟨a8,a9,bW⟩:=nl a7
  rw[←af,←a9]at y
  have y:=y.up (D':=(DV [k,o] g.heap.size a8)) AC
  exact sA (Gb c) rfl rfl d.hA y.hA y.one fun bX bY bZ v=>have c:=v;au 1 ⟨(_,_,_,_,_),⟨j.g,t,b.g,(Gb l),c,y.g,Ac⟩,TY _,trivial⟩
 |str ht aA h aB t=>
  refine ac 5 ?_
  obtain⟨a,C,E,f⟩:=id b
  refine lD f rfl rfl<|au 12<|lD f rfl rfl<|sX (zI ht) rfl rfl<|au 6<|cX (jd (Ee ht Ah) b) ?_
  rintro _ ca cb cc rfl
  refine au 6<|cX (jd (Ee ht Ah) b.g) ?_
  rintro _ cd ce cf rfl
  refine au 6<|cX (jD ht hs b.g) ?_
  rintro _ cg ch ci ⟨rfl,b⟩
  refine au 10 ?_
  obtain⟨a,C,E,f⟩:=b.ob aA
  refine lD f rfl rfl<|au 4<|dR [A] 3 fun aC aD cj Q=>have ck:=aD.size;gT 0 rfl (fun R S=>Y.jl rfl (S.hO (Gb c) AK) (by rw[d.hA];exact F.hN))<|aG [1]<|gp 2 ?_
  obtain⟨cl,ag⟩:=nm aC
  have cm:=j.g.le ag
  refine cX (h _ _ _ hs b.g) ?_
  rintro _ ah cn co ⟨cp,rfl,b,I⟩
  obtain⟨X,aE,cq⟩:=nl ah
  rw[←ag,←aE]at I
  have I:=I.up (D':=(DV [k,o] g.heap.size X)) Ad
  refine gn Q.g<|gp 3 ?_
  obtain⟨aF,Z⟩:=nm ah
  have cr:=j.g.le Z
  have ct:X≤aF:=by rw[Z];exact Ac
  refine cX (o5 (D0:=DV [k,o] g.heap.size X) (fun a6 hc=>by have:=hc.2.1;omega) (d.g.up Af) (I.up Af) aB) ?_
  rintro _ aH cu cv ⟨cw,rfl,z⟩
  obtain⟨aI,aJ,cx⟩:=nl aH
  rw[←Z,←aJ]at z
  have z:=z.up (D':=DV [k,o] g.heap.size aI) AC
  exact gl<|gp 4<|sA (Gb c) rfl rfl d.hA z.hA z.one fun cy cz c0 c=>gl<|gD ⟨(_,_,_,_,_),⟨j.g,t,b.g,(Gb l),c,z.g,Ac⟩,TY _,trivial⟩
def pW:Nat→List UInt8→Nat
 |a,[]=>a
 |a,c::r=>pW (10*a+(c.toNat - 48)) r
theorem sF:∀(c:List UInt8)(a:Nat),a≤pW a c
 |[],a=>Tv _
 |b::d,a=>Tq (by omega:a≤10*a+(b.toNat - 48)) (sF d (10*a+(b.toNat - 48)))
theorem D.Y.L5{P:Program}{e:Env}{w:World}{x y:Operand}{t u ty:TypeId}{dst:Option Tmp}{pos:String}{af:Array Edge}{g:Option (Nat×Bool)}{a b:Nat}(hx:ev e x=.int .u8 (a:Int))(c:ev e y=.int .u8 (b:Int))(h:b≤a)(h2:a<256):Y P e ⟨dst,.binOp .sub t x y u,ty,pos,af,g⟩ w (.int .u8 ((a - b:Nat):Int)):=by
 have:=Y.sub (P:=P) (w:=w) (dst:=dst) (t:=t) (u:=u) (ty:=ty) (pos:=pos) (af:=af) (g:=g) hx c
 have d:IntKind.u8.wrap ((a:Int) - (b:Int))=((a - b:Nat):Int):=by rw[IntKind.wrap_u8];omega
 rw[d]at this
 exact this
theorem D.Y.zt{P:Program}{e:Env}{w:World}{x:Operand}{s t ty:TypeId}{dst:Option Tmp}{pos:String}{af:Array Edge}{g:Option (Nat×Bool)}{k:IntKind}{a:Nat}(hs:(P.underlying s).isSome)(ht:P.underlying t=some (.int .i64))(hx:ev e x=.int k (a:Int))(h2:a<256):Y P e ⟨dst,.convert s t x,ty,pos,af,g⟩ w (.int .i64 (a:Int)):=by
 have:=Y.Dt (P:=P) (w:=w) (dst:=dst) (ty:=ty) (pos:=pos) (af:=af) (g:=g) hs ht hx
 rwa[wrap_i64 Ac Ac]at this
theorem p7{x:ByteArray}(h:x.data.toList=L++M){i:Nat}(hi:i<x.size)(hl:i<L.length):x[i]=L[i]:=by
 rw[←pA hi (by rw[←hK];exact hi)]
 simp only[h,TC hl]
theorem DB{x:ByteArray}(h:x.data.toList=L++M){i:Nat}(hi:i<x.size)(hl:L.length≤i)(b:i - L.length<M.length):x[i]=M[i - L.length]:=by
 rw[←pA hi (by rw[←hK];exact hi)]
 simp only[h,Tz hl]
theorem u1{x:ByteArray}(h:x.data.toList=L++M):x.extract L.length x.size=ba M:=by
 unfold ba
 have:(x.extract L.length x.size).data.toList=M:=by
  rw[UI,UQ,UL,h,List.drop_left,hK,h];simp
 rw[←this]
theorem RN.leaf{w:World}{D:Nat→Prop}{k h:Int}{t:ByteArray}(hk: -1000≤k∧k≤1000)(b: -9223372036854775808≤h∧h≤9223372036854775807)(ht:t.size≤1099511627776):RN w D 0 (.mk Cr ⟨#[]⟩ (.mk k h t [] [] []) [] [] [] []) #[.string Cr,Zs,.int .i64 k,.int .i64 h,.string t,Zl,Zl,Zl,Zl,Zl,Zl,Zl]:=by
 have c:j3 w D (.mk k h t [] [] []) #[.int .i64 k,.int .i64 h,.string t,Zl,Zl,Zl]:=by
  refine j3.mk (list:=[]) (keys:=[]) (vals:=[]) (fun _=>#[]) (fun _=>#[]) Ac b Ac Ah Ah Ah (fun k h=>by cases h) ?_ ?_ ?_ ?_ ?_
  all_goals intro i h;cases h
 refine RN.q (names:=[]) (kids:=[]) (pats:=[]) (defs:=[]) (fun _=>#[]) (fun _=>#[]) (fun _=>#[]) Ah Ah c Ah Ah Ah Ah (fun s h=>by cases h) ?_ ?_ ?_ ?_ ?_ ?_ ?_ Ah
 all_goals intro i h;cases h
theorem IN{x:ByteArray}{n:Nat}{br:Nat}(m:World)(hx:x.data.toList=L++[])(g:∀j∈L,48≤j.toNat∧j.toNat≤57)(q:pW 0 L=n)(D:n≤18014398509481984)(E:x.size≤1099511627776):Calls Tryz.prog 148 #[Pt br,.string x] m (hH m [] fun r _=>r=.agg #[.string Cr,Zs,.int .i64 3,.int .i64 ((2*n:Nat):Int),Zs,Zl,Zl,Zl,Zl,Zl,Zl,Zl]):=by
 have hlen:x.size=L.length+0:=by rw[hK,hx];simp
 refine cY Tryz.func148 fun l=>ac 2<|al F.z31 rfl fun t u G H I d=>au 8<|lE [] u (σ:=Nat×Nat) [(5,30)] [(0,Pt br),(1,.string x),(4,Pt t)] (fun(i,a)=>[(5,.int .i64 ((a:Nat):Int)),(6,.int .i64 ((i:Nat):Int))]) (fun(i,a) J=>i≤L.length∧pW a (L.drop i)=n) (fun(i,a)=>L.length - i) ((0,0)) ?_ ?_
 ·exact⟨Fr.refl _ _,TE _,q⟩
 rintro K ⟨i,a⟩ M v ⟨k,O,f⟩
 have l:=l.g.jP k
 have P:=k.size
 have d:=k.il d
 have w:=k
 have Q:=Fr.refl [] v
 refine ac 6<|jX rfl rfl (fun y=>?_) (fun y=>?_)
 ·have o:i<x.size:=by omega
  refine au 3<|DL.y rfl rfl (Y.jb (i:=i) Tryz.underlying9 rfl rfl rfl Ac)<|jN rfl rfl (fun z=>?_) (fun z=>?_)
  ·have c:i<L.length:=by
    omega
   have p:x[i]=L[i]:=p7 hx o c
   have A:=g _ (T2 c)
   have hge:10*a+(L[i].toNat - 48)≤n:=by rw[T6 c]at f;rw[←f];exact sF _ _
   rw[←p]at hge A
   refine au 8<|DL.y rfl rfl (Y.yA (c:=((10*a:Nat):Int)) rfl rfl Ac Ac Ac)<|au 2<|DL.y rfl rfl (Y.jb (i:=i) Tryz.underlying9 rfl rfl rfl Ac)<|DL.y rfl rfl (Y.L5 (a:=x[i].toNat) (b:=48) rfl rfl Ac (UInt8.toNat_lt _))<|DL.y rfl rfl (Y.zt F.Np Tryz.underlying3 rfl (by have:=(x[i]).toNat_lt;omega))<|ai ((10*a+(x[i].toNat - 48):Nat):Int) rfl rfl<|au 6<|jG rfl rfl (fun B=>?_) (fun B=>?_)
   ·exfalso;omega
   refine au 5<|ai ((i+1:Nat):Int) rfl rfl<|au 2 ?_
   have g:L.drop i=L[i]::L.drop (i+1):=T6 c
   refine⟨(i+1,10*a+(x[i].toNat - 48)),⟨w,c,by rw[g,←p]at f;exact f⟩,by show L.length - (i+1)<L.length - i;omega,⟨rfl,rfl⟩⟩
  have R:i=L.length:=by
   apply U1;intro S
   have c:i<L.length:=by omega
   have:=g _ (T2 c)
   rw[←p7 hx o c]at this;omega
  exfalso;omega
 obtain rfl:i=L.length:=by omega
 have C:x.extract ((L.length:Int).toNat) x.size=ba []:=u1 hx
 refine au 9<|ac 3 ?_
 obtain rfl:n=a:=by have:=f;rw[List.drop_length]at this;exact this.symm
 refine DL.y rfl rfl (Y.yA (c:=((2*n:Nat):Int)) rfl rfl Ac Ac Ac)<|au 7<|DL.y rfl rfl (Y.vw Tryz.underlying9 rfl rfl Ac Ac)<|au 5<|sT C rfl rfl<|au 9<|bD #[.int .i64 3,.int .i64 ((2*n:Nat):Int),Zs,Zl,Zl,Zl]<|cX (l6 _ _ _ _ _ _ Au _) ?_
 rintro _ T U W rfl
 exact sA (cs:=#[.string Cr,Zs,.int .i64 3,.int .i64 ((2*n:Nat):Int),Zs,Zl,Zl,Zl,Zl,Zl,Zl,Zl]) (Gb d) rfl rfl rfl rfl Au fun X Z aa d=>au 2<|hD.hZ (cs:=#[.string Cr,Zs,.int .i64 3,.int .i64 ((2*n:Nat):Int),Zs,Zl,Zl,Zl,Zl,Zl,Zl,Zl]) rfl F.hN (hB.hE d) (hH.mk l.g rfl)
theorem ID{x:ByteArray}{n:Nat}{br:Nat}(q:World)(hx:x.data.toList=L++[46,53])(g:∀j∈L,48≤j.toNat∧j.toNat≤57)(u:pW 0 L=n)(E:n≤18014398509481984)(G:x.size≤1099511627776):Calls Tryz.prog 148 #[Pt br,.string x] q (hH q [] fun v _=>v=.agg #[.string Cr,Zs,.int .i64 3,.int .i64 ((2*n+1:Nat):Int),Zs,Zl,Zl,Zl,Zl,Zl,Zl,Zl]):=by
 have hlen:x.size=L.length+2:=by rw[hK,hx];simp
 refine cY Tryz.func148 fun l=>ac 2<|al F.z31 rfl fun w y H I J d=>au 8<|lE [] y (σ:=Nat×Nat) [(5,30)] [(0,Pt br),(1,.string x),(4,Pt w)] (fun(i,a)=>[(5,.int .i64 ((a:Nat):Int)),(6,.int .i64 ((i:Nat):Int))]) (fun(i,a) K=>i≤L.length∧pW a (L.drop i)=n) (fun(i,a)=>L.length - i) ((0,0)) ?_ ?_
 ·exact⟨Fr.refl _ _,TE _,u⟩
 rintro M ⟨i,a⟩ O z ⟨k,P,f⟩
 have l:=l.g.jP k
 have Q:=k.size
 have d:=k.il d
 have A:=k
 have R:=Fr.refl [] z
 refine ac 6<|jX rfl rfl (fun B=>?_) (fun B=>?_)
 ·have m:i<x.size:=by omega
  refine au 3<|DL.y rfl rfl (Y.jb (i:=i) Tryz.underlying9 rfl rfl rfl Ac)<|jN rfl rfl (fun r=>?_) (fun r=>?_)
  ·have c:i<L.length:=by
    apply U1;intro hge
    have o:i=L.length:=by omega
    apply r;subst o
    rw[DB hx m (Tv _) Al]
    simp
   have t:x[i]=L[i]:=p7 hx m c
   have C:=g _ (T2 c)
   have hge:10*a+(L[i].toNat - 48)≤n:=by rw[T6 c]at f;rw[←f];exact sF _ _
   rw[←t]at hge C
   refine au 8<|DL.y rfl rfl (Y.yA (c:=((10*a:Nat):Int)) rfl rfl Ac Ac Ac)<|au 2<|DL.y rfl rfl (Y.jb (i:=i) Tryz.underlying9 rfl rfl rfl Ac)<|DL.y rfl rfl (Y.L5 (a:=x[i].toNat) (b:=48) rfl rfl Ac (UInt8.toNat_lt _))<|DL.y rfl rfl (Y.zt F.Np Tryz.underlying3 rfl (by have:=(x[i]).toNat_lt;omega))<|ai ((10*a+(x[i].toNat - 48):Nat):Int) rfl rfl<|au 6<|jG rfl rfl (fun D=>?_) (fun D=>?_)
   ·exfalso;omega
   refine au 5<|ai ((i+1:Nat):Int) rfl rfl<|au 2 ?_
   have g:L.drop i=L[i]::L.drop (i+1):=T6 c
   refine⟨(i+1,10*a+(x[i].toNat - 48)),⟨A,c,by rw[g,←t]at f;exact f⟩,by show L.length - (i+1)<L.length - i;omega,⟨rfl,rfl⟩⟩
  have o:i=L.length:=by
   apply U1;intro S
   have c:i<L.length:=by omega
   have:=g _ (T2 c)
   rw[←p7 hx m c]at this;omega
  subst o
  have p:x.extract ((L.length:Int).toNat) x.size=ba [46,53]:=u1 hx
  refine au 4<|ac 3 ?_
  obtain rfl:n=a:=by have:=f;rw[List.drop_length]at this;exact this.symm
  refine DL.y rfl rfl (Y.yA (c:=((2*n:Nat):Int)) rfl rfl Ac Ac Ac)<|au 7<|DL.y rfl rfl (Y.vw Tryz.underlying9 rfl rfl Ac Ac)<|au 3<|DC.pH rfl rfl (Ti (by rw[p];decide))<|ac 1<|sX (by rw[p];decide) rfl rfl<|au 5<|sT p rfl rfl<|au 5<|ai ((2*n+1:Nat):Int) rfl rfl<|au 5<|bD #[.int .i64 3,.int .i64 ((2*n+1:Nat):Int),Zs,Zl,Zl,Zl]<|cX (l6 _ _ _ _ _ _ Au _) ?_
  rintro _ T U W rfl
  exact sA (cs:=#[.string Cr,Zs,.int .i64 3,.int .i64 ((2*n+1:Nat):Int),Zs,Zl,Zl,Zl,Zl,Zl,Zl,Zl]) (Gb d) rfl rfl rfl rfl Au fun X Z aa d=>au 2<|hD.hZ (cs:=#[.string Cr,Zs,.int .i64 3,.int .i64 ((2*n+1:Nat):Int),Zs,Zl,Zl,Zl,Zl,Zl,Zl,Zl]) rfl F.hN (hB.hE d) (hH.mk l.g rfl)
 exfalso;omega
theorem k8{a:Nat}{s:ByteArray}(b:w.heap[m]? =some (.cells (pG s a t sA) 54 (0,0))):hB w m 2 #[.string t,.string sA]:=by
 intro c hj
 have d:c<2:=hj
 match c,d with
 |0,_=>exact jm b rfl
 |1,_=>exact jm b rfl
theorem rN{x:ByteArray}(e:lx M=(vf,x,L)){h:Nat}(v:h≤1152921504606846976)(m:∀(c:World)(j:Nat),Calls Tryz.prog 148 #[Pt j,.string x] c (hH c [] fun L _=>L=.agg #[.string Cr,Zs,.int .i64 3,.int .i64 (h:Int),Zs,Zl,Zl,Zl,Zl,Zl,Zl,Zl])):RQ 139 [] M (.mk Cr ⟨#[]⟩ (.mk 3 (h:Int) ⟨#[]⟩ [] [] []) [] [] [] []) L:=by
 intro c j s hs b
 have w:=b.lt
 have y:=b.lt
 refine cY Tryz.func139 fun o=>ac 2<|al F.z31 rfl fun p z A B C g=>au 6 ?_
 obtain⟨a,E,G,q⟩:=b.g.ob e
 refine lA (cs:=#[.string vf,.string x]) (k8 q) rfl rfl<|al F.uv rfl fun r H I J K d=>sA (cs:=#[.string vf,.string x]) d rfl rfl rfl rfl Au fun O P Q d=>au 5<|lD d rfl rfl<|au 11<|cX (jf hs b.g) ?_
 rintro _ R S T ⟨rfl,b⟩
 rw[e]at b
 refine au 5<|lD (Gb d) rfl rfl<|cX (m _ _) ?_
 rintro _ l U W rfl
 obtain⟨u,X,Y⟩:=nl l
 have f:=RN.leaf (w:=l) (D:=(DV [p,r] c.heap.size u)) (k:=3) (h:=(h:Int)) (t:=⟨#[]⟩) Ah Ac Ah
 exact sA (cs:=#[.string Cr,Zs,.int .i64 3,.int .i64 (h:Int),Zs,Zl,Zl,Zl,Zl,Zl,Zl,Zl]) (Gb g) rfl rfl rfl f.hA f.one fun Z aa ab g=>au 2<|hD.hZ rfl (by rw[f.hA];exact F.hN) (hB.hE g) (hH.mk o.g ⟨_,rfl,b.g,f.g.up oX⟩)
theorem r2{L r:List UInt8}(e:lx L=(kU,⟨#[]⟩,r))(h:kO 0 141 [Zs] L q M):RQ 139 [] L q M:=by
 intro k w s hs c
 have y:=c.lt
 have z:=c.lt
 refine cY Tryz.func139 fun g=>ac 2<|al F.z31 rfl fun l A B C D d=>au 6 ?_
 obtain⟨a,E,G,m⟩:=c.g.ob e
 refine lA (cs:=#[.string kU,Zs]) (k8 m) rfl rfl<|al F.uv rfl fun o H I J K f=>sA (cs:=#[.string kU,Zs]) f rfl rfl rfl rfl Au fun p O P f=>au 5<|lD f rfl rfl<|au 17 ?_
 obtain⟨Q,j⟩:=nm p
 have R:=g.g.le j
 refine cX (h _ _ _ hs c.g) ?_
 rintro _ t S T ⟨U,rfl,c,b⟩
 obtain⟨u,v,W⟩:=nl t
 rw[←j,←v]at b
 have b:=b.up (D':=(DV [l,o] k.heap.size u)) Ad
 exact sA (Gb d) rfl rfl rfl b.hA b.one fun X Y Z d=>au 2<|hD.hZ rfl (by rw[b.hA];exact F.hN) (hB.hE d) (hH.mk g.g ⟨_,rfl,c.g,b.g.up oX⟩)
theorem yd{x:ByteArray}(e:lx M=(lu,x,L))(hx:x.size≤1099511627776)(l:(lx L).1≠kU):RQ 139 [] M (.mk Cz x V0 [] [] [] []) L:=by
 intro j u s hs b
 have v:=b.lt
 have w:=b.lt
 refine cY Tryz.func139 fun m=>ac 2<|al F.z31 rfl fun o y z A B f=>au 6 ?_
 obtain⟨a,p,q,g⟩:=b.g.ob e
 refine lA (cs:=#[.string lu,.string x]) (k8 g) rfl rfl<|al F.uv rfl fun r C E G H c=>sA (cs:=#[.string lu,.string x]) c rfl rfl rfl rfl Au fun I J K c=>au 5<|lD c rfl rfl<|au 23<|cX (jf hs b.g) ?_
 rintro _ k O P ⟨rfl,b⟩
 rw[e]at b
 refine au 8 ?_
 obtain⟨a,p,q,g⟩:=id b
 refine lD g rfl rfl<|sX l rfl rfl<|au 6<|lD (Gb c) rfl rfl ?_
 obtain⟨t,Q,R⟩:=nl k
 have d:=RN.jw (w:=k) (D:=(DV [o,r] j.heap.size t)) (op:=Cz) (text:=x) Ah Ap
 exact bD #[.string Cz,.string x,Zi,Zi,Zs,Zl,Zl,Zl,Zl,Zl,Zl,Zl]<|sA (cs:=#[.string Cz,.string x,Zi,Zi,Zs,Zl,Zl,Zl,Zl,Zl,Zl,Zl]) (Gb f) rfl rfl rfl d.hA d.one fun S T U f=>au 2<|hD.hZ rfl (by rw[d.hA];exact F.hN) (hB.hE f) (hH.mk m.g ⟨_,rfl,b.g,d.g.up oX⟩)
theorem wx{x:ByteArray}(e:lx M=(lu,x,L)){r':List UInt8}(l:lx L=(kU,bE,r'))(h:kO 0 141 [.string x] L q lB):RQ 139 [] M q lB:=by
 intro m z s hs b
 have A:=b.lt
 have B:=b.lt
 refine cY Tryz.func139 fun j=>ac 2<|al F.z31 rfl fun o C D E G f=>au 6 ?_
 obtain⟨a,p,r,g⟩:=b.g.ob e
 refine lA (cs:=#[.string lu,.string x]) (k8 g) rfl rfl<|al F.uv rfl fun t H I J K d=>sA (cs:=#[.string lu,.string x]) d rfl rfl rfl rfl Au fun O P Q d=>au 5<|lD d rfl rfl<|au 23<|cX (jf hs b.g) ?_
 rintro _ u R S ⟨rfl,b⟩
 rw[e]at b
 refine au 8 ?_
 obtain⟨a,p,r,g⟩:=b.ob l
 refine lD g rfl rfl<|au 7<|lD (Gb d) rfl rfl ?_
 obtain⟨T,k⟩:=nm u
 have U:=j.g.le k
 refine cX (h _ _ _ hs b) ?_
 rintro _ v W X ⟨Y,rfl,b,c⟩
 obtain⟨w,y,Z⟩:=nl v
 rw[←k,←y]at c
 have c:=c.up (D':=(DV [o,t] m.heap.size w)) Ad
 exact sA (Gb f) rfl rfl rfl c.hA c.one fun aa ab ad f=>au 2<|hD.hZ rfl (by rw[c.hA];exact F.hN) (hB.hE f) (hH.mk j.g ⟨_,rfl,b.g,c.g.up oX⟩)
theorem x5{x:ByteArray}(e:lx L=(lP,x,M))(hx:x.size≤1099511627776):RQ 139 [] L (.mk Cx x V0 [] [] [] []) M:=by
 intro g q s hs b
 have r:=b.lt
 have t:=b.lt
 refine cY Tryz.func139 fun k=>ac 2<|al F.z31 rfl fun l u v w y f=>au 6 ?_
 obtain⟨a,z,A,m⟩:=b.g.ob e
 refine lA (cs:=#[.string lP,.string x]) (k8 m) rfl rfl<|al F.uv rfl fun o B C E G c=>sA (cs:=#[.string lP,.string x]) c rfl rfl rfl rfl Au fun H I J c=>au 5<|lD c rfl rfl<|au 29<|cX (jf hs b.g) ?_
 rintro _ j K O ⟨rfl,b⟩
 rw[e]at b
 refine au 4<|lD (Gb c) rfl rfl ?_
 obtain⟨p,P,Q⟩:=nl j
 have d:=RN.jw (w:=j) (D:=(DV [l,o] g.heap.size p)) (op:=Cx) (text:=x) Ah Ap
 exact bD #[.string Cx,.string x,Zi,Zi,Zs,Zl,Zl,Zl,Zl,Zl,Zl,Zl]<|sA (cs:=#[.string Cx,.string x,Zi,Zi,Zs,Zl,Zl,Zl,Zl,Zl,Zl,Zl]) (Gb f) rfl rfl rfl d.hA d.one fun R S T f=>au 2<|hD.hZ rfl (by rw[d.hA];exact F.hN) (hB.hE f) (hH.mk k.g ⟨_,rfl,b.g,d.g.up oX⟩)
theorem yO{x:ByteArray}(e:lx L=(kB,x,M))(hx:x.size≤1099511627776):RQ 139 [] L (.mk Cu x V0 [] [.mk CE ⟨#[]⟩ V0 [] [] [] []] [] []) M:=by
 intro c P s hs d
 have Q:=d.lt
 have R:=d.lt
 refine cY Tryz.func139 fun r=>ac 2<|al F.z31 rfl fun k S T U W f=>au 6 ?_
 obtain⟨a,X,Z,I⟩:=d.g.ob e
 refine lA (cs:=#[.string kB,.string x]) (k8 I) rfl rfl<|al F.uv rfl fun l aa ab ad ae j=>sA (cs:=#[.string kB,.string x]) j rfl rfl rfl rfl Au fun af ag ah j=>au 5<|lD j rfl rfl<|au 35<|cX (jf hs d.g) ?_
 rintro _ ai aj ak ⟨rfl,d⟩
 rw[e]at d
 refine au 2<|dR [] 3 fun am J an p=>have ao:=J.size;aG [0]<|gQ 1 2 ?_ ?_
 ·refine lD (Gb j) rfl rfl<|gn p<|gp 2<|cX (tW _) ?_
  rintro _ v ap aq rfl
  obtain⟨t,K,O⟩:=nl v
  have q:=RN.jw (w:=v) (D:=(DV [k,l] c.heap.size t)) (op:=CE) (text:=⟨#[]⟩) Ah Ap
  refine gn p.g<|gp 3<|bN (css:=[#[.string CE,Zs,Zi,Zi,Zs,Zl,Zl,Zl,Zl,Zl,Zl,Zl]]) F.ic rfl rfl Ag fun g w ar y z m=>gl ?_
  obtain⟨o,A,B⟩:=nl w
  have b:=RN.r0 (w:=w) (D:=(DV [k,l] c.heap.size o)) (op:=Cu) (text:=x) (cap:=1) Ap Ap m Ar (q.g.up Af) Ah
  exact gf 4 rfl (fun C=>Y.build (cs:=#[.string Cu,.string x,Zi,Zi,Zs,Zl,Zl,Zl,.slice (some ⟨g,0,none⟩) 1 1,Zl,Zl,Zl]) Au)<|gp 5<|sA (cs:=#[.string Cu,.string x,Zi,Zi,Zs,Zl,Zl,Zl,.slice (some ⟨g,0,none⟩) 1 1,Zl,Zl,Zl]) (Gb f) rfl rfl rfl b.hA b.one fun av aw ax u=>have f:=u;gl<|gD<|ac 1<|hD.hZ rfl (by rw[b.hA];exact F.hN) (hB.hE f) (hH.mk r.g ⟨_,rfl,d.g,b.g.up oX⟩)
 refine cX (tW _) ?_
 rintro _ E ay az rfl
 obtain⟨t,K,O⟩:=nl E
 have q:=RN.jw (w:=E) (D:=(DV [k,l] c.heap.size t)) (op:=CE) (text:=⟨#[]⟩) Ah Ap
 refine gn p.g<|gQ 1 3 ?_ ?_
 ·refine lD (Gb j) rfl rfl<|gn p.g<|gp 3<|bN (css:=[#[.string CE,Zs,Zi,Zi,Zs,Zl,Zl,Zl,Zl,Zl,Zl,Zl]]) F.ic rfl rfl Ag fun g G a0 y z m=>gl ?_
  obtain⟨o,A,B⟩:=nl G
  have b:=RN.r0 (w:=G) (D:=(DV [k,l] c.heap.size o)) (op:=Cu) (text:=x) (cap:=1) Ap Ap m Ar (q.g.up Af) Ah
  exact gf 4 rfl (fun C=>Y.build (cs:=#[.string Cu,.string x,Zi,Zi,Zs,Zl,Zl,Zl,.slice (some ⟨g,0,none⟩) 1 1,Zl,Zl,Zl]) Au)<|gp 5<|sA (cs:=#[.string Cu,.string x,Zi,Zi,Zs,Zl,Zl,Zl,.slice (some ⟨g,0,none⟩) 1 1,Zl,Zl,Zl]) (Gb f) rfl rfl rfl b.hA b.one fun a1 a2 a3 u=>have f:=u;gl<|gD<|ac 1<|hD.hZ rfl (by rw[b.hA];exact F.hN) (hB.hE f) (hH.mk r.g ⟨_,rfl,d.g,b.g.up oX⟩)
 refine bN (css:=[#[.string CE,Zs,Zi,Zi,Zs,Zl,Zl,Zl,Zl,Zl,Zl,Zl]]) F.ic rfl rfl Ag fun g H a4 y z m=>gl<|gp 1<|lD (Gb j) rfl rfl<|gl ?_
 obtain⟨o,A,B⟩:=nl H
 have b:=RN.r0 (w:=H) (D:=(DV [k,l] c.heap.size o)) (op:=Cu) (text:=x) (cap:=1) Ap Ap m Ar (q.g.up Af) Ah
 exact gf 4 rfl (fun C=>Y.build (cs:=#[.string Cu,.string x,Zi,Zi,Zs,Zl,Zl,Zl,.slice (some ⟨g,0,none⟩) 1 1,Zl,Zl,Zl]) Au)<|gp 5<|sA (cs:=#[.string Cu,.string x,Zi,Zi,Zs,Zl,Zl,Zl,.slice (some ⟨g,0,none⟩) 1 1,Zl,Zl,Zl]) (Gb f) rfl rfl rfl b.hA b.one fun a5 a6 a7 f=>gl<|gD<|ac 1<|hD.hZ rfl (by rw[b.hA];exact F.hN) (hB.hE f) (hH.mk r.g ⟨_,rfl,d.g,b.g.up oX⟩)
theorem oe{x:ByteArray}(e:lx L=(iY,x,M))(h:kO 0 149 [.string x] M q lB):RQ 139 [] L q lB:=by
 intro k v s hs b
 have w:=b.lt
 have y:=b.lt
 refine cY Tryz.func139 fun g=>ac 2<|al F.z31 rfl fun l z A B C f=>au 6 ?_
 obtain⟨a,D,E,m⟩:=b.g.ob e
 refine lA (cs:=#[.string iY,.string x]) (k8 m) rfl rfl<|al F.uv rfl fun o G H I J d=>sA (cs:=#[.string iY,.string x]) d rfl rfl rfl rfl Au fun K O P d=>au 5<|lD d rfl rfl<|au 40<|au 1<|cX (jf hs b.g) ?_
 rintro _ p Q R ⟨rfl,b⟩
 rw[e]at b
 refine au 5<|lD (Gb d) rfl rfl ?_
 obtain⟨S,j⟩:=nm p
 have T:=g.g.le j
 refine cX (h _ _ _ hs b) ?_
 rintro _ r U W ⟨X,rfl,b,c⟩
 obtain⟨t,u,Y⟩:=nl r
 rw[←j,←u]at c
 have c:=c.up (D':=(DV [l,o] k.heap.size t)) Ad
 exact sA (Gb f) rfl rfl rfl c.hA c.one fun Z aa ab f=>au 2<|hD.hZ rfl (by rw[c.hA];exact F.hN) (hB.hE f) (hH.mk g.g ⟨_,rfl,b.g,c.g.up oX⟩)
theorem xY{L:List UInt8}(e:lx L=(jU,CL,M)):RQ 139 [] L (.mk CL ⟨#[]⟩ V0 [] [] [] []) M:=by
 intro g q s hs b
 have r:=b.lt
 have t:=b.lt
 refine cY Tryz.func139 fun k=>ac 2<|al F.z31 rfl fun l u v w y d=>au 6 ?_
 obtain⟨a,z,A,m⟩:=b.g.ob e
 refine lA (cs:=#[.string jU,.string CL]) (k8 m) rfl rfl<|al F.uv rfl fun o B C E G f=>sA (cs:=#[.string jU,.string CL]) f rfl rfl rfl rfl Au fun H I J f=>au 5<|lD f rfl rfl<|au 40<|ac 4<|cX (jD AR hs b.g) ?_
 rintro _ K O P ⟨rfl,b⟩
 rw[e]at b
 refine au 5<|cX (jA _ _ _ _ _) ?_
 rintro _ j Q R rfl
 obtain⟨p,S,T⟩:=nl j
 have c:=RN.jw (w:=j) (D:=(DV [l,o] g.heap.size p)) (op:=CL) (text:=⟨#[]⟩) Ah Ap
 exact sA (cs:=#[.string CL,Zs,Zi,Zi,Zs,Zl,Zl,Zl,Zl,Zl,Zl,Zl]) (Gb d) rfl rfl rfl c.hA c.one fun U W X d=>au 2<|hD.hZ rfl (by rw[c.hA];exact F.hN) (hB.hE d) (hH.mk k.g ⟨_,rfl,b.g,c.g.up oX⟩)
theorem yS(e:lx M=(jU,CE,L))(l:(lx L).1≠kU):RQ 139 [] M (.mk CE ⟨#[]⟩ V0 [] [] [] []) L:=by
 intro j u s hs b
 have v:=b.lt
 have w:=b.lt
 refine cY Tryz.func139 fun m=>ac 2<|al F.z31 rfl fun o y z A B d=>au 6 ?_
 obtain⟨a,p,q,f⟩:=b.g.ob e
 refine lA (cs:=#[.string jU,.string CE]) (k8 f) rfl rfl<|al F.uv rfl fun r C E G H g=>sA (cs:=#[.string jU,.string CE]) g rfl rfl rfl rfl Au fun I J K g=>au 5<|lD g rfl rfl<|au 40<|ac 4<|cX (jd AR b.g) ?_
 rintro _ O P Q rfl
 refine au 6<|cX (jD AR hs b.g) ?_
 rintro _ R S T ⟨rfl,b⟩
 rw[e]at b
 refine au 10 ?_
 obtain⟨a,p,q,f⟩:=id b
 refine lD f rfl rfl<|sX l rfl rfl<|au 5<|cX (tW _) ?_
 rintro _ k U W rfl
 obtain⟨t,X,Y⟩:=nl k
 have c:=RN.jw (w:=k) (D:=(DV [o,r] j.heap.size t)) (op:=CE) (text:=⟨#[]⟩) Ah Ap
 exact sA (cs:=#[.string CE,Zs,Zi,Zi,Zs,Zl,Zl,Zl,Zl,Zl,Zl,Zl]) (Gb d) rfl rfl rfl c.hA c.one fun Z aa ab d=>au 2<|hD.hZ rfl (by rw[c.hA];exact F.hN) (hB.hE d) (hH.mk m.g ⟨_,rfl,b.g,c.g.up oX⟩)
theorem vT{L:List UInt8}(e:lx L=(jU,CE,M)){s:N}(y:lx M=(kU,bE,lC))(h:kO 0 141 [Zs] M s lB)(z:iz s≠Cr∨∃u:ByteArray,s=jk u∧u.size≤1099511627776):RQ 139 [] L (Ev (.mk CE ⟨#[]⟩ V0 [] [] [] []) s) lB:=by
 intro d O s hs b
 have P:=b.lt
 have Q:=b.lt
 refine cY Tryz.func139 fun k=>ac 2<|al F.z31 rfl fun f R S T U l=>au 6 ?_
 obtain⟨a,A,B,m⟩:=b.g.ob e
 refine lA (cs:=#[.string jU,.string CE]) (k8 m) rfl rfl<|al F.uv rfl fun g W X Y Z o=>sA (cs:=#[.string jU,.string CE]) o rfl rfl rfl rfl Au fun aa ab ad o=>au 5<|lD o rfl rfl<|au 40<|ac 4<|cX (jd AR b.g) ?_
 rintro _ ae af ag rfl
 refine au 6<|cX (jD AR hs b.g) ?_
 rintro _ ah ai aj ⟨rfl,b⟩
 rw[e]at b
 refine au 10 ?_
 obtain⟨a,A,B,m⟩:=b.ob y
 refine lD m rfl rfl<|au 5<|cX (tW _) ?_
 rintro _ p ak am rfl
 obtain⟨v,an,ao⟩:=nl p
 have C:=RN.jw (w:=p) (D:=(DV [f,g] d.heap.size v)) (op:=CE) (text:=⟨#[]⟩) Ah Ap
 refine au 1 ?_
 obtain⟨E,q⟩:=nm p
 have ap:=k.g.le q
 have aq:v≤E:=by rw[q];exact Ac
 refine cX (h _ _ _ hs b.g) ?_
 rintro _ w ar av ⟨aw,rfl,b,j⟩
 obtain⟨r,G,ax⟩:=nl w
 rw[←q,←G]at j
 have j:=j.up (D':=(DV [f,g] d.heap.size r)) Ad
 obtain⟨H,t⟩:=nm w
 have ay:=k.g.le t
 have az:r≤H:=by rw[t];exact Ac
 refine cX (o5 (D0:=DV [f,g] d.heap.size r) (fun a0 hc=>by have:=hc.2.1;omega) (C.g.up Af) (j.up Af) z) ?_
 rintro _ I a1 a2 ⟨a3,rfl,c⟩
 obtain⟨J,K,a4⟩:=nl I
 rw[←t,←K]at c
 have c:=c.up (D':=DV [f,g] d.heap.size J) AC
 exact sA (Gb l) rfl rfl rfl c.hA c.one fun a5 a6 a7 l=>au 2<|hD.hZ rfl (by rw[c.hA];exact F.hN) (hB.hE l) (hH.mk k.g ⟨_,rfl,b.g,c.g.up oX⟩)
theorem yx{L r:List UInt8}(e:lx L=(jU,CV,r))(h:RQ 15 [] r q M)(ht:iE M C9):RQ 139 [] L q (lx M).2.2:=by
 intro l y s hs b
 have z:=b.lt
 have A:=b.lt
 refine cY Tryz.func139 fun j=>ac 2<|al F.z31 rfl fun m B C D E d=>au 6 ?_
 obtain⟨a,G,H,o⟩:=b.g.ob e
 refine lA (cs:=#[.string jU,.string CV]) (k8 o) rfl rfl<|al F.uv rfl fun p I J K O f=>sA (cs:=#[.string jU,.string CV]) f rfl rfl rfl rfl Au fun P Q R f=>au 5<|lD f rfl rfl<|au 40<|ac 4<|cX (jd AR b.g) ?_
 rintro _ S T U rfl
 refine au 6<|cX (jd AR b.g) ?_
 rintro _ W X Y rfl
 refine au 6<|cX (jD AR hs b.g) ?_
 rintro _ t Z aa ⟨rfl,b⟩
 rw[e]at b
 refine au 6 ?_
 obtain⟨ab,k⟩:=nm t
 have ad:=j.g.le k
 refine cX (h _ _ _ hs b) ?_
 rintro _ u ae af ⟨ag,rfl,b,c⟩
 obtain⟨v,w,ah⟩:=nl u
 rw[←k,←w]at c
 have c:=c.up (D':=(DV [m,p] l.heap.size v)) Ad
 refine al F.z31 rfl fun ai aj ak am an g=>sA g rfl rfl rfl c.hA c.one fun ao ap aq g=>au 4<|cX (im ht hs b.g) ?_
 rintro _ ar av aw ⟨rfl,b⟩
 exact au 3<|lw (Gb g) rfl c.hA<|sA (Gb d) rfl rfl rfl c.hA c.one fun ax ay az d=>au 2<|hD.hZ rfl (by rw[c.hA];exact F.hN) (hB.hE d) (hH.mk j.g ⟨_,rfl,b.g,c.g.up oX⟩)
theorem vz{L:List UInt8}(e:lx L=(jU,CN,M))(ht:iE M CR):RQ 139 [] L (.mk Cv ⟨#[]⟩ V0 [] [] [] []) (lx M).2.2:=by
 intro g q s hs b
 have r:=b.lt
 have t:=b.lt
 refine cY Tryz.func139 fun k=>ac 2<|al F.z31 rfl fun l u v w y d=>au 6 ?_
 obtain⟨a,z,A,m⟩:=b.g.ob e
 refine lA (cs:=#[.string jU,.string CN]) (k8 m) rfl rfl<|al F.uv rfl fun o B C E G f=>sA (cs:=#[.string jU,.string CN]) f rfl rfl rfl rfl Au fun H I J f=>au 5<|lD f rfl rfl<|au 40<|ac 4<|cX (jd AR b.g) ?_
 rintro _ K O P rfl
 refine au 6<|cX (jd AR b.g) ?_
 rintro _ Q R S rfl
 refine au 6<|cX (jd AR b.g) ?_
 rintro _ T U W rfl
 refine au 6<|cX (jD AR hs b.g) ?_
 rintro _ X Y Z ⟨rfl,b⟩
 rw[e]at b
 refine au 7<|cX (jD ht hs b) ?_
 rintro _ aa ab ad ⟨rfl,b⟩
 refine au 4<|cX (jA _ _ _ _ _) ?_
 rintro _ j ae af rfl
 obtain⟨p,ag,ah⟩:=nl j
 have c:=RN.jw (w:=j) (D:=(DV [l,o] g.heap.size p)) (op:=Cv) (text:=⟨#[]⟩) Ah Ap
 exact sA (cs:=#[.string Cv,Zs,Zi,Zi,Zs,Zl,Zl,Zl,Zl,Zl,Zl,Zl]) (Gb d) rfl rfl rfl c.hA c.one fun ai aj ak d=>au 2<|hD.hZ rfl (by rw[c.hA];exact F.hN) (hB.hE d) (hH.mk k.g ⟨_,rfl,b.g,c.g.up oX⟩)
theorem vU{L:List UInt8}(e:lx L=(jU,CN,M))(u:iE M CR=false)(h:RQ 15 [] M q lB)(ht:iE lB CR):RQ 139 [] L (.mk Cv ⟨#[]⟩ V0 [] [q] [] []) (lx lB).2.2:=by
 intro f G s hs b
 have H:=b.lt
 have I:=b.lt
 refine cY Tryz.func139 fun l=>ac 2<|al F.z31 rfl fun m J K O P g=>au 6 ?_
 obtain⟨a,Q,R,v⟩:=b.g.ob e
 refine lA (cs:=#[.string jU,.string CN]) (k8 v) rfl rfl<|al F.uv rfl fun o S T U W j=>sA (cs:=#[.string jU,.string CN]) j rfl rfl rfl rfl Au fun X Y Z j=>au 5<|lD j rfl rfl<|au 40<|ac 4<|cX (jd AR b.g) ?_
 rintro _ aa ab ad rfl
 refine au 6<|cX (jd AR b.g) ?_
 rintro _ ae af ag rfl
 refine au 6<|cX (jd AR b.g) ?_
 rintro _ ah ai aj rfl
 refine au 6<|cX (jD AR hs b.g) ?_
 rintro _ ak am an ⟨rfl,b⟩
 rw[e]at b
 refine au 7<|cX (jd u b) ?_
 rintro _ w ao ap rfl
 refine au 6 ?_
 obtain⟨aq,p⟩:=nm w
 have ar:=l.g.le p
 refine cX (h _ _ _ hs b.g) ?_
 rintro _ y av aw ⟨z,rfl,b,d⟩
 obtain⟨A,B,ax⟩:=nl y
 rw[←p,←B]at d
 have d:=d.up (D':=(DV [m,o] f.heap.size A)) Ad
 refine bN (css:=[z]) F.ic rfl rfl Ag fun r ay az a0 a1 C=>cX (jA _ _ _ _ _) ?_
 rintro _ t a2 a3 rfl
 obtain⟨E,a4,a5⟩:=nl t
 have c:=RN.r0 (w:=t) (D:=(DV [m,o] f.heap.size E)) (op:=Cv) (text:=⟨#[]⟩) (cap:=1) Ap Ap (Gb C) Ar (d.g.up Af) Ah
 refine al F.z31 rfl fun a6 a7 a8 a9 aA k=>sA (cs:=#[.string Cv,Zs,Zi,Zi,Zs,Zl,Zl,Zl,.slice (some ⟨r,0,none⟩) 1 1,Zl,Zl,Zl]) k rfl rfl rfl c.hA c.one fun aB aC aD k=>au 4<|cX (im ht hs b.g) ?_
 rintro _ aE aF aG ⟨rfl,b⟩
 exact au 3<|lw (Gb k) rfl c.hA<|sA (cs:=#[.string Cv,Zs,Zi,Zi,Zs,Zl,Zl,Zl,.slice (some ⟨r,0,none⟩) 1 1,Zl,Zl,Zl]) (Gb g) rfl rfl rfl c.hA c.one fun aH aI aJ g=>au 2<|hD.hZ rfl (by rw[c.hA];exact F.hN) (hB.hE g) (hH.mk l.g ⟨_,rfl,b.g,c.g.up oX⟩)
theorem r1{L:List UInt8}(e:lx L=(jU,CJ,M))(h:RQ 150 [] M q lB):RQ 139 [] L q lB:=by
 intro k v s hs b
 have w:=b.lt
 have y:=b.lt
 refine cY Tryz.func139 fun g=>ac 2<|al F.z31 rfl fun l z A B C d=>au 6 ?_
 obtain⟨a,D,E,m⟩:=b.g.ob e
 refine lA (cs:=#[.string jU,.string CJ]) (k8 m) rfl rfl<|al F.uv rfl fun o G H I J f=>sA (cs:=#[.string jU,.string CJ]) f rfl rfl rfl rfl Au fun K O P f=>au 5<|lD f rfl rfl<|au 40<|ac 4<|cX (jd AR b.g) ?_
 rintro _ Q R S rfl
 refine au 6<|cX (jd AR b.g) ?_
 rintro _ T U W rfl
 refine au 6<|cX (jd AR b.g) ?_
 rintro _ X Y Z rfl
 refine au 6<|cX (jd AR b.g) ?_
 rintro _ aa ab ad rfl
 refine au 6<|cX (jD AR hs b.g) ?_
 rintro _ p ae af ⟨rfl,b⟩
 rw[e]at b
 refine au 6 ?_
 obtain⟨ag,j⟩:=nm p
 have ah:=g.g.le j
 refine cX (h _ _ _ hs b) ?_
 rintro _ r ai aj ⟨ak,rfl,b,c⟩
 obtain⟨t,u,am⟩:=nl r
 rw[←j,←u]at c
 have c:=c.up (D':=(DV [l,o] k.heap.size t)) Ad
 exact sA (Gb d) rfl rfl rfl c.hA c.one fun an ao ap d=>au 2<|hD.hZ rfl (by rw[c.hA];exact F.hN) (hB.hE d) (hH.mk g.g ⟨_,rfl,b.g,c.g.up oX⟩)
theorem Di{x:ByteArray}(e:lx L=(iY,x,M))(hx:x.size≤1099511627776):RQ 147 [] L (jk x) M:=by
 intro g r s hs b
 have u:=b.lt
 have v:=b.lt
 refine cY Tryz.func147 fun l=>ac 2<|al F.z31 rfl fun m w y z A f=>au 6 ?_
 obtain⟨a,B,C,o⟩:=b.g.ob e
 refine lA (cs:=#[.string iY,.string x]) (k8 o) rfl rfl<|al F.uv rfl fun p E G H I c=>sA (cs:=#[.string iY,.string x]) c rfl rfl rfl rfl Au fun J K O c=>au 6<|lD c rfl rfl<|au 7<|cX (jf hs b.g) ?_
 rintro _ P Q R ⟨rfl,b⟩
 rw[e]at b
 refine au 4<|lD (Gb c) rfl rfl<|cX (rM _ _) ?_
 rintro _ S T U rfl
 refine cX (l6 _ _ _ _ _ _ Au _) ?_
 rintro _ j W X rfl
 obtain⟨q,Y,Z⟩:=nl j
 have d:=RN.leaf (w:=j) (D:=(DV [m,p] g.heap.size q)) (k:=4) (h:=0) (t:=x) Ah Ah Ac
 exact sA (cs:=#[.string Cr,Zs,.int .i64 4,Zi,.string x,Zl,Zl,Zl,Zl,Zl,Zl,Zl]) (Gb f) rfl rfl rfl d.hA d.one fun aa ab ad f=>au 2<|hD.hZ rfl (by rw[d.hA];exact F.hN) (hB.hE f) (hH.mk l.g ⟨_,rfl,b.g,d.g.up oX⟩)
theorem pY{r:List UInt8}(e:lx L=(kU,⟨#[]⟩,r))(h:kO 0 141 [Zs] L q M):RQ 147 [] L q M:=by
 intro k w s hs c
 have y:=c.lt
 have z:=c.lt
 refine cY Tryz.func147 fun g=>ac 2<|al F.z31 rfl fun l A B C D f=>au 6 ?_
 obtain⟨a,E,G,m⟩:=c.g.ob e
 refine lA (cs:=#[.string kU,Zs]) (k8 m) rfl rfl<|al F.uv rfl fun o H I J K d=>sA (cs:=#[.string kU,Zs]) d rfl rfl rfl rfl Au fun p O P d=>au 6<|lD d rfl rfl<|au 7<|lD d rfl rfl<|au 7 ?_
 obtain⟨Q,j⟩:=nm p
 have R:=g.g.le j
 refine cX (h _ _ _ hs c.g) ?_
 rintro _ t S T ⟨U,rfl,c,b⟩
 obtain⟨u,v,W⟩:=nl t
 rw[←j,←v]at b
 have b:=b.up (D':=(DV [l,o] k.heap.size u)) Ad
 exact sA (Gb f) rfl rfl rfl b.hA b.one fun X Y Z f=>au 2<|hD.hZ rfl (by rw[b.hA];exact F.hN) (hB.hE f) (hH.mk g.g ⟨_,rfl,c.g,b.g.up oX⟩)
theorem Fg{L:List UInt8}(e:lx L=(jU,CV,M))(h:RQ 15 [] M q lB)(ht:iE lB C9):RQ 147 [] L q (lx lB).2.2:=by
 intro l w s hs b
 have y:=b.lt
 have z:=b.lt
 refine cY Tryz.func147 fun j=>ac 2<|al F.z31 rfl fun m A B C D f=>au 6 ?_
 obtain⟨a,E,G,o⟩:=b.g.ob e
 refine lA (cs:=#[.string jU,.string CV]) (k8 o) rfl rfl<|al F.uv rfl fun p H I J K d=>sA (cs:=#[.string jU,.string CV]) d rfl rfl rfl rfl Au fun O P Q d=>au 6<|lD d rfl rfl<|au 7<|lD d rfl rfl<|au 7<|cX (jD AR hs b.g) ?_
 rintro _ r R S ⟨rfl,b⟩
 rw[e]at b
 refine au 6 ?_
 obtain⟨T,k⟩:=nm r
 have U:=j.g.le k
 refine cX (h _ _ _ hs b) ?_
 rintro _ t W X ⟨Y,rfl,b,c⟩
 obtain⟨u,v,Z⟩:=nl t
 rw[←k,←v]at c
 have c:=c.up (D':=(DV [m,p] l.heap.size u)) Ad
 refine al F.z31 rfl fun aa ab ad ae af g=>sA g rfl rfl rfl c.hA c.one fun ag ah ai g=>au 4<|cX (im ht hs b.g) ?_
 rintro _ aj ak am ⟨rfl,b⟩
 exact au 3<|lw (Gb g) rfl c.hA<|sA (Gb f) rfl rfl rfl c.hA c.one fun an ao ap f=>au 2<|hD.hZ rfl (by rw[c.hA];exact F.hN) (hB.hE f) (hH.mk j.g ⟨_,rfl,b.g,c.g.up oX⟩)
theorem DM(c:Bool)(f:World):Calls Tryz.prog 158 #[.bool c] f (hH f [] fun g _=>g=.agg #[.int .i64 (if c then 2 else 1),Zi,Zs,Zl,Zl,Zl]):=by
 cases c with
 |false=>
  exact cY Tryz.func158 fun d=>ac 2<|al F.NX rfl fun j k l m o b=>au 10<|bD #[.int .i64 1,Zi,Zs,Zl,Zl,Zl]<|sA b rfl rfl rfl rfl Au fun p q r t=>have b:=t;au 2<|hD.hZ (cs:=#[.int .i64 1,Zi,Zs,Zl,Zl,Zl]) rfl F.rC (hB.hE b) (hH.mk d.g rfl)
 |true=>
  exact cY Tryz.func158 fun d=>ac 2<|al F.NX rfl fun j k l m o b=>au 9<|bD #[.int .i64 2,Zi,Zs,Zl,Zl,Zl]<|sA b rfl rfl rfl rfl Au fun p q r b=>au 2<|hD.hZ (cs:=#[.int .i64 2,Zi,Zs,Zl,Zl,Zl]) rfl F.rC (hB.hE b) (hH.mk d.g rfl)
def y2:List ByteArray:=[C7,Cy,C0,Cs,C6,CS,CW,C4,C2,Ea,CU]
inductive PS:List UInt8→List N→List UInt8→Prop
 |nil {L:List UInt8} (hn:iE L ⟨#[59]⟩=false):PS L [] L
 |cons {p:N} {ps:List N} {L L2 L':List UInt8} (ht:iE L ⟨#[59]⟩=true) (h:RQ 15 [] (lx L).2.2 p L2) (r:PS L2 ps L'):PS L (p::ps) L'
theorem jJ{x:ByteArray}(h:x∉y6)(hk:t∈y6):¬x=t:=fun e=>h (e▸hk)
theorem uH:∀x∈y2,x∈y6:=fun x hx=>by rw[show y6=y6.take 9++y2 from rfl];exact List.mem_append_right _ hx
theorem yy:kO 0 149 [.string Eb] L (.mk Cr ⟨#[]⟩ (.mk 0 0 ⟨#[]⟩ [] [] []) [] [] [] []) L:=by
 intro f o s hs c
 have p:=c.lt
 have q:=c.lt
 refine cY Tryz.func149 fun j=>ac 2<|al F.z31 rfl fun l r u v w d=>au 15<|bD #[Zi,Zi,Zs,Zl,Zl,Zl]<|cX (l6 _ _ _ _ _ _ Au _) ?_
 rintro _ g y z rfl
 obtain⟨m,A,B⟩:=nl g
 have b:=RN.leaf (w:=g) (D:=(DV [l] f.heap.size m)) (k:=0) (h:=0) (t:=⟨#[]⟩) Ah Ah Ah
 exact sA (cs:=#[.string Cr,Zs,Zi,Zi,Zs,Zl,Zl,Zl,Zl,Zl,Zl,Zl]) (Gb d) rfl rfl rfl b.hA b.one fun C E G d=>au 2<|hD.hZ rfl (by rw[b.hA];exact F.hN) (hB.hE d) (hH.mk j.g ⟨_,rfl,c.g,b.g.up oX⟩)
theorem yP:kO 0 149 [.string Ec] L (.mk Cr ⟨#[]⟩ (.mk 2 0 ⟨#[]⟩ [] [] []) [] [] [] []) L:=by
 intro f o s hs c
 have p:=c.lt
 have q:=c.lt
 refine cY Tryz.func149 fun j=>ac 2<|al F.z31 rfl fun l r u v w d=>au 26<|cX (DM true _) ?_
 rintro _ y z A rfl
 refine cX (l6 _ _ _ _ _ _ Au _) ?_
 rintro _ g B C rfl
 obtain⟨m,E,G⟩:=nl g
 have b:=RN.leaf (w:=g) (D:=(DV [l] f.heap.size m)) (k:=2) (h:=0) (t:=⟨#[]⟩) Ah Ah Ah
 exact sA (cs:=#[.string Cr,Zs,.int .i64 2,Zi,Zs,Zl,Zl,Zl,Zl,Zl,Zl,Zl]) (Gb d) rfl rfl rfl b.hA b.one fun H I J d=>au 2<|hD.hZ rfl (by rw[b.hA];exact F.hN) (hB.hE d) (hH.mk j.g ⟨_,rfl,c.g,b.g.up oX⟩)
theorem wk:kO 0 149 [.string C8] L (.mk Cr ⟨#[]⟩ (.mk 1 0 ⟨#[]⟩ [] [] []) [] [] [] []) L:=by
 intro f o s hs c
 have p:=c.lt
 have q:=c.lt
 refine cY Tryz.func149 fun j=>ac 2<|al F.z31 rfl fun l r u v w d=>au 29<|cX (DM false _) ?_
 rintro _ y z A rfl
 refine cX (l6 _ _ _ _ _ _ Au _) ?_
 rintro _ g B C rfl
 obtain⟨m,E,G⟩:=nl g
 have b:=RN.leaf (w:=g) (D:=(DV [l] f.heap.size m)) (k:=1) (h:=0) (t:=⟨#[]⟩) Ah Ah Ah
 exact sA (cs:=#[.string Cr,Zs,.int .i64 1,Zi,Zs,Zl,Zl,Zl,Zl,Zl,Zl,Zl]) (Gb d) rfl rfl rfl b.hA b.one fun H I J d=>au 2<|hD.hZ rfl (by rw[b.hA];exact F.hN) (hB.hE d) (hH.mk j.g ⟨_,rfl,c.g,b.g.up oX⟩)
theorem GU(h:RQ 159 [] L q M):kO 0 149 [.string CA] L q M:=by
 intro j r s hs c
 have t:=c.lt
 have u:=c.lt
 refine cY Tryz.func149 fun f=>ac 2<|al F.z31 rfl fun k l v w y d=>au 34 ?_
 obtain⟨z,g⟩:=nm l
 have A:=f.g.le g
 refine cX (h _ _ _ hs c.g) ?_
 rintro _ m B C ⟨D,rfl,c,b⟩
 obtain⟨o,p,E⟩:=nl m
 rw[←g,←p]at b
 have b:=b.up (D':=(DV [k] j.heap.size o)) Ad
 exact sA (Gb d) rfl rfl rfl b.hA b.one fun G H I d=>au 2<|hD.hZ rfl (by rw[b.hA];exact F.hN) (hB.hE d) (hH.mk f.g ⟨_,rfl,c.g,b.g.up oX⟩)
theorem x6{L:List UInt8}(h:RQ 135 [] L q M)(r:iE M C0=false):kO 0 149 [.string CB] L (.mk CB ⟨#[]⟩ V0 [] [q] [] []) M:=by
 intro f B s hs c
 have C:=c.lt
 have E:=c.lt
 refine cY Tryz.func149 fun k=>ac 2<|al F.z31 rfl fun l t G H I g=>au 40 ?_
 obtain⟨J,m⟩:=nm t
 have K:=k.g.le m
 refine cX (h _ _ _ hs c.g) ?_
 rintro _ u O P ⟨v,rfl,c,d⟩
 obtain⟨w,y,Q⟩:=nl u
 rw[←m,←y]at d
 have d:=d.up (D':=(DV [l] f.heap.size w)) Ad
 refine bN (css:=[v]) F.ic rfl rfl Ag fun o R S T U z=>cX (jA _ _ _ _ _) ?_
 rintro _ p W X rfl
 obtain⟨A,Y,Z⟩:=nl p
 have b:=RN.r0 (w:=p) (D:=(DV [l] f.heap.size A)) (op:=CB) (text:=⟨#[]⟩) (cap:=1) Ap Ap (Gb z) Ar (d.g.up Af) Ah
 refine al F.z31 rfl fun aa ab ad ae af j=>sA (cs:=#[.string CB,Zs,Zi,Zi,Zs,Zl,Zl,Zl,.slice (some ⟨o,0,none⟩) 1 1,Zl,Zl,Zl]) j rfl rfl rfl b.hA b.one fun ag ah ai j=>au 5<|cX (jd r c.g) ?_
 rintro _ aj ak am rfl
 exact au 5<|lw (Gb j) rfl b.hA<|sA (cs:=#[.string CB,Zs,Zi,Zi,Zs,Zl,Zl,Zl,.slice (some ⟨o,0,none⟩) 1 1,Zl,Zl,Zl]) (Gb g) rfl rfl rfl b.hA b.one fun an ao ap g=>au 2<|hD.hZ rfl (by rw[b.hA];exact F.hN) (hB.hE g) (hH.mk k.g ⟨_,rfl,c.g,b.g.up oX⟩)
theorem yN{L:List UInt8}(h:RQ 135 [] L q M)(ht:iE M C0)(h2:RQ 135 [] (lx M).2.2 p lA):kO 0 149 [.string CB] L (.mk CB ⟨#[]⟩ V0 [] [q,p] [] []) lA:=by
 intro f P s hs b
 have aq:=b.lt
 have ar:=b.lt
 refine cY Tryz.func149 fun k=>ac 2<|al F.z31 rfl fun l Q av aw ax o=>au 40 ?_
 obtain⟨ay,A⟩:=nm Q
 have az:=k.g.le A
 refine cX (h _ _ _ hs b.g) ?_
 rintro _ R a0 a1 ⟨S,rfl,b,g⟩
 obtain⟨T,U,a2⟩:=nl R
 rw[←A,←U]at g
 have g:=g.up (D':=(DV [l] f.heap.size T)) Ad
 refine bN (css:=[S]) F.ic rfl rfl Ag fun W a3 a4 a5 a6 B=>cX (jA _ _ _ _ _) ?_
 rintro _ C a7 a8 rfl
 obtain⟨X,a9,aA⟩:=nl C
 have E:=RN.r0 (w:=C) (D:=(DV [l] f.heap.size X)) (op:=CB) (text:=⟨#[]⟩) (cap:=1) Ap Ap (Gb B) Ar (g.g.up Af) Ah
 refine al F.z31 rfl fun v aB aC aD aE c=>sA (cs:=#[.string CB,Zs,Zi,Zi,Zs,Zl,Zl,Zl,.slice (some ⟨W,0,none⟩) 1 1,Zl,Zl,Zl]) c rfl rfl rfl E.hA E.one ?_
 intro G aF aH Y
 have c:=Y
 obtain⟨Z,aI,aJ⟩:=nl G
 have d:NC G 0 31 12 (fun H=>H=l∨H=v) f.heap.size Z [_] _ _:=NC.hE (Gb B) Ac Ac As g.hA (g.g.up AA)
 refine au 5<|cX (jD ht hs b.g) ?_
 rintro _ aK aL aM ⟨rfl,b⟩
 refine au 2<|dR [P] 5 fun aa ab aN I=>have aO:=ab.size;aG [0]<|gM 1 (Gb c) rfl rfl rfl<|aG [2]<|gp 3 ?_
 obtain⟨ad,w⟩:=nm aa
 have aP:=k.g.le w
 refine cX (h2 _ _ _ hs b.g) ?_
 rintro _ ae af aQ ⟨ag,rfl,b,r⟩
 obtain⟨ah,J,aR⟩:=nl ae
 rw[←w,←J]at r
 have aS:=af.l2 w J
 have r:=r.up (D':=(DV [l,v] ad ah)) Ad
 refine gn I.g<|gp 4<|bN (css:=[ag]) F.ic rfl rfl Ag fun aT aU aV aW ai aj=>gn I.g<|gp 5<|DL.hJ rfl rfl F.ic rfl rfl d.g.own (hB.hE aj) (hW (sz:=12) (m:=1) Ag rfl) (hM Aq) Ae Ae Ac ?_
 intro K ak j am an
 have O:=d.g.lo';have y:=fun t=>d.g.nx (b:=t);have hL:=fun t=>d.lt (b:=t)
 have d:=d.g.kI Ac As r.hA (r.g.up Ai) j am an
 have k:=k.g.put j (fun x hx=>Tk (O x hx))
 have o:=j.hO (Gb o) (y _ As)
 have c:=j.hO (Gb c) (y _ As)
 have b:=b.g.fr j (hL _ Ac)
 have ai:=Tj Ac j.size
 clear O y hL
 obtain⟨aX,ao,aY⟩:=nl ak
 rw[←ao]at d
 refine gl<|aG [6]<|gp 7<|sc c rfl rfl d.one rfl fun z aZ ba c=>have c:z.heap[v]? =some (.cells #[.string CB,Zs,Zi,Zi,Zs,Zl,Zl,Zl,K,Zl,Zl,Zl] 31 (0,0)):=c;gl<|gD<|ac 2 ?_
 obtain⟨ap,bb,bc⟩:=nl z
 have u:=RN.nJ (w:=z) (D:=(DV [l,v] f.heap.size ap)) (op:=CB) (text:=⟨#[]⟩) Ap Ap ((d.g.rw Ah Ae).mono Av) Rs.nil Rw.nil Rw.nil
 exact lw c rfl u.hA<|sA (cs:=#[.string CB,Zs,Zi,Zi,Zs,Zl,Zl,Zl,K,Zl,Zl,Zl]) (Gb o) rfl rfl rfl u.hA u.one fun bd be bf o=>au 2<|hD.hZ rfl (by rw[u.hA];exact F.hN) (hB.hE o) (hH.mk k.g ⟨_,rfl,b.g,u.g.up oX⟩)
theorem ue(h:kO 0 160 [.string Ct] L q M):kO 0 149 [.string Ct] L q M:=by
 intro j r s hs c
 have t:=c.lt
 have u:=c.lt
 refine cY Tryz.func149 fun f=>ac 2<|al F.z31 rfl fun k l v w y d=>au 40<|au 10 ?_
 obtain⟨z,g⟩:=nm l
 have A:=f.g.le g
 refine cX (h _ _ _ hs c.g) ?_
 rintro _ m B C ⟨D,rfl,c,b⟩
 obtain⟨o,p,E⟩:=nl m
 rw[←g,←p]at b
 have b:=b.up (D':=(DV [k] j.heap.size o)) Ad
 exact sA (Gb d) rfl rfl rfl b.hA b.one fun G H I d=>au 2<|hD.hZ rfl (by rw[b.hA];exact F.hN) (hB.hE d) (hH.mk f.g ⟨_,rfl,c.g,b.g.up oX⟩)
theorem oP(h:kO 0 160 [.string Ck] L q M):kO 0 149 [.string Ck] L q M:=by
 intro j r s hs c
 have t:=c.lt
 have u:=c.lt
 refine cY Tryz.func149 fun f=>ac 2<|al F.z31 rfl fun k l v w y d=>au 38<|ac 15 ?_
 obtain⟨z,g⟩:=nm l
 have A:=f.g.le g
 refine cX (h _ _ _ hs c.g) ?_
 rintro _ m B C ⟨D,rfl,c,b⟩
 obtain⟨o,p,E⟩:=nl m
 rw[←g,←p]at b
 have b:=b.up (D':=(DV [k] j.heap.size o)) Ad
 exact sA (Gb d) rfl rfl rfl b.hA b.one fun G H I d=>au 2<|hD.hZ rfl (by rw[b.hA];exact F.hN) (hB.hE d) (hH.mk f.g ⟨_,rfl,c.g,b.g.up oX⟩)
theorem wC{L:List UInt8}{x:ByteArray}(hx:x.size≤1099511627776)(e:lx L=(lP,x,M))(ht:iE M CI)(h:RQ 15 [] (lx M).2.2 q lA):kO 0 149 [.string CD] L (.mk CD x V0 [] [q] [] []) lA:=by
 intro d H s hs b
 have I:=b.lt
 have J:=b.lt
 refine cY Tryz.func149 fun o=>ac 2<|al F.z31 rfl fun j K O P Q k=>au 38<|ac 20<|cX (kV e hs b.g) ?_
 rintro _ p R S ⟨rfl,b⟩
 obtain⟨v,T,U⟩:=nl p
 have r:=RN.jw (w:=p) (D:=(DV [j] d.heap.size v)) (op:=CD) (text:=x) Ah Ap
 refine bD #[.string CD,.string x,Zi,Zi,Zs,Zl,Zl,Zl,Zl,Zl,Zl,Zl]<|al F.z31 rfl fun l W X Y Z c=>sA (cs:=#[.string CD,.string x,Zi,Zi,Zs,Zl,Zl,Zl,Zl,Zl,Zl,Zl]) c rfl rfl rfl r.hA r.one fun aa ab ad w=>have c:=w;au 4<|cX (im ht hs b.g) ?_
 rintro _ y ae af ⟨rfl,b⟩
 refine au 4 ?_
 obtain⟨ag,t⟩:=nm y
 have ah:=o.g.le t
 refine cX (h _ _ _ hs b) ?_
 rintro _ z ai aj ⟨A,rfl,b,f⟩
 obtain⟨B,C,ak⟩:=nl z
 rw[←t,←C]at f
 have f:=f.up (D':=(DV [j,l] d.heap.size B)) Ad
 refine bN (css:=[A]) F.ic rfl rfl Ag fun u am an ao ap E=>au 1<|sc (Gb c) rfl rfl rfl rfl fun m aq ar c=>have c:m.heap[l]? =some (.cells #[.string CD,.string x,Zi,Zi,Zs,Zl,Zl,Zl,.slice (some ⟨u,0,none⟩) 1 1,Zl,Zl,Zl] 31 (0,0)):=c;au 3 ?_
 obtain⟨G,av,aw⟩:=nl m
 have g:=RN.nJ (w:=m) (D:=(DV [j,l] d.heap.size G)) (op:=CD) (text:=x) Ap Ap (Rw.one (cap:=1) (Gb E) Ar f.hA (f.g.up Af) Ah) Rs.nil Rw.nil Rw.nil
 exact lw c rfl g.hA<|sA (cs:=#[.string CD,.string x,Zi,Zi,Zs,Zl,Zl,Zl,.slice (some ⟨u,0,none⟩) 1 1,Zl,Zl,Zl]) (Gb k) rfl rfl rfl g.hA g.one fun ax ay az k=>au 2<|hD.hZ rfl (by rw[g.hA];exact F.hN) (hB.hE k) (hH.mk o.g ⟨_,rfl,b.g,g.g.up oX⟩)
theorem wz{x:ByteArray}(hx:x.size≤1099511627776)(e:lx L=(lP,x,M)):kO 0 149 [.string CC] L (.mk CC x V0 [] [] [] []) M:=by
 intro f m s hs b
 have o:=b.lt
 have p:=b.lt
 refine cY Tryz.func149 fun j=>ac 2<|al F.z31 rfl fun k q r t u d=>au 38<|ac 26<|cX (kV e hs b.g) ?_
 rintro _ g v w ⟨rfl,b⟩
 obtain⟨l,y,z⟩:=nl g
 have c:=RN.jw (w:=g) (D:=(DV [k] f.heap.size l)) (op:=CC) (text:=x) Ah Ap
 exact bD #[.string CC,.string x,Zi,Zi,Zs,Zl,Zl,Zl,Zl,Zl,Zl,Zl]<|sA (cs:=#[.string CC,.string x,Zi,Zi,Zs,Zl,Zl,Zl,Zl,Zl,Zl,Zl]) (Gb d) rfl rfl rfl c.hA c.one fun A B C d=>au 2<|hD.hZ rfl (by rw[c.hA];exact F.hN) (hB.hE d) (hH.mk j.g ⟨_,rfl,b.g,c.g.up oX⟩)
theorem vR{x:ByteArray}(hx:x.size≤1099511627776)(hk:x∉y6)(m:iE L CV=false):kO 0 149 [.string x] L (.mk Cw x V0 [] [] [] []) L:=by
 intro j v s hs c
 have w:=c.lt
 have y:=c.lt
 refine cY Tryz.func149 fun o=>ac 2<|al F.z31 rfl fun p z A B C d=>au 7<|DC.pH rfl rfl (Ti (jJ hk Bk))<|ac 1<|DC.pH rfl rfl (Ti (jJ hk Bk))<|ac 1<|sX (jJ hk Bk) rfl rfl<|au 3<|DC.pH rfl rfl (Ti (jJ hk Bk))<|DC.pH rfl rfl (Ti (jJ hk Bk))<|ac 1<|DC.pH rfl rfl (Ti (jJ hk Bk))<|ac 1<|sX (jJ hk Bk) rfl rfl<|au 3<|DC.pH rfl rfl (Ti (jJ hk Bk))<|DC.pH rfl rfl (Ti (jJ hk Bk))<|ac 4<|DL.jq (cs:=(y2.map Value.string).toArray) rfl rfl Tryz.underlying24 Au fun E G f H I q=>have f:=Sp.mk f;have J:=f.size;have r:=ja q;au 1<|cX (iB y2 _ _ Ah r) ?_
 rintro _ k K M ⟨l,rfl,t,_⟩
 obtain rfl:l=false:=by{cases l;rfl;exact Tu (uH _ (t rfl)) hk}
 refine au 6 ?_
 obtain⟨u,O,P⟩:=nl k
 have b:=RN.jw (w:=k) (D:=(DV [p] j.heap.size u)) (op:=Cw) (text:=x) Ah Ap
 refine bD #[.string Cw,.string x,Zi,Zi,Zs,Zl,Zl,Zl,Zl,Zl,Zl,Zl]<|al F.z31 rfl fun Q R S T U g=>sA (cs:=#[.string Cw,.string x,Zi,Zi,Zs,Zl,Zl,Zl,Zl,Zl,Zl,Zl]) g rfl rfl rfl b.hA b.one fun W X Y g=>au 5<|cX (jd m c.g) ?_
 rintro _ Z aa ab rfl
 exact au 5<|lw (Gb g) rfl b.hA<|sA (cs:=#[.string Cw,.string x,Zi,Zi,Zs,Zl,Zl,Zl,Zl,Zl,Zl,Zl]) (Gb d) rfl rfl rfl b.hA b.one fun ad ae af d=>au 2<|hD.hZ rfl (by rw[b.hA];exact F.hN) (hB.hE d) (hH.mk o.g ⟨_,rfl,c.g,b.g.up oX⟩)
theorem yv{L:List UInt8}{x:ByteArray}(hx:x.size≤1099511627776)(hk:x∉y6)(ht:iE L CV)(h:RQ 15 [] (lx L).2.2 q lA)(W:PS lA Q M)(ah:(q::Q).length≤1048576)(ai:iE M C9):kO 0 149 [.string x] L (.mk Cw x V0 [] (q::Q) [] []) (lx M).2.2:=by
 intro o v s hs b
 have aj:=b.lt
 have aQ:=b.lt
 refine cY Tryz.func149 fun g=>ac 2<|al F.z31 rfl fun l aR aS aT ak f=>au 7<|DC.pH rfl rfl (Ti (jJ hk Bk))<|ac 1<|DC.pH rfl rfl (Ti (jJ hk Bk))<|ac 1<|sX (jJ hk Bk) rfl rfl<|au 3<|DC.pH rfl rfl (Ti (jJ hk Bk))<|DC.pH rfl rfl (Ti (jJ hk Bk))<|ac 1<|DC.pH rfl rfl (Ti (jJ hk Bk))<|ac 1<|sX (jJ hk Bk) rfl rfl<|au 3<|DC.pH rfl rfl (Ti (jJ hk Bk))<|DC.pH rfl rfl (Ti (jJ hk Bk))<|ac 4<|DL.jq (cs:=(y2.map Value.string).toArray) rfl rfl Tryz.underlying24 Au fun aU aV J aW aX am=>have J:=Sp.mk J;have aY:=J.size;have an:=ja am;au 1<|cX (iB y2 _ _ Ah an) ?_
 rintro _ X aZ ba ⟨Y,rfl,ao,_⟩
 obtain rfl:Y=false:=by{cases Y;rfl;exact Tu (uH _ (ao rfl)) hk}
 refine au 6 ?_
 obtain⟨ap,bb,bc⟩:=nl X
 have Z:=RN.jw (w:=X) (D:=(DV [l] o.heap.size ap)) (op:=Cw) (text:=x) Ah Ap
 refine bD #[.string Cw,.string x,Zi,Zi,Zs,Zl,Zl,Zl,Zl,Zl,Zl,Zl]<|al F.z31 rfl fun k bd be bf aq c=>sA (cs:=#[.string Cw,.string x,Zi,Zi,Zs,Zl,Zl,Zl,Zl,Zl,Zl,Zl]) c rfl rfl rfl Z.hA Z.one ?_
 intro aa bg bh ar
 have c:=ar
 obtain⟨av,bi,bj⟩:=nl aa
 have d:=NC.nil aa 0 31 12 (fun w=>w=l∨w=k) o.heap.size av
 refine au 5<|cX (jD ht hs b.g) ?_
 rintro _ bk bl bm ⟨rfl,b⟩
 refine au 3<|dR [v] 5 fun aw ax bn y=>have bo:=ax.size;aG [0]<|gM 1 (Gb c) rfl rfl rfl<|aG [2]<|gp 3 ?_
 obtain⟨ay,K⟩:=nm aw
 have bp:=g.g.le K
 refine cX (h _ _ _ hs b.g) ?_
 rintro _ az a0 bq ⟨ab,rfl,b,z⟩
 obtain⟨a1,ad,br⟩:=nl az
 rw[←K,←ad]at z
 have bs:=a0.l2 K ad
 have z:=z.up (D':=(DV [l,k] ay a1)) Ad
 refine gn y.g<|gp 4<|bN (css:=[ab]) F.ic rfl rfl Ag fun bt bu bv bw a2 a3=>gn y.g<|gp 5<|DL.hJ rfl rfl F.ic rfl rfl d.g.own (hB.hE a3) (hW (sz:=12) (m:=1) Ag rfl) (hM Aq) Ae Ae Ac ?_
 intro ae a4 r O P
 have A:=d.g.lo';have p:=fun j=>d.g.nx (b:=j);have hL:=fun j=>d.lt (b:=j)
 have d:=d.g.kI Ac As z.hA (z.g.up Ai) r O P
 have g:=g.g.put r (fun x hx=>Tk (A x hx))
 have f:=r.hO (Gb f) (p _ As)
 have c:=r.hO (Gb c) (p _ As)
 have b:=b.g.fr r (hL _ Ac)
 have a2:=Tj Ac r.size
 clear A p hL
 obtain⟨a5,a6,bx⟩:=nl a4
 rw[←a6]at d
 refine gl<|aG [6]<|gp 7<|sc c rfl rfl d.one rfl fun a7 bz b0 c=>have c:a7.heap[k]? =some (.cells #[.string Cw,.string x,Zi,Zi,Zs,Zl,Zl,Zl,ae,Zl,Zl,Zl] 31 (0,0)):=c;gl<|gD<|ac 2<|lE [v] o (σ:=List N×List UInt8×List N×Value×List (Array Value)×Nat) [(79,87)] [(0,Pt v),(4,Pt l),(7,Pt k)] (fun _=>[]) (fun(t,R,B,I,H,S) C=>PS R t M∧B++t=(q::Q)∧At C v s R∧C.heap[l]? =some (.cells #[Zs,Zs,Zi,Zi,Zs,Zl,Zl,Zl,Zl,Zl,Zl,Zl] 31 (0,0))∧C.heap[k]? =some (.cells #[.string Cw,.string x,Zi,Zi,Zs,Zl,Zl,Zl,I,Zl,Zl,Zl] 31 (0,0))∧NC C 0 31 12 (fun w=>w=l∨w=k) o.heap.size S B I H∧S≤C.heap.size) (fun(t,_)=>t.length) ((Q,lA,([]++[q]),ae,([]++[ab]),a5)) ?_ ?_
 ·exact⟨g.g,W,rfl,b.g,(Gb f),c,d.g,Ac⟩
 clear g f b d c W
 rintro b1 ⟨t,R,B,I,H,S⟩ b2 b3 ⟨g,a8,T,b,f,c,d,b4⟩
 have aj:=b.lt
 have ak:=hC f
 have aq:=hC c
 have b5:B.length+t.length≤1048576:=by rw[←Tl,T];exact ah
 refine ac 4 ?_
 cases a8 with
 |nil a9=>
  refine cX (jd a9 b) ?_
  rintro _ b6 b7 b8 rfl
  refine au 3<|ac 2<|cX (im ai hs b.g) ?_
  rintro _ af b9 bA ⟨rfl,b⟩
  refine au 3 ?_
  obtain⟨aA,bB,bC⟩:=nl af
  have E:=RN.nJ (w:=af) (D:=(DV [l,k] o.heap.size aA)) (op:=Cw) (text:=x) Ap Ap ((d.g.rw Ah Ae).mono Av) Rs.nil Rw.nil Rw.nil
  refine lw (Gb c) rfl E.hA<|sA (cs:=#[.string Cw,.string x,Zi,Zi,Zs,Zl,Zl,Zl,I,Zl,Zl,Zl]) (Gb f) rfl rfl rfl E.hA E.one fun bE bF bG f=>au 2 ?_
  obtain rfl:B=q::Q:=by simpa using T
  exact hD.hZ rfl (by rw[E.hA];exact F.hN) (hB.hE f) (hH.mk g.g ⟨_,rfl,b.g,E.g.up oX⟩)
 |cons ht h aB=>
  refine cX (jD ht hs b) ?_
  rintro _ bH bI bJ ⟨rfl,b⟩
  refine au 4<|dR [v] 5 fun aC aD bK y=>have bL:=aD.size;aG [0]<|gM 1 (Gb c) rfl rfl rfl<|aG [2]<|gp 3 ?_
  obtain⟨aE,U⟩:=nm aC
  have bM:=g.g.le U
  refine cX (h _ _ _ hs b.g) ?_
  rintro _ aF aH bO ⟨aI,rfl,b,G⟩
  obtain⟨aJ,ag,bP⟩:=nl aF
  rw[←U,←ag]at G
  have bQ:=aH.l2 U ag
  have G:=G.up (D':=(DV [l,k] aE aJ)) Ad
  refine gn y.g<|gp 4<|bN (css:=[aI]) F.ic rfl rfl Ag fun bR bS bT bU aK aL=>gn y.g<|gp 5<|DL.hJ rfl rfl F.ic rfl rfl d.g.own (hB.hE aL) (hW (sz:=12) (m:=1) Ag rfl) (hM Aq) Ae Ae Ac ?_
  intro aM aN u O P
  have A:=d.g.lo';have p:=fun j=>d.g.nx (b:=j);have hL:=fun j=>d.lt (b:=j)
  have d:=d.g.kI Ac As G.hA (G.g.up Ai) u O P
  have g:=g.g.put u (fun x hx=>Tk (A x hx))
  have f:=u.hO (Gb f) (p _ As)
  have c:=u.hO (Gb c) (p _ As)
  have b:=b.g.fr u (hL _ Ac)
  have aK:=Tj Ac u.size
  clear A p hL
  obtain⟨bV,aO,bW⟩:=nl aN
  rw[←aO]at d
  exact gl<|aG [6]<|gp 7<|sc c rfl rfl d.one rfl fun aP bX bY c=>have c:aP.heap[k]? =some (.cells #[.string Cw,.string x,Zi,Zi,Zs,Zl,Zl,Zl,aM,Zl,Zl,Zl] 31 (0,0)):=c;gl<|gD ⟨(_,_,_,_,_,_),⟨g.g,aB,by rw[←T];simp only[Ty,TH,TN],b.g,(Gb f),c,d.g,Ac⟩,TY _,trivial⟩
end Go.Proofs.YtlojelcoibpphaaGreatDoor
