/- FnQueryText, second form: own texts, joined and made short by a program (part 13): for every argument of bulk at most 1048576 the law answers true. -/
import Derived.Test.YtlojelcoibpphaaGreatDoorMx01
import Derived.Test.YtlojelcoibpphaaGreatDoorMx12
import Derived.Test.YtlojelcoibpphaaGreatDoorMx03
import Derived.Test.YtlojelcoibpphaaGreatDoorMx02
set_option maxRecDepth 100000
set_option maxHeartbeats 2000000
set_option linter.unusedVariables false
set_option linter.unusedSimpArgs false
set_option linter.unusedSectionVars false
set_option linter.defProp false
namespace Go.Proofs.YtlojelcoibpphaaGreatDoor
open Go Go.RowKit D Go.Deep Go.Proofs
variable{m:Nat}{w:World}{t sA sB:ByteArray}{D:Nat→Prop}{c:Array Value}{q p qA:N}{Q P qF qG:List N}{v u vA vB vC vD:Value}{S T:List ByteArray}{j iA:Int}{cE:Nat→Array Value}{vH vI:V}{vJ:List V}
def AX(X:Nat→Prop)(w:World)(c:Nat):Prop:=c<w.heap.size∧¬X c
theorem RN.ax{S:List Nat}{w w':World}{X:Nat→Prop}{k:Nat}{d:N}{f:Array Value}(h:RN w (AX X w) k d f)(g:Fr S w w')(hs:∀b∈S,X b∨w.heap.size≤b):RN w' (AX X w') k d f:=
 (h.fr g (fun b c j=>by rcases hs b j with hx|hx;exact c.2 hx;have:=c.1;omega)).mono (fun b c=>⟨Tj c.1 g.size,c.2⟩)
theorem RN.Sz{w:World}{X b:Nat→Prop}{k:Nat}{c:N}{d:Array Value}(h:RN w (AX X w) k c d)(hs:∀f,b f→X f):RN w (AX b w) k c d:=h.mono (fun j g=>⟨g.1,fun l=>g.2 (hs j l)⟩)
section
variable{S:List Nat}{w w':World}{k T sz B:Nat}{X:Nat→Prop}{ns:List N}{sl sl':Value}{css:List (Array Value)}
structure NL(w:World)(k T sz B:Nat)(X:Nat→Prop)(ns:List N)(sl:Value)(css:List (Array Value)):Prop where
 nc:NC w k T sz X 0 w.heap.size ns sl css
 ow:∀b∈hX sl,B≤b
theorem NL.nil(w:World)(k T sz B:Nat)(X:Nat→Prop):NL w k T sz B X [] Zl []:=⟨NC.nil _ _ _ _ _ _ _,fun c b=>by rw[hF]at b;simp[Value.ownBlock]at b⟩
theorem NL.fr(h:NL w k T sz B X ns sl css)(c:Fr S w w')(hs:∀b∈S,X b):NL w' k T sz B X ns sl css:=⟨(h.nc.fr c (fun b d=>Tk (Tk (hs b d)))).up c.size (fun b _ _ h=>h),h.ow⟩
theorem NL.g(h:NL w k T sz B X ns sl css)(b:NL w k T sz B X ns sl css→NL w' k T sz B X ns sl css:=by exact Gq):NL w' k T sz B X ns sl css:=b h
theorem NL.k9(h:NL w k T sz B X ns sl css)(b:Fr [] w w'):NL w' k T sz B X ns sl css:=h.fr b (fun d c=>by cases c)
theorem NL.n6{b:Nat}(h:NL w k T sz B X ns sl css)(c:Fr [b] w w')(d:X b):NL w' k T sz B X ns sl css:=h.fr c (fun g f=>by rcases Tt.1 f with rfl;exact d)
theorem NL.app{f:List N}{g:List (Array Value)}(h:NL w k T sz B X ns sl css)(r:B≤w.heap.size)(t:¬X w.heap.size)(u:g.length=f.length)(hs:∀d∈g,d.size=sz)
  (v:∀(i:Nat)(h1:i<f.length)(h2:i<g.length),RN w (AX (fun d=>X d∨sl.ownBlock=some d) w) k f[i] g[i]) (j:Fr (hX sl) w w') (o:w'.ownsRow 0 T sz sl' (ns.length+f.length) (hS css++(hS g).toArray.toList)) (l:sl'.ownBlock=sl.ownBlock∨sl'.ownBlock=some w.heap.size):
  NL w' k T sz B X (ns++f) sl' (css++g):=by
 have y:=j.size
 have p:∀c,c<w.heap.size→sl.ownBlock≠some c→sl'.ownBlock≠some c:=fun c b z=>by
  rcases l with h1|h1
  ·rw[h1];exact z
  rw[h1];intro h2;cases h2;omega
 refine⟨⟨by simpa[hS]using o,fun c b=>⟨(ik o c (hF.2 b)).2,?_⟩,by simp[h.nc.len,u],fun d hc=>?_,fun i h1 h2=>?_⟩,fun c b=>?_⟩
 ·rcases l with h1|h1
  ·exact(h.nc.ob c (h1▸b)).2
  rw[h1]at b;cases b;exact t
 ·rcases Uc.1 hc with hc|hc
  ·exact h.nc.xk d hc
  exact hs d hc
 ·by_cases hi:i<ns.length
  ·have q:i<css.length:=by rw[h.nc.len];exact hi
   rw[TC hi,TC q]
   refine((h.nc.el i hi q).fr j (fun c b m=>b.2 (hF.1 m))).mono (fun c b=>⟨⟨b.1.1,by have:=b.1.2.1;omega,b.1.2.2⟩,p c (by have:=b.1.2.1;omega) b.2⟩)
  rw[Tz Ac,Tz (by rw[h.nc.len];omega)]
  simp only[h.nc.len]
  have A:i - ns.length<f.length:=by simp only[Tl]at h1;omega
  refine((v (i - ns.length) A Ac).fr j (fun c b m=>b.2 (Tk (hF.1 m)))).mono (fun c b=>⟨⟨TE _,Tj b.1 y,fun hx=>b.2 (Ts hx)⟩,p c b.1 (fun e=>b.2 (Tk e))⟩)
 rcases l with h1|h1
 ·exact h.ow c (by rw[hF,←h1];exact hF.1 b)
 rw[hF,h1]at b;cases b;exact r
theorem NL.rw(h:NL w k T sz B X ns sl css)(b:0<sz)(hl:ns.length≤1099511627776):Rw w (AX X w) k sz ns sl:=(h.nc.rw b hl).mono (fun c hc=>⟨hc.2.1,hc.2.2⟩)
theorem NL.one(h:NL w k T sz B X ns sl css):sl.oneCell'=true:=h.nc.one
end
def l8(n m:N):Prop:=∀(w:World)(X:Nat→Prop)(cs:Array Value),(∀c,X c→c<w.heap.size)→RN w (AX X w) 0 n cs→
 Calls Tryz.prog 9 #[.agg cs] w (hH w [] fun r w'=>∃cs',r=.agg cs'∧RN w' (AX X w') 0 m cs')
theorem RN.NW{w:World}{D:Nat→Prop}(h:j3 w D vH #[v,u,vA,vB,vC,vD]):RN w D 0 (qN vH) #[.string Cr,Zs,v,u,vA,vB,vC,vD,Zl,Zl,Zl,Zl]:=by
 refine RN.q (names:=[]) (kids:=[]) (pats:=[]) (defs:=[]) (fun _=>#[]) (fun _=>#[]) (fun _=>#[]) Ah Ah h Ah Ah Ah Ah (fun s h=>by cases h) ?_ ?_ ?_ ?_ ?_ ?_ ?_ Ah
 all_goals intro i h;cases h
theorem j3.o8{list:List V}{keys:List ByteArray}{vals:List V}(h:j3 w D (.mk j iA t list keys vals) c):∃a b d f e g,c=#[.int .i64 j,.int .i64 iA,.string t,.slice a list.length b,.slice d keys.length f,.slice e vals.length g]:=by
 cases h;exact⟨_,_,_,_,_,_,rfl⟩
def y9(v:V)(m:N):Prop:=∀(w:World)(X:Nat→Prop)(cs:Array Value),(∀c,X c→c<w.heap.size)→j3 w (AX X w) v cs→
 Calls Tryz.prog 19 #[.agg cs] w (hH w [] fun r w'=>∃cs',r=.agg cs'∧RN w' (AX X w') 0 m cs')
theorem lY(u:j≠3)(k:j≠5)(v:j≠6):y9 (.mk j iA t [] [] []) (qN (.mk j iA t [] [] [])):=by
 intro B C l D b
 obtain⟨a,d,m,o,e,p,rfl⟩:=b.o8
 refine cY Tryz.func19 fun q=>ac 2<|bX rfl fun E G w H I f=>al F.z31 rfl fun J K y L M g=>have b:=(((b.fr w.f (fun d r c=>by cases c))).fr y.f (fun d r c=>by cases c));au 6<|lD (Gb f) rfl rfl<|iF u rfl rfl<|au 11<|lD (Gb f) rfl rfl<|iF k rfl rfl<|au 12<|lD (Gb f) rfl rfl<|iF k rfl rfl<|au 6<|lD (Gb f) rfl rfl<|iF v rfl rfl<|au 6<|lw (Gb f) rfl rfl<|cX (l6 _ _ _ _ _ _ b.one _) ?_
 rintro _ O z P rfl
 have b:=(b.fr z.f (fun d r c=>by cases c))
 exact sA (cs:=#[.string Cr,Zs,.int .i64 j,.int .i64 iA,.string t,.slice a 0 d,.slice m 0 o,.slice e 0 p,Zl,Zl,Zl,Zl]) (Gb g) rfl rfl rfl rfl (RN.NW b).one fun Q A R g=>have b:=(b.fr A.f (fun x hx c=>by have:=hx.1;rcases Tt.1 c with rfl;omega));au 2<|hD.hZ (cs:=#[.string Cr,Zs,.int .i64 j,.int .i64 iA,.string t,.slice a 0 d,.slice m 0 o,.slice e 0 p,Zl,Zl,Zl,Zl]) rfl F.hN (hB.hE g) (hH.mk q.g ⟨_,rfl,(RN.NW b).mono (fun x hx=>⟨Tj hx.1 q.g.size,hx.2⟩)⟩)
theorem wv(r:j=3)(z:0≤iA):y9 (.mk j iA t [] [] []) (qN (.mk j iA t [] [] [])):=by
 intro A B l C b
 obtain⟨a,f,g,m,e,o,rfl⟩:=b.o8
 refine cY Tryz.func19 fun p=>ac 2<|bX rfl fun D E u G H d=>al F.z31 rfl fun I J v K L k=>have b:=(((b.fr u.f (fun f q c=>by cases c))).fr v.f (fun f q c=>by cases c));au 6<|lD (Gb d) rfl rfl<|iT r rfl rfl<|au 2<|lD (Gb d) rfl rfl<|DL.y rfl rfl (Y.xz (c:=false) rfl rfl (Ti Ac))<|au 7<|lD (Gb d) rfl rfl<|iF Ac rfl rfl<|au 12<|lD (Gb d) rfl rfl<|iF Ac rfl rfl<|au 6<|lD (Gb d) rfl rfl<|iF Ac rfl rfl<|au 4<|ac 2<|lw (Gb d) rfl rfl<|cX (l6 _ _ _ _ _ _ b.one _) ?_
 rintro _ M w O rfl
 have b:=(b.fr w.f (fun f q c=>by cases c))
 exact sA (cs:=#[.string Cr,Zs,.int .i64 j,.int .i64 iA,.string t,.slice a 0 f,.slice g 0 m,.slice e 0 o,Zl,Zl,Zl,Zl]) (Gb k) rfl rfl rfl rfl (RN.NW b).one fun P y Q k=>have b:=(b.fr y.f (fun x hx c=>by have:=hx.1;rcases Tt.1 c with rfl;omega));au 2<|hD.hZ (cs:=#[.string Cr,Zs,.int .i64 j,.int .i64 iA,.string t,.slice a 0 f,.slice g 0 m,.slice e 0 o,Zl,Zl,Zl,Zl]) rfl F.hN (hB.hE k) (hH.mk p.g ⟨_,rfl,(RN.NW b).mono (fun x hx=>⟨Tj hx.1 p.g.size,hx.2⟩)⟩)
theorem JU{half:Int}(m:half<0)(hl: -36028797018963968≤half):y9 (.mk 3 half ⟨#[]⟩ [] [] []) (Jv (qN (.mk 3 (-half) ⟨#[]⟩ [] [] []))):=by
 intro f o g p q
 obtain⟨a,z,b,A,e,B,rfl⟩:=q.o8
 refine cY Tryz.func19 fun r=>ac 2<|bX rfl fun C E G H I c=>al F.z31 rfl fun J K L M O d=>au 6<|lD (Gb c) rfl rfl<|au 3<|lD (Gb c) rfl rfl<|DL.y rfl rfl (Y.xz (c:=true) rfl rfl (Th m))<|au 7<|lD (Gb c) rfl rfl<|DL.y rfl rfl (Y.Jz (c:=(-half)) rfl Ac Ac Ac)<|bD #[.int .i64 3,.int .i64 (-half),Zs,Zl,Zl,Zl]<|cX (l6 _ _ _ _ _ _ Au _) ?_
 rintro _ u P Q rfl
 have v:=RN.leaf (w:=u) (D:=fun _=>False) (k:=3) (h:= -half) (t:=⟨#[]⟩) Ah Ac Ah
 refine bN (css:=[#[.string Cr,Zs,.int .i64 3,.int .i64 (-half),Zs,Zl,Zl,Zl,Zl,Zl,Zl,Zl]]) F.ic rfl rfl Ag fun j R S T U w=>cX (jA _ _ _ _ _) ?_
 rintro _ W X Z rfl
 refine sA (cs:=#[.string CG,Zs,Zi,Zi,Zs,Zl,Zl,Zl,.slice (some ⟨j,0,none⟩) 1 1,Zl,Zl,Zl]) (Gb d) rfl rfl rfl rfl Au fun l aa ab d=>au 2 ?_
 have y:=RN.r0 (w:=l) (D:=AX o l) (op:=CG) (text:=⟨#[]⟩) (cap:=1) Ah Ah (Gb w) ⟨Ac,fun h=>by have:=p _ h;omega⟩ (v.g.mono (fun b h=>h.elim)) Ah
 exact hD.hZ (cs:=#[.string CG,Zs,Zi,Zi,Zs,Zl,Zl,Zl,.slice (some ⟨j,0,none⟩) 1 1,Zl,Zl,Zl]) rfl F.hN (hB.hE d) (hH.mk r.g ⟨_,rfl,y⟩)
theorem EN:y9 (.mk 5 0 ⟨#[]⟩ [] [] []) (xm []):=by
 intro j k d l f
 obtain⟨a,m,o,p,e,q,rfl⟩:=f.o8
 refine cY Tryz.func19 fun g=>ac 2<|bX rfl fun r t u v w b=>al F.z31 rfl fun y z A B C c=>au 6<|lD (Gb b) rfl rfl<|au 12<|lD (Gb b) rfl rfl<|au 3<|lD (Gb b) rfl rfl<|au 8<|cX (jA _ _ _ _ _) ?_
 rintro _ D E G rfl
 exact sA (cs:=#[.string Cv,Zs,Zi,Zi,Zs,Zl,Zl,Zl,Zl,Zl,Zl,Zl]) (Gb c) rfl rfl rfl rfl Au fun H I J c=>au 2<|hD.hZ (cs:=#[.string Cv,Zs,Zi,Zi,Zs,Zl,Zl,Zl,Zl,Zl,Zl,Zl]) rfl F.hN (hB.hE c) (hH.mk g.g ⟨_,rfl,RN.jw Ah Ah⟩)
def XB(X:Nat→Prop)(l:List Nat)(c:Nat):Prop:=X c∨c∈l
theorem XB.lt{X:Nat→Prop}{l:List Nat}{S:List Nat}{w w':World}(g:∀c,X c→c<w.heap.size)(f:Fr S w w')(hl:∀x∈l,x<w'.heap.size):∀c,XB X l c→c<w'.heap.size:=fun c h=>h.elim (fun h=>Tj (g c h) f.size) (hl c)
section
variable{S:List Nat}{w w' w1:World}{k b d:Nat}{X:Nat→Prop}{l:List Nat}{v:N}{cs:Array Value}
theorem AX.up(f:Fr S w w')(hl:∀x∈l,w.heap.size≤x):∀c,AX X w c→AX (XB X l) w' c:=fun c hc=>⟨Tj hc.1 f.size,fun h=>h.elim hc.2 (fun h=>by have:=hl c h;have:=hc.1;omega)⟩
theorem AX.new(g:∀c,X c→c<w.heap.size)(h0:w.heap.size≤b)(h1:b<w'.heap.size)(hl:b∉l):AX (XB X l) w' b:=⟨h1,fun h=>h.elim (fun h=>by have:=g b h;omega) hl⟩
theorem RN.x0(h:RN w (AX X w) k v cs)(f:Fr [] w w'):RN w' (AX X w') k v cs:=h.ax f (fun b g=>by cases g)
theorem RN.x1(h:RN w (AX (XB X l) w) k v cs)(f:Fr [d] w w')(g:d∈l):RN w' (AX (XB X l) w') k v cs:=h.ax f (fun b j=>by rcases Tt.1 j with rfl;exact Ts (Tk g))
theorem RN.xn(h:RN w (AX (XB X l) w) k v cs)(g:w.heap.size≤b):RN w (AX (XB X (b::l)) w) k v cs:=
 h.mono (fun c hc=>⟨hc.1,fun hx=>hx.elim (fun hx=>hc.2 (Ts hx)) (fun hx=>by rcases Tr.1 hx with rfl|hx;have:=hc.1;omega;exact hc.2 (Tk hx))⟩)
theorem RN.xu(h:RN w (AX X w) k v cs)(f:Fr [] w w')(hl:∀x∈l,w.heap.size≤x):RN w' (AX (XB X l) w') k v cs:=(h.k9 f).mono (AX.up f hl)
theorem j3.xu{v:V}(h:j3 w (AX X w) v cs)(f:Fr [] w w')(hl:∀x∈l,w.heap.size≤x):j3 w' (AX (XB X l) w') v cs:=(h.fr f (fun b _ g=>by cases g)).mono (AX.up f hl)
theorem RN.xd(h:RN w (AX (XB X l) w) k v cs):RN w (AX X w) k v cs:=h.Sz (fun c h=>Ts h)
theorem NL.x0{T sz B:Nat}{ns:List N}{sl:Value}{css:List (Array Value)}(h:NL w k T sz B (XB X l) ns sl css)(f:Fr [] w w'):NL w' k T sz B (XB X l) ns sl css:=h.k9 f
theorem NL.x1{T sz B:Nat}{ns:List N}{sl:Value}{css:List (Array Value)}(h:NL w k T sz B (XB X l) ns sl css)(f:Fr [d] w w')(g:d∈l):NL w' k T sz B (XB X l) ns sl css:=h.n6 f (Tk g)
end
section
variable{w:World}{D:Nat→Prop}{kind half:Int}{text:ByteArray}{list vals:List V}{keys:List ByteArray}{a c e:Option Addr}{b d f:Nat}
theorem j3.el(h:j3 w D (.mk kind half text list keys vals) #[.int .i64 kind,.int .i64 half,.string text,.slice a list.length b,.slice c keys.length d,.slice e vals.length f]){i:Nat}(hi:i<list.length):
  ∃b j g,a=some ⟨b,j,none⟩∧hB w b (j+i*6) g∧g.size=6∧j3 w D list[i] g:=by
 cases h with
 |mk g r hk t ht u y z ks hl o A C E=>obtain⟨b,j,h1,h2,p,q⟩:=hl i hi;exact⟨b,j,g i,h1,p,q,o i hi⟩
theorem j3.vl(h:j3 w D (.mk kind half text list keys vals) #[.int .i64 kind,.int .i64 half,.string text,.slice a list.length b,.slice c keys.length d,.slice e vals.length f]){i:Nat}(hi:i<vals.length):
  ∃b g j,e=some ⟨b,g,none⟩∧hB w b (g+i*6) j∧j.size=6∧j3 w D vals[i] j:=by
 cases h with
 |mk j o hk u ht y z A ks hl C E p q=>obtain⟨b,g,h1,h2,r,t⟩:=p i hi;exact⟨b,g,o i,h1,r,t,q i hi⟩
theorem j3.ky(h:j3 w D (.mk kind half text list keys vals) #[.int .i64 kind,.int .i64 half,.string text,.slice a list.length b,.slice c keys.length d,.slice e vals.length f]){i:Nat}(hi:i<keys.length):
  ∃b g,c=some ⟨b,g,none⟩∧w.cell? ⟨b,g+i*1,none⟩=some (.string keys[i])∧keys[i].size≤140737488351232:=by
 cases h with
 |mk p q hk r ht t u y ks hl z j A C=>obtain⟨b,g,h1,h2,o⟩:=j.str hi;exact⟨b,g,h1,o,ks _ (T2 hi)⟩
end
def XO(X:Nat→Prop)(sl:Value)(c:Nat):Prop:=X c∨sl.ownBlock=some c
section
variable{w w' w1:World}{k T sz B m:Nat}{X:Nat→Prop}{l:List Nat}{v:N}{ns:List N}{sl sl':Value}{cs:Array Value}{css:List (Array Value)}
theorem NL.lt(h:NL w k T sz B X ns sl css){b:Nat}(g:sl.ownBlock=some b):b<w.heap.size:=(h.nc.ob b g).1
theorem NL.xn(h:NL w k T sz B (XB X l) ns sl css){b:Nat}(g:w.heap.size≤b):NL w k T sz B (XB X (b::l)) ns sl css:=
 ⟨h.nc.up (Tv _) (fun c _ hc hx=>hx.elim Ts (fun hx=>by rcases Tr.1 hx with rfl|hx;omega;exact Tk hx)),h.ow⟩
theorem XB.IB{n:Nat}(g:∀c,X c→c<m)(j:m≤n)(hl:∀x∈l,x<n):∀c,XB X l c→c<n:=fun c h=>h.elim (fun h=>Tj (g c h) j) (hl c)
theorem XO.lt(h:NL w k T sz B (XB X l) ns sl css)(g:∀c,X c→c<w1.heap.size)(j:w1.heap.size≤w.heap.size):∀c,XO X sl c→c<w.heap.size:=fun c hc=>hc.elim (fun h=>Tj (g c h) j) (fun o=>h.lt o)
theorem AX.OS(f:Fr [] w w')(hl:∀x∈l,w.heap.size≤x)(g:∀b∈hX sl,w.heap.size≤b):∀c,AX X w c→AX (XB (XO X sl) l) w' c:=fun c hc=>⟨Tj hc.1 f.size,fun h=>h.elim (fun h=>h.elim hc.2 (fun h=>by have:=g c (hF.2 h);have:=hc.1;omega)) (fun h=>by have:=hl c h;have:=hc.1;omega)⟩
theorem RN.Ir(h:RN w (AX X w) k v cs)(f:Fr [] w w')(hl:∀x∈l,w.heap.size≤x)(g:∀b∈hX sl,w.heap.size≤b):RN w' (AX (XB (XO X sl) l) w') k v cs:=(h.k9 f).mono (AX.OS f hl g)
theorem j3.Ir{v:V}(h:j3 w (AX X w) v cs)(f:Fr [] w w')(hl:∀x∈l,w.heap.size≤x)(g:∀b∈hX sl,w.heap.size≤b):j3 w' (AX (XB (XO X sl) l) w') v cs:=(h.fr f (fun b _ j=>by cases j)).mono (AX.OS f hl g)
theorem NL.yk{j:List N}{g:List (Array Value)}(h:NL w k T sz B (XB X l) ns sl css)(o:∀c,XB X l c→c<w.heap.size)(p:B≤w.heap.size)(q:g.length=j.length)(hs:∀c∈g,c.size=sz)
  (r:∀(i:Nat)(h1:i<j.length)(h2:i<g.length),RN w (AX (XB (XO X sl) l) w) k j[i] g[i]) (f:Fr (hX sl) w w') (t:w'.ownsRow 0 T sz sl' (ns.length+j.length) (hS css++(hS g).toArray.toList)) (u:sl'.ownBlock=sl.ownBlock∨sl'.ownBlock=some w.heap.size):
  NL w' k T sz B (XB X l) (ns++j) sl' (css++g):=
 h.app p (fun hx=>by have:=o _ hx;omega) q hs (fun i h1 h2=>(r i h1 h2).mono (fun c hc=>⟨hc.1,fun hx=>hc.2 (by rcases hx with(hx|hx)|hx;exact Ts (Ts hx);exact Tk hx;exact Ts (Tk hx))⟩)) f t u
theorem NL.kI{n:N}{c:Array Value}(h:NL w k T sz B (XB X l) ns sl css)(g:∀c,XB X l c→c<w.heap.size)(j:B≤w.heap.size)(hs:c.size=sz)(o:RN w (AX (XB (XO X sl) l) w) k n c)(f:Fr (hX sl) w w')(p:w'.ownsRow 0 T sz sl' (ns.length+1) (hS css++(hS [c]).toArray.toList))(q:sl'.ownBlock=sl.ownBlock∨sl'.ownBlock=some w.heap.size):
  NL w' k T sz B (XB X l) (ns++[n]) sl' (css++[c]):=
 h.yk g j rfl (fun x hx=>by rw[Tt.1 hx];exact hs) (fun i h1 h2=>by have:i=0:=AW;subst this;exact o) f p q
theorem NL.yn{n j:N}{c g:Array Value}(h:NL w k T sz B (XB X l) ns sl css)(o:∀c,XB X l c→c<w.heap.size)(p:B≤w.heap.size)(hs:c.size=sz)(q:g.size=sz)(r:RN w (AX (XB (XO X sl) l) w) k n c)(t:RN w (AX (XB (XO X sl) l) w) k j g)(f:Fr (hX sl) w w')(u:w'.ownsRow 0 T sz sl' (ns.length+2) (hS css++(hS [c,g]).toArray.toList))(y:sl'.ownBlock=sl.ownBlock∨sl'.ownBlock=some w.heap.size):
  NL w' k T sz B (XB X l) (ns++[n,j]) sl' (css++[c,g]):=
 h.yk o p rfl (fun x hx=>by simp only[Tr,Tp,TD]at hx;rcases hx with rfl|rfl;exact hs;exact q) (fun i h1 h2=>by
  match i,h1 with
  |0,_=>exact r
  |1,_=>exact t) f u y
end
section
variable{w w':World}{k T sz B B':Nat}{X Y:Nat→Prop}{ns:List N}{sl:Value}{css:List (Array Value)}
theorem NL.down(h:NL w k T sz B X ns sl css)(hx:∀c,Y c→X c)(g:B'≤B):NL w k T sz B' Y ns sl css:=⟨h.nc.up (Tv _) (fun b _ _ h=>hx b h),fun b j=>Tq g (h.ow b j)⟩
theorem NL.cells(h:NL w k T sz B X ns sl css)(t:0<ns.length)(u:0<sz):∃g o,sl=.slice (some ⟨g,0,none⟩) ns.length o∧hB w g 0 (hS css).toArray:=by
 have hl:=ju h.nc.xk
 rcases h.nc.own.2 with⟨h1,h2⟩|⟨g,o,p,rfl,y,q,z,_,A,ht⟩
 ·omega
 refine⟨g,o,rfl,fun j hj=>?_⟩
 have h0:(hS css).length=ns.length*sz:=h.nc.own.1
 have C:j<(hS css).length:=by simpa using hj
 have e:(hS css)[j]? =p[j]? :=by
  have r:(hS css)[j]? =(p.toList.take (ns.length*sz))[j]? :=by rw[ht]
  rw[r,Vz,TU Ac];simp
 rw[Vg,e,T9]
 simp[World.cell?,q]
theorem NL.Kx(h:NL w k T sz B X ns sl css):∀c∈css,c.all (·.oneCell')=true:=fun c hc=>by
 obtain⟨i,hi,rfl⟩:=T0 hc
 exact(h.nc.el i (by rw[←h.nc.len];exact hi) hi).one
theorem NL.M5{n:N}{c:Array Value}{b:Nat}(j:∀c,X c→c<w.heap.size)(h:RN w (AX X w) k n c)(f:Fr [] w w')(h0:w.heap.size≤b)(g:w'.heap[b]? =some (.cells (hS [c]).toArray T (0,0)))(hs:c.size=sz):NL w' k T sz w.heap.size X [n] (.slice (some ⟨b,0,none⟩) 1 1) [c]:=
 ⟨NC.hE g (TE _) (hC g) (fun hx=>by have:=j b hx;omega) hs ((h.k9 f).mono (fun x hx=>⟨⟨TE _,Tj hx.1 f.size,hx.2⟩,by have:=hx.1;omega⟩)),fun x hx=>by rw[hF]at hx;simp only[Value.ownBlock,UD]at hx;omega⟩
end
section
variable{S:List Nat}{w w' w5:World}{k sz d:Nat}{X:Nat→Prop}{l:List Nat}{v:N}{cs:Array Value}{ns:List N}{sl sr:Value}
theorem Rw.fr{D:Nat→Prop}(h:Rw w D k sz ns sl)(f:Fr S w w')(hs:∀b,D b→b∉S):Rw w' D k sz ns sl:=
 let⟨a,c,cl,h1,h2,h3,h4⟩:=h;⟨a,c,cl,h1,h2.fr f hs,fun i hi=>(h3 i hi).fr f hs,h4⟩
theorem Rw.g{D:Nat→Prop}(h:Rw w D k sz ns sl)(g:Rw w D k sz ns sl→Rw w' D k sz ns sl:=by exact Gq):Rw w' D k sz ns sl:=g h
theorem Rw.p0{D:Nat→Prop}(h:Rw w D k sz ns sl)(f:Fr [] w w'):Rw w' D k sz ns sl:=h.fr f (fun b _ g=>by cases g)
theorem Rw.p1(h:Rw w (AX (XB X l) w5) k sz ns sl)(f:Fr [d] w w')(g:d∈l∨w5.heap.size≤d):Rw w' (AX (XB X l) w5) k sz ns sl:=h.fr f (fun b j o=>by
 rcases Tt.1 o with rfl
 rcases g with g|g
 ·exact j.2 (Tk g)
 ·have:=j.1;omega)
theorem Rw.po{w5:World}(h:Rw w (AX (XB X l) w5) k sz ns sl)(f:Fr (hX sr) w w')(g:∀b∈hX sr,w5.heap.size≤b):Rw w' (AX (XB X l) w5) k sz ns sl:=h.fr f (fun b j o=>by have:=g b o;have:=j.1;omega)
theorem Rw.at{j c:Nat}(h:Rw w (AX (XB X l) w5) k sz ns (.slice (some ⟨d,j,none⟩) ns.length c)){i:Nat}(hi:i<ns.length):∃g,hB w d (j+i*sz) g∧g.size=sz∧RN w (AX (XB X l) w5) k ns[i] g∧AX (XB X l) w5 d:=by
 obtain⟨a,c,g,h1,h2,o,_⟩:=h
 obtain⟨b,u,p,q,r,t⟩:=h2 i hi
 cases h1;cases p
 exact⟨g i,r,t,o i hi,q⟩
theorem RN.p1(h:RN w (AX (XB X l) w5) k v cs)(f:Fr [d] w w')(g:d∈l∨w5.heap.size≤d):RN w' (AX (XB X l) w5) k v cs:=h.fr f (fun b j o=>by
 rcases Tt.1 o with rfl
 rcases g with g|g
 ·exact j.2 (Tk g)
 ·have:=j.1;omega)
theorem RN.po(h:RN w (AX (XB X l) w5) k v cs)(f:Fr (hX sr) w w')(g:∀b∈hX sr,w5.heap.size≤b):RN w' (AX (XB X l) w5) k v cs:=h.fr f (fun b j o=>by have:=g b o;have:=j.1;omega)
theorem hB.p1{b j:Nat}(h:hB w b j cs)(o:AX (XB X l) w5 b)(f:Fr [d] w w')(g:d∈l∨w5.heap.size≤d):hB w' b j cs:=h.fr f (fun p=>by
 rcases Tt.1 p with rfl
 rcases g with g|g
 ·exact o.2 (Tk g)
 ·have:=o.1;omega)
theorem hB.po{b g:Nat}(h:hB w b g cs)(j:AX (XB X l) w5 b)(f:Fr (hX sr) w w')(o:∀b∈hX sr,w5.heap.size≤b):hB w' b g cs:=h.fr f (fun p=>by have:=o b p;have:=j.1;omega)
theorem Rw.xp(h:Rw w (AX (XB X l) w5) k sz ns sl)(hw:w5.heap.size≤w.heap.size):Rw w (AX (XB X l) w) k sz ns sl:=h.mono (fun c hc=>⟨Tj hc.1 hw,hc.2⟩)
theorem hT.Ir{a:Option Addr}{n:Nat}{g:Nat→Array Value}(h:hT w (AX X w) a n sz g)(f:Fr [] w w')(hl:∀x∈l,w.heap.size≤x)(j:∀b∈hX sl,w.heap.size≤b):hT w' (AX (XB (XO X sl) l) w') a n sz g:=(h.fr f (fun b _ o=>by cases o)).mono (AX.OS f hl j)
theorem RN.zL{D:Nat→Prop}{op text o p:ByteArray}{r:V}{names:List ByteArray}{kids pats defs:List N}{t u y g:Option Addr}{z A C E F G H I:Nat}{J K L M O P:Value}(h:RN w D 0 (.mk op text r names kids pats defs) #[.string o,.string p,J,K,L,M,O,P,.slice t z A,.slice u C E,.slice y F G,.slice g H I]):∃j,hT w D g defs.length 14 j∧(∀(i:Nat)(h:i<defs.length),RN w D 2 defs[i] (j i)):=by
 cases h with
 |q W Z Q aa ht ab ac ad ae af ns hk ag ah ai aj R U hkc=>exact⟨Q,R,U⟩
theorem Rw.shape{D:Nat→Prop}(h:Rw w D k sz ns sl):∃a c,sl=.slice a ns.length c:=let⟨a,c,_,h1,_⟩:=h;⟨a,c,h1⟩
theorem Rw.some{D:Nat→Prop}{a:Option Addr}{c:Nat}(h:Rw w D k sz ns (.slice a ns.length c))(g:0<ns.length):∃d j,a=some ⟨d,j,none⟩:=by
 obtain⟨q,r,t,h1,h2,_⟩:=h
 obtain⟨b,o,p,_⟩:=h2 0 g
 cases h1;exact⟨b,o,p⟩
theorem RN.xp(h:RN w (AX (XB X l) w5) k v cs)(hw:w5.heap.size≤w.heap.size):RN w (AX (XB X l) w) k v cs:=h.mono (fun c hc=>⟨Tj hc.1 hw,hc.2⟩)
theorem RN.QM(h:RN w (AX (XB X l) w5) k v cs)(hw:w5.heap.size≤w.heap.size)(g:∀b∈hX sl,w5.heap.size≤b):RN w (AX (XB (XO X sl) l) w) k v cs:=
 h.mono (fun c hc=>⟨Tj hc.1 hw,fun hx=>hx.elim (fun hx=>hx.elim (fun h=>hc.2 (Ts h)) (fun h=>by have:=g c (hF.2 h);have:=hc.1;omega)) (fun h=>hc.2 (Tk h))⟩)
theorem RN.xq{b:Nat}(h:RN w (AX (XB X l) w5) k v cs)(hw:w5.heap.size≤w.heap.size)(g:w5.heap.size≤b):RN w (AX (XB X (b::l)) w) k v cs:=
 h.mono (fun c hc=>⟨Tj hc.1 hw,fun hx=>hx.elim (fun h=>hc.2 (Ts h)) (fun h=>by rcases Tr.1 h with rfl|h;have:=hc.1;omega;exact hc.2 (Tk h))⟩)
theorem hT.xu{a:Option Addr}{n:Nat}{g:Nat→Array Value}(h:hT w (AX X w) a n sz g)(f:Fr [] w w')(hl:∀x∈l,w.heap.size≤x):hT w' (AX (XB X l) w') a n sz g:=(h.fr f (fun b _ j=>by cases j)).mono (AX.up f hl)
end
theorem RN.LY{w:World}{D:Nat→Prop}{d:N}{cs:Array Value}(h:RN w D 2 d cs):∃text names o g p q r t u y z A C E F G H,(∃op aa pats defs,d=.mk op text aa names [o] pats defs)∧cs=#[.string text,.slice g names.length p,q,r,t,u,y,z,A,C,E,F,G,H]∧hT w D g names.length 1 (strCells names)∧RN w D 0 o #[q,r,t,u,y,z,A,C,E,F,G,H]∧
  ∀(w':World)(j:Nat→Prop)(m:N)(I J K L M O P Q R U W Z:Value),hT w' j g names.length 1 (strCells names)→RN w' j 0 m #[I,J,K,L,M,O,P,Q,R,U,W,Z]→RN w' j 2 (.mk ⟨#[]⟩ text V0 names [m] [] []) #[.string text,.slice g names.length p,I,J,K,L,M,O,P,Q,R,U,W,Z]:=by
 cases h with
 |d ht ab ns ac ad=>exact⟨_,_,_,_,_,_,_,_,_,_,_,_,_,_,_,_,_,⟨_,_,_,_,rfl⟩,rfl,ac,ad,fun w' j m _ _ _ _ _ _ _ _ _ _ _ _ ae af=>.d ht ab ns ae af⟩
theorem RN.re{w w':World}{D g:Nat→Prop}{op text:ByteArray}{A:V}{names:List ByteArray}{kids j pats defs o:List N}{C p r E:Option Addr}{F t u G:Nat}{H I J K L M s1 y:Value}(h:RN w D 0 (.mk op text A names kids pats defs) #[.string op,.string text,H,I,J,K,L,M,.slice C kids.length F,.slice p names.length t,.slice r pats.length u,.slice E defs.length G])
  (f:Fr [] w w') (z:∀c,D c→g c) (hk:Rw w' g 0 12 j s1) (hs:Rw w' g 2 14 o y):RN w' g 0 (.mk op text V0 names j pats o) #[.string op,.string text,Zi,Zi,Zs,Zl,Zl,Zl,s1,.slice p names.length t,.slice r pats.length u,y]:=by
 obtain⟨ai,aj,O,rfl,P,Q,R,ak⟩:=hk
 obtain⟨al,am,U,rfl,W,Z,an,ao⟩:=hs
 have aa:=(h.k9 f).mono z
 cases aa with
 |q ap ab aq ac ht ar au ad ae av ns hk aw af ag ah z ax hkc=>exact .q O ab U ac ht (j3.zero _ _) Ac ad ae Ac ns P Q af ag ah W Z R
theorem RN.M1{w:World}{D:Nat→Prop}{op text:ByteArray}{o:V}{names:List ByteArray}{kids pats defs:List N}{g p q r:Option Addr}{j t u y:Nat}{z A C E F G:Value}(h:RN w D 0 (.mk op text o names kids pats defs) #[.string op,.string text,z,A,C,E,F,G,.slice g kids.length j,.slice p names.length t,.slice q pats.length u,.slice r defs.length y])(hl:kids.length≤1048576):Rw w D 0 12 kids (.slice g kids.length j):=
 let⟨cl,h1,h2,h3⟩:=h.mv;⟨g,j,cl,rfl,h1,h2,h3,Ac⟩
theorem hT.flat{w:World}{D:Nat→Prop}{b p n sz:Nat}{j:Nat→Array Value}(h:hT w D (some ⟨b,p,none⟩) n sz j):∃o:List (Array Value),o.length=n∧(∀c∈o,c.size=sz)∧(∀(i:Nat)(h:i<o.length),o[i]=j i)∧hB w b p (hS o).toArray:=by
 have hs:∀c∈(List.range n).map j,c.size=sz:=fun c hc=>by
  obtain⟨i,hi,rfl⟩:=U3.1 hc
  obtain⟨y,z,_,_,_,q⟩:=h i (UH.1 hi);exact q
 refine⟨(List.range n).map j,by simp,hs,fun i hi=>by simp,fun g hj=>?_⟩
 have hl:=ju hs
 have r:g<n*sz:=by simpa[hl]using hj
 have A:0<sz:=by rcases Ur sz with h0|h0;rw[h0]at r;omega;exact h0
 have hi:g/sz<n:=Nat.div_lt_of_lt_mul (by rw[Vq];exact r)
 have t:g%sz<sz:=Nat.mod_lt _ A
 obtain⟨y,z,h1,_,C,q⟩:=h (g/sz) hi
 cases h1
 have e:=mg hs (g/sz) (g%sz) A3 t
 have E:g/sz*sz+g%sz=g:=Nat.div_add_mod' g sz
 rw[E]at e
 have u:=C (g%sz) (by rw[q];exact t)
 rw[show p+g/sz*sz+g%sz=p+g by omega]at u
 have F:(hS ((List.range n).map j)).toArray[g]? =(hS ((List.range n).map j))[g]? :=by simp only[Vg]
 rw[u,F,e]
 simp only[Uw,Us]
inductive Ch(op:ByteArray):N→List N→Prop
 |leaf {n:N} (h:iz n≠op):Ch op n [n]
 |two {tx:ByteArray} {v:V} {ns:List ByteArray} {a b:N} {ps ds qs rs:List N} (h1:Ch op a qs) (h2:Ch op b rs):Ch op (.mk op tx v ns [a,b] ps ds) (qs++rs)
theorem Ch.pos{g:ByteArray}{n:N}{ps:List N}(h:Ch g n ps):0<ps.length:=by
 induction h with
 |leaf h=>simp
 |two h1 h2 j o=>simp only[Tl];omega
theorem Ch.len{g:ByteArray}{n:N}{ps:List N}(h:Ch g n ps):ps.length≤n.nodes:=by
 induction h with
 |leaf h=>exact N.kh _
 |two h1 h2 j o=>simp only[Tl,N.nodes,N.iy];omega
def Iz(op:ByteArray)(n:N)(ps:List N):Prop:=∀(w:World)(X:Nat→Prop)(cs:Array Value),(∀c,X c→c<w.heap.size)→RN w (AX X w) 0 n cs→
 Calls Tryz.prog 24 #[.agg cs,.string op] w (hH w [] fun r w'=>∃css,NL w' 0 31 12 w.heap.size X ps r css)
def QL:N→ByteArray
 | .mk _ t _ _ _ _ _=>t
def yC:N→List N
 | .mk _ _ _ _ ks _ _=>ks
abbrev qb:N:=.mk CE ⟨#[]⟩ V0 [] [] [] []
inductive Kf:N→N→Prop
 |text {s:ByteArray} {v:V} {r:List ByteArray} {ps ds:List N} (hs:s.size≤1048576):Kf (.mk ⟨#[116,101,120,116]⟩ ⟨#[]⟩ v (s::r) [] ps ds) (jk s)
 |mP {k:N} (h:¬(iz k=⟨#[116,101,120,116]⟩∧QL k=⟨#[]⟩∧yC k=[])):Kf k k
inductive NF:N→N→N→N→Prop
 |v {k v:N} (h:iz v≠⟨#[110,111,110,101]⟩):NF k v k v
 |d {s:ByteArray} {kv:V} {ns:List ByteArray} {ks ps ds:List N} {v:N} (hs:s.size≤1048576) (h:iz v=⟨#[110,111,110,101]⟩):NF (.mk ⟨#[36]⟩ s kv ns ks ps ds) v (jk s) (.mk ⟨#[36]⟩ s kv ns ks ps ds)
 |n {k v:N} (h:iz v=⟨#[110,111,110,101]⟩) (hk:iz k≠⟨#[36]⟩) (hs:iz k≠⟨#[118,97,108]⟩∨∃t:ByteArray,k=jk t∧t.size≤1099511627776):NF k v k (Ev qb k)
def Fp(k v k2 v2:N):Prop:=∃k1,Kf k k1∧NF k1 v k2 v2
theorem Ew{l:List N}{i:Nat}(h:2*i+1<l.length):l.take (2*(i+1))=l.take (2*i)++[l[2*i]'(TW h),l[2*i+1]]:=by
 have h0:2*i<l.length:=by omega
 rw[show 2*(i+1)=2*i+1+1 by omega,Ul h,Ul h0,Ty];rfl
inductive DE:N→N→Prop
 |mk {op s:ByteArray} {v:V} {ns:List ByteArray} {b m:N} {ps ds:List N} (h:l8 b m):DE (.mk op s v ns [b] ps ds) (.mk ⟨#[]⟩ s V0 ns [m] [] [])
inductive Mg(op:ByteArray):List N→List N→List N→List N→Prop
 |no {ms dm:List N} (h:op≠⟨#[100,101,102]⟩):Mg op ms dm ms dm
 |mP {m:N} {r dm:List N} (h:op=⟨#[100,101,102]⟩) (hm:iz m≠⟨#[100,101,102]⟩):Mg op (m::r) dm (m::r) dm
 |merge {tx:ByteArray} {v:V} {ns:List ByteArray} {ks ps es r dm:List N} (h:op=⟨#[100,101,102]⟩) (he:0<es.length) (hb:dm.length+es.length≤1048576) (hk:ks.length≤1048576):Mg op (.mk ⟨#[100,101,102]⟩ tx v ns ks ps es::r) dm ks (dm++es)
theorem tT:∀{ks:List ByteArray}{ms:List N}{i:Nat}(h1:i<ks.length)(h2:i<ms.length),(oN ks ms).take (2*(i+1))=(oN ks ms).take (2*i)++[jk ks[i],ms[i]]
 |k::ks,m::ms,0,_,_=>by simp[oN]
 |k::ks,m::ms,i+1,h1,h2=>by
  have:=tT (ks:=ks) (ms:=ms) (i:=i) AW A4
  have e:2*(i+1+1)=2*(i+1)+1+1:=by omega
  have g:2*(i+1)=2*i+1+1:=by omega
  show(jk k::m::oN ks ms).take _=(jk k::m::oN ks ms).take (2*(i+1))++[jk (k::ks)[i+1],(m::ms)[i+1]]
  rw[e,T4,T4,this,g,T4,T4];rfl
def yE(op:ByteArray):List N→N
 |[]=>je
 |[m]=>m
 |m::r=>.mk op ⟨#[]⟩ V0 [] [m,yE op r] [] []
theorem qX(g:ByteArray){l:List N}{i:Nat}(h:i+1=l.length):yE g (l.drop i)=l[i]:=by
 rw[T6 Ac,List.drop_eq_nil_of_le Ac];rfl
theorem rf(g:ByteArray){l:List N}{i:Nat}(h:i+1<l.length):yE g (l.drop i)=.mk g ⟨#[]⟩ V0 [] [l[i],yE g (l.drop (i+1))] [] []:=by
 rw[T6 Ac,T6 h];rfl
theorem GI{l:List V}{ms:List N}(hl:l.length=ms.length)(h0:0<l.length)(a2:l.length≤1048576)(h:∀(i:Nat)(h1:i<l.length)(h2:i<ms.length),y9 l[i] ms[i]):y9 (.mk 5 0 ⟨#[]⟩ l [] []) (xm [yE CM ms]):=by
 intro z u A w B
 obtain⟨a,O,C,P,e,Q,rfl⟩:=B.o8
 obtain⟨R,S,a3,rfl,T,U,W⟩:=B.el (i:=l.length - 1) Ac
 refine cY Tryz.func19 fun d=>ac 2<|bX rfl fun o a4 a5 a6 X c=>al F.z31 rfl fun p a7 a8 a9 Z g=>au 6<|lD (Gb c) rfl rfl<|au 12<|lD (Gb c) rfl rfl<|au 3<|lD (Gb c) rfl rfl<|au 1<|iF Ac rfl rfl<|au 7<|lD (Gb c) rfl rfl<|au 7<|lD (Gb c) rfl rfl<|au 1<|lD (Gb c) rfl rfl<|au 1<|DL.y rfl rfl (Y.n8 rfl rfl (rfl) Ac Ac)<|iX F.s7 Ac rfl rfl ((by omega:(l.length:Int) - 1=((l.length - 1:Nat):Int)))<|lA (T.fr d.g Al) U rfl<|cX (h _ Ac Ac _ (XB u [p,o]) _ (XB.lt w d.g Aj) (W.xu d.g Aj)) ?_
 rintro _ aA aB aC ⟨aa,rfl,j⟩
 refine al F.z31 rfl fun q aD ab ad ae f=>have j:=(j.xn ad).x0 ab.f;sA f rfl rfl rfl j.hA j.one fun aE af aF ag=>have j:=j.x1 af.f Al;have f:=ag;au 5<|lD (Gb c) rfl rfl<|au 1<|DL.y rfl rfl (Y.n8 rfl rfl (rfl) Ac Ac)<|au 3<|DC.jC (σ:=Nat×Array Value) [(4,4),(51,63)] [(1,Pt o),(2,Pt p),(3,Pt q)] (fun(n,r)=>[(4,.int .i64 ((n:Int) - 1))]) (fun ah k=>Fr [] z k∧(fun(n,r) k=>n<l.length∧k.heap[o]? =some (.cells #[.int .i64 5,Zi,Zs,.slice (some ⟨R,S,none⟩) l.length O,.slice C 0 P,.slice e 0 Q] 26 (0,0))∧k.heap[p]? =some (.cells #[Zs,Zs,Zi,Zi,Zs,Zl,Zl,Zl,Zl,Zl,Zl,Zl] 31 (0,0))∧k.heap[q]? =some (.cells r 31 (0,0))∧RN k (AX (XB u [q,p,o]) k) 0 (yE CM (ms.drop n)) r) ah k) (fun(n,_)=>n) ((l.length - 1,aa)) rfl ?_ ?_ ?_ ?_
 ·exact⟨rfl,rfl,rfl⟩
 ·exact BC
 ·exact⟨d.g,by show l.length - 1<_;omega,(Gb c),(Gb g),f,(by rw[qX _ Ac];exact j)⟩
 clear d c g j f
 rintro aH ⟨n,r⟩ aI aJ ⟨d,aK,c,g,f,b⟩
 have X:=hC c;have Z:=hC g;have ae:=hC f;have aL:=d.size
 have aM:=b.hA
 refine ac 4<|jH rfl rfl (fun ai=>?_) (fun ai=>?_)
 ·obtain⟨m,rfl⟩:∃m,n=m+1:=⟨n - 1,Ac⟩
  obtain⟨aN,aO,aj,ak,am,an,ao⟩:=B.el (i:=m) Ac
  cases ak
  refine au 5<|dR [] 9 fun aP H aQ E=>have aR:=H.size;have b:=b.x0 H.f;aG [0]<|gL 1 (Gb c) rfl rfl rfl<|aG [2]<|gf 3 rfl (fun I=>Y.index F.s7 rfl rfl ((by omega:((m+1:Nat):Int) - 1=(m:Int))) Ac)<|gT 4 rfl (fun I G=>Y.iU (cs:=aj) an F.rC rfl ((am.fr d.g Al).fr G Al))<|gT 6 rfl (fun I G=>Y.jl rfl (G.il (Gb f)) (by rw[b.hA];exact F.hN))<|gp 5<|cX (h m Ac Ac _ (XB u [q,p,o]) _ (XB.lt w d.g Aj) (ao.xu d.g Aj)) ?_
  rintro _ aS ap aT ⟨aq,rfl,y⟩
  have b:=b.x0 ap.f
  refine gn E.g<|gp 7<|bN (css:=[aq,r]) F.ic rfl rfl (by intro C hc;simp only[Tr,Tp,TD]at hc;rcases hc with rfl|rfl;exact y.hA;exact b.hA) fun ar aU J aV aW av=>gn E.g<|gp 8<|cX (jA _ _ _ _ _) ?_
  rintro _ K L aX rfl
  have b:=(b.x0 J.f).x0 L.f
  have y:=(y.x0 J.f).x0 L.f
  have v:=RN.yF (w:=K) (D:=AX (XB u [q,p,o]) K) (op:=CM) (text:=⟨#[]⟩) (cap:=2) Ap Ap (Gb av) (AX.new w Ac Ac Ax) y b Ah
  exact gn E.g<|gp 9<|sA (cs:=#[.string CM,Zs,Zi,Zi,Zs,Zl,Zl,Zl,.slice (some ⟨ar,0,none⟩) 2 2,Zl,Zl,Zl]) (Gb f) rfl rfl b.hA v.hA v.one fun aY aw aZ f=>have v:=v.x1 aw.f Al;gl<|gD<|ac 2<|si (((m:Nat):Int) - 1) rfl rfl<|au 2 ⟨(m,_),⟨d.g,Ac,(Gb c),(Gb g),f,(by rw[rf _ Ac];exact v)⟩,TY _,rfl⟩
 obtain rfl:n=0:=by omega
 refine au 3<|ac 2<|lw f rfl b.hA<|bN (css:=[r]) F.ic rfl rfl (by intro C hc;simp only[Tr,Tp,TD]at hc;rcases hc with rfl;exact b.hA) fun ax ba ay bb bc az=>cX (jA _ _ _ _ _) ?_
 rintro _ M a0 bd rfl
 have b:=(b.x0 ay.f).x0 a0.f
 have t:=RN.r0 (w:=M) (D:=AX (XB u [q,p,o]) M) (op:=Cv) (text:=⟨#[]⟩) (cap:=1) Ap Ap (Gb az) (AX.new w Ac Ac Ax) b Ah
 exact sA (cs:=#[.string Cv,Zs,Zi,Zi,Zs,Zl,Zl,Zl,.slice (some ⟨ax,0,none⟩) 1 1,Zl,Zl,Zl]) (Gb g) rfl rfl rfl t.hA t.one fun be a1 bf g=>have t:=t.x1 a1.f Al;au 2<|hD.hZ rfl (by rw[t.hA];exact F.hN) (hB.hE g) (hH.mk d.g ⟨_,rfl,t.xd⟩)
theorem Jm{ks:List ByteArray}(hk:ks.length=vJ.length)(hl:vJ.length=Q.length)(M:vJ.length≤1048576)(W:∀s∈ks,s.size≤1048576)(h:∀(i:Nat)(h1:i<vJ.length)(h2:i<Q.length),y9 vJ[i] Q[i]):y9 (.mk 6 0 ⟨#[]⟩ [] ks vJ) (HD (oN ks Q)):=by
 intro v w E O G
 obtain⟨a,A,y,X,e,Z,rfl⟩:=G.o8
 have aa:=ov ks Q Ac
 refine cY Tryz.func19 fun d=>ac 2<|bX rfl fun j a7 a8 a9 ab c=>al F.z31 rfl fun l aA aB aC ad f=>au 6<|lD (Gb c) rfl rfl<|au 12<|lD (Gb c) rfl rfl<|au 13<|lD (Gb c) rfl rfl<|au 7<|lD (Gb c) rfl rfl<|au 6<|cX (jA _ _ _ _ _) ?_
 rintro _ P aD aE rfl
 have z:=RN.jw (w:=P) (D:=AX (XB w [l,j]) P) (op:=Cm) (text:=⟨#[]⟩) Ah Ap
 refine al F.z31 rfl fun o aF ae af ag b=>have z:=(z.xn af).x0 ae.f;sA (cs:=#[.string Cm,Zs,Zi,Zi,Zs,Zl,Zl,Zl,Zl,Zl,Zl,Zl]) b rfl rfl rfl z.hA z.one fun aH aI aJ b=>au 7<|lE [] v (σ:=Nat×Value×List (Array Value)) [(6,6),(72,96)] [(1,Pt j),(2,Pt l),(5,Pt o)] (fun(i,_)=>[(6,.int .i64 (i:Int))]) (fun(i,r,H) B=>i≤ks.length∧B.heap[j]? =some (.cells #[.int .i64 6,Zi,Zs,.slice a 0 A,.slice y ks.length X,.slice e vJ.length Z] 26 (0,0))∧B.heap[l]? =some (.cells #[Zs,Zs,Zi,Zi,Zs,Zl,Zl,Zl,Zl,Zl,Zl,Zl] 31 (0,0))∧B.heap[o]? =some (.cells #[.string Cm,Zs,Zi,Zi,Zs,Zl,Zl,Zl,r,Zl,Zl,Zl] 31 (0,0))∧NL B 0 31 12 v.heap.size (XB w [o,l,j]) ((oN ks Q).take (2*i)) r H) (fun(i,_)=>ks.length - i) ((0,Zl,[])) ?_ ?_
 ·exact⟨d.g,TE _,(Gb c),(Gb f),b,NL.nil _ _ _ _ _ _⟩
 clear d c f z b
 rintro aK ⟨i,r,H⟩ aL R ⟨d,aM,c,f,b,hL⟩
 have ah:=d.size
 have ab:=hC c
 have ad:=hC f
 have ag:=hC b
 have aj:=XO.lt hL O ah
 have aN:((oN ks Q).take (2*i)).length=2*i:=by rw[Ud,aa];omega
 refine ac 5<|lD c rfl rfl<|au 1<|jX rfl rfl (fun ak=>?_) (fun ak=>?_)
 ·have hi:i<ks.length:=by omega
  obtain⟨aO,aP,am,an,aQ⟩:=G.ky (i:=i) hi
  cases am
  obtain⟨aR,aS,ao,ap,aq,ar,av⟩:=G.vl (i:=i) Ac
  cases ap
  have aT:=W _ (T2 hi)
  refine au 5<|dR [] 16 fun aU S aV C=>have aW:=S.size;aG [0]<|gL 1 (Gb b) rfl rfl rfl<|aG [2]<|gL 3 (Gb c) rfl rfl rfl<|aG [4]<|gf 5 rfl (fun I=>Y.index F.ku rfl rfl (rfl) (hi))<|gT 6 rfl (fun I J=>Y.load F.oq rfl (J.cell (d.g.cell an Al) Al))<|aG [9]<|gL 10 (Gb c) rfl rfl rfl<|aG [11]<|gf 12 rfl (fun I=>Y.index F.s7 rfl rfl (rfl) Ac)<|gT 13 rfl (fun I J=>Y.iU (cs:=ao) ar F.rC rfl ((aq.fr d.g Al).fr J Al))<|gp 7<|cX (rM _ _) ?_
  rintro _ aX aw aY rfl
  refine gn C.g<|gp 8<|cX (l6 _ _ _ _ _ _ Au _) ?_
  rintro _ T ax aZ rfl
  have hL:=((hL.x0 S.f).x0 aw.f).x0 ax.f
  have g:=(RN.leaf (w:=T) (D:=fun _=>False) (k:=4) (h:=0) (t:=ks[i]) Ah Ah Ac).mono (D':=AX (XB (XO w r) [o,l,j]) T) (fun y h=>h.elim)
  refine gn C.g<|gp 14<|cX (h i Ac Ac _ (XB (XO w r) [o,l,j]) _ (XB.IB aj Ac Aj) (av.Ir d.g Aj hL.ow)) ?_
  rintro _ ba U bb ⟨ay,rfl,p⟩
  have g:=g.x0 U.f
  refine gn C.g<|gp 15<|bN (css:=[#[.string Cr,Zs,.int .i64 4,Zi,.string ks[i],Zl,Zl,Zl,Zl,Zl,Zl,Zl],ay]) F.ic rfl rfl (by intro y hc;simp only[Tr,Tp,TD]at hc;rcases hc with rfl|rfl;exact g.hA;exact p.hA) fun bc bd K be bf az=>have hL:=(hL.x0 U.f).x0 K.f;have g:=g.x0 K.f;have p:=p.x0 K.f;gn C.g<|gp 16<|DL.hJ rfl rfl F.ic rfl rfl hL.nc.own (hB.hE az) (hW (sz:=12) (m:=2) (by intro y hc;simp only[Tr,Tp,TD]at hc;rcases hc with rfl|rfl;exact g.hA;exact p.hA) rfl) (hM (by intro y hc;simp only[Tr,Tp,TD]at hc;rcases hc with rfl|rfl;exact g.one;exact p.one)) Ac Ac Ac fun a0 bg u a1 a2=>have a3:=hL.ow;have L:=fun A M=>hL.nc.nx (b:=A) (Tk M);have hL:=hL.yn (XB.lt O d.g Aj) Ac g.hA p.hA g p u a1 a2;have d:=d.g.put u (fun x hx=>Tk (by have:=a3 x hx;omega));have bh:=u.size;have c:=u.hO (Gb c) (L _ Al);have f:=u.hO (Gb f) (L _ Al);have b:=u.hO (Gb b) (L _ Al);gl<|aG [17]<|gp 18<|sc b rfl rfl hL.one rfl ?_
  intro a4 a5 bi b
  have hL:=hL.x1 a5.f Al
  have b:a4.heap[o]? =some (.cells #[.string Cm,Zs,Zi,Zi,Zs,Zl,Zl,Zl,a0,Zl,Zl,Zl] 31 (0,0)):=b
  exact gl<|gD<|ac 2<|ai ((i+1:Nat):Int) rfl rfl<|au 2 ⟨(i+1,_,_),⟨d.g,hi,(Gb c),(Gb f),b,(by rw[tT hi Ac];exact hL)⟩,Bi,rfl⟩
 rw[TK Ac]at hL
 have bj:(oN ks Q).length≤2097152:=by omega
 refine au 3<|ac 2 ?_
 have q:=RN.nJ (w:=R) (D:=AX (XB w [o,l,j]) R) (op:=Cm) (text:=⟨#[]⟩) Ap Ap (hL.rw Ah Ac) Rs.nil Rw.nil Rw.nil
 exact lw b rfl q.hA<|sA (cs:=#[.string Cm,Zs,Zi,Zi,Zs,Zl,Zl,Zl,r,Zl,Zl,Zl]) f rfl rfl rfl q.hA q.one fun bk a6 bl f=>have q:=q.x1 a6.f Al;au 2<|hD.hZ rfl (by rw[q.hA];exact F.hN) (hB.hE f) (hH.mk d.g ⟨_,rfl,q.xd⟩)
theorem wu{n:N}(h:iz n≠t):Iz t n [n]:=by
 obtain⟨f,g,I,j,ks,ps,k⟩:=n
 intro J K L l b
 obtain⟨m,o,p,q,r,u,v,w,y,z,A,B,C,D,rfl⟩:=b.hI
 have M:=b.one;have E:=b.hA
 exact cY Tryz.func24 fun c=>ac 2<|bX rfl fun O P Q R S d=>au 6<|lD d rfl rfl<|au 1<|DL.y rfl rfl (Y.my (c:=true) rfl rfl (kR h))<|au 4<|lw d rfl b.hA<|bN (css:=[#[.string f,.string g,y,z,A,B,C,D,.slice m ks.length o,.slice p j.length q,.slice r ps.length u,.slice v k.length w]]) F.ic rfl rfl (by intro G hc;simp only[Tr,Tp,TD]at hc;rcases hc with rfl;exact b.hA) fun T U W X Z H=>au 3<|rX c.g ⟨[_],NL.M5 l b c.g Ac (by simpa[hS]using H) E⟩
theorem yG{a:N}{ps:List N}(h1:Iz t a P)(h2:Iz t q Q)(z:0<Q.length)(hl:P.length+Q.length≤1048576):Iz t (.mk t sA vH S [a,q] ps qF) (P++Q):=by
 intro U r u g j
 obtain⟨W,X,Z,aa,ab,ad,ae,af,ag,ah,ai,aj,ak,al,rfl⟩:=j.hI
 obtain⟨am,an,A,B,ao,C,D,E⟩:=j.kF (i:=0) Al
 cases B
 obtain⟨ap,aq,G,H,ar,I,J,K⟩:=j.kF (i:=1) Al
 cases H
 refine cY Tryz.func24 fun b=>ac 2<|bX rfl fun v av aw ax ay k=>au 6<|lD k rfl rfl<|au 1<|DL.y rfl rfl (Y.my (c:=false) rfl rfl Al)<|au 4<|dR [] 12 fun az L a0 w=>have a1:=L.size;aG [0]<|gL 1 (Gb k) rfl rfl rfl<|gf 2 rfl (fun o=>Y.index F.iI rfl rfl (rfl) Al)<|gT 3 rfl (fun o p=>Y.iU (cs:=A) D F.hN rfl ((C.fr b.g Al).fr p Al))<|aG [4,6]<|gL 7 (Gb k) rfl rfl rfl<|gf 8 rfl (fun o=>Y.index F.iI rfl rfl (rfl) Al)<|gT 9 rfl (fun o p=>Y.iU (cs:=G) J F.hN rfl ((I.fr b.g Al).fr p Al))<|aG [10]<|gp 5<|cX (h1 _ (XB r [v]) _ (XB.lt g b.g Aj) (E.xu b.g Aj)) fun M a2 a3 a4 ⟨a5,f⟩=>gn w.g<|gp 11<|cX (h2 _ (XO (XB r [v]) M) _ (fun d hc=>hc.elim (XB.lt g b.g Aj d) (fun h=>f.lt h)) ((K.k9 b.g).mono (fun d hc=>⟨Tj hc.1 b.g.size,fun h=>h.elim (fun h=>h.elim hc.2 (fun h=>by have:=hc.1;simp at h;omega)) (fun h=>by have:=f.ow d (hF.2 h);have:=hc.1;omega)⟩))) ?_
 rintro a6 a7 a8 a9 ⟨aA,c⟩
 refine gn w.g<|gp 12 ?_
 obtain⟨aB,aC,rfl,O⟩:=c.cells z Ah
 exact DL.hJ rfl rfl F.ic rfl rfl f.g.nc.own O (hW (m:=Q.length) c.nc.xk c.nc.len) (hM c.Kx) Ac Ac Ac fun aD aE y R T=>have b:=b.g.put y (fun x hx=>Tk (by have:=f.g.ow x hx;omega));have hL:=f.g.app Ac (fun hx=>by have:=XB.lt g (Fr.refl [] _) (l:=[]) Al _ (hx.imp id (fun h=>by simp at h;omega));omega) c.nc.len c.nc.xk (fun i h1 h2=>(c.nc.el i h1 h2).mono (fun d hc=>⟨hc.1.2.1,hc.1.2.2⟩)) y R T;gl<|aG [13]<|gD<|ac 1<|rX b ⟨_,hL.down (fun d h=>Ts h) Ac⟩
theorem q6{b:ByteArray}{n:N}{ps:List N}(h:Ch b n ps):ps.length≤1048576→Iz b n ps:=by
 induction h with
 |leaf h=>intro _;exact wu h
 |two h1 h2 c d=>intro hl;simp only[Tl]at hl;exact yG (c Ac) (d Ac) h2.pos hl
def O8(l out:List N):Prop:=∀(w:World)(X:Nat→Prop)(a:Option Addr)(c:Nat)(cl:Nat→Array Value),(∀c,X c→c<w.heap.size)→hT w (AX X w) a l.length 12 cl→(∀(i:Nat)(h:i<l.length),RN w (AX X w) 0 l[i] (cl i))→
 Calls Tryz.prog 23 #[.slice a l.length c] w (hH w [] fun r w'=>∃css,NL w' 0 31 12 w.heap.size X out r css)
theorem hT.at{a:Option Addr}{n:Nat}(h:hT w D a n m cE){i:Nat}(hi:i<n):∃b c,a=some ⟨b,c,none⟩∧hB w b (c+i*m) (cE i)∧(cE i).size=m:=let⟨b,c,h1,_,h3,h4⟩:=h i hi;⟨b,c,h1,h3,h4⟩
theorem ql(aE:P.length=Q.length)(cl:Q.length%2=0)(hl:Q.length≤1048576)(bs:∀(i:Nat)(h1:2*i+1<Q.length)(h2:2*i+1<P.length),Fp (Q[2*i]'(TW h1)) Q[2*i+1] (P[2*i]'(TW h2)) P[2*i+1]):O8 Q P:=by
 intro y z a r ad aF aH aI
 refine cY Tryz.func23 fun f=>ac 14<|lE [] y (σ:=Nat×Value×List (Array Value)) [(3,62)] [(0,.slice a Q.length r)] (fun(i,u,H)=>[(3,u),(4,.int .i64 ((2*i:Nat):Int))]) (fun(i,u,H) p=>2*i≤Q.length∧NL p 0 31 12 y.heap.size (XB z []) (P.take (2*i)) u H) (fun(i,_)=>Q.length - 2*i) ((0,Zl,[])) ?_ ?_
 ·exact⟨f,TE _,NL.nil _ _ _ _ _ _⟩
 clear f
 rintro az ⟨i,u,H⟩ bt aJ ⟨f,cm,hL⟩
 have ae:=f.size
 have bu:=XO.lt hL aF ae
 have cn:(P.take (2*i)).length=2*i:=by rw[Ud];omega
 refine ac 4<|ai ((2*i+1:Nat):Int) rfl rfl<|au 2<|jX rfl rfl (fun bv=>?_) (fun bv=>?_)
 ·obtain⟨a0,a1,bw,bx,bz⟩:=aH.at (i:=2*i) Ac
  subst bw
  obtain⟨co,cp,b0,I,J⟩:=aH.at (i:=2*i+1) Ac
  cases b0
  have o:=aI (2*i) Ac;have l:=aI (2*i+1) Ac
  obtain⟨R,aK,af⟩:=bs i Ac Ac
  have cq:=o.one;have cr:=l.one
  generalize Q[2*i]=a2 at o aK
  generalize Q[2*i+1]=E at l af
  generalize b1:P[2*i]=b2 at af
  generalize b3:P[2*i+1]=O at af
  refine au 5<|DC.lG (σ:=Nat×Nat) (fun(g,j)=>[(0,.slice (some ⟨a0,a1,none⟩) Q.length r),(3,u),(4,.int .i64 ((2*i:Nat):Int)),(5,Pt g),(6,Pt j)]) (fun(g,j) p=>Fr [] y p∧aJ.heap.size≤g∧aJ.heap.size≤j∧g≠j∧p.heap[g]? =some (.cells (ad (2*i)) 31 (0,0))∧p.heap[j]? =some (.cells (ad (2*i+1)) 31 (0,0))∧NL p 0 31 12 y.heap.size (XB z [j,g]) (P.take (2*i)) u H) ?_ ?_
  ·refine dR [] 11 fun ct aL cu q=>have cv:=aL.size;have hL:=hL.x0 aL.f;aG [0,1]<|gf 2 rfl (fun S=>Y.index F.iI rfl rfl ((rfl:((2*i:Nat):Int)=((2*i:Nat):Int))) Ac)<|gT 3 rfl (fun S T=>Y.iU (cs:=(ad (2*i))) bz F.hN rfl ((bx.fr f.g Al).fr T Al))<|aG [4,5]<|gf 6 rfl (fun S=>Y.mm (c:=((2*i:Nat):Int)+1) rfl rfl Ac Ac Ac)<|gf 7 rfl (fun S=>Y.index F.iI rfl rfl ((by omega:((2*i:Nat):Int)+1=((2*i+1:Nat):Int))) Ac)<|DG.pick [8,9,10] Au Al (fun cw aM=>?_)
   simp only[Tr,Tp,TD]at aM
   rcases aM with rfl|rfl|rfl
   ·refine⟨_,rfl,?_⟩
    refine lA (I.fr f.g Al) J rfl<|gn q<|gQ 9 10 ?_ ?_
    ·exact al F.z31 rfl fun g cx b4 A K b=>gn q.g<|gp 10<|al F.z31 rfl fun j cy b5 B L c=>gn q.g<|gp 11<|sA (Gb b) rfl rfl rfl o.hA o.one fun cz b6 c0 v=>have b:=v;gl<|gp 12<|sA (Gb c) rfl rfl rfl l.hA l.one fun c1 b7 c2 w=>have hL:=(((((hL.xn A).x0 b4.f).xn B).x0 b5.f).x1 b6.f Al).x1 b7.f Al;have c:=w;gl<|gD ⟨(g,j),⟨rfl,rfl,rfl,rfl,rfl⟩,f.g,Ac,Ac,Ac,(Gb b),c,AE⟩
    exact al F.z31 rfl fun j c3 b8 B L c=>gn q.g<|gp 9<|al F.z31 rfl fun g c4 b9 A K b=>gn q.g<|gp 11<|sA b rfl rfl rfl o.hA o.one fun c5 bA c6 v=>have b:=v;gl<|gp 12<|sA (Gb c) rfl rfl rfl l.hA l.one fun c7 bB c8 w=>have hL:=(((((hL.xn B).x0 b8.f).xn A).x0 b9.f).x1 bA.f Al).x1 bB.f Al;have c:=w;gl<|gD ⟨(g,j),⟨rfl,rfl,rfl,rfl,rfl⟩,f.g,Ac,Ac,Ac,(Gb b),c,AE⟩
   ·refine⟨_,rfl,?_⟩
    refine al F.z31 rfl fun g c9 bC A K b=>have hL:=(hL.xn A).x0 bC.f;gn q.g<|gQ 8 10 ?_ ?_
    ·exact lA (I.fr f.g Al) J rfl<|gn q.g<|gp 10<|al F.z31 rfl fun j cA bD B L c=>gn q.g<|gp 11<|sA (Gb b) rfl rfl rfl o.hA o.one fun cB bE cC v=>have b:=v;gl<|gp 12<|sA (Gb c) rfl rfl rfl l.hA l.one fun cD bF cE w=>have hL:=(((hL.xn B).x0 bD.f).x1 bE.f Al).x1 bF.f Al;have c:=w;gl<|gD ⟨(g,j),⟨rfl,rfl,rfl,rfl,rfl⟩,f.g,Ac,Ac,Ac,(Gb b),c,AE⟩
    refine al F.z31 rfl fun j cF bG B L c=>have hL:=(hL.xn B).x0 bG.f;gn q.g<|gQ 8 11 ?_ ?_
    ·exact lA (I.fr f.g Al) J rfl<|gn q.g<|gp 11<|sA (Gb b) rfl rfl rfl o.hA o.one fun cG bH cH v=>have b:=v;gl<|gp 12<|sA (Gb c) rfl rfl rfl l.hA l.one fun cI bI cJ w=>have hL:=(hL.x1 bH.f Al).x1 bI.f Al;have c:=w;gl<|gD ⟨(g,j),⟨rfl,rfl,rfl,rfl,rfl⟩,f.g,Ac,Ac,Ac,(Gb b),c,AE⟩
    exact sA (Gb b) rfl rfl rfl o.hA o.one fun cK bJ cL v=>have b:=v;gl<|gp 8<|lA (I.fr f.g Al) J rfl<|gl<|gp 12<|sA (Gb c) rfl rfl rfl l.hA l.one fun cM bK cN w=>have hL:=(hL.x1 bJ.f Al).x1 bK.f Al;have c:=w;gl<|gD ⟨(g,j),⟨rfl,rfl,rfl,rfl,rfl⟩,f.g,Ac,Ac,Ac,(Gb b),c,AE⟩
   refine⟨_,rfl,?_⟩
   refine al F.z31 rfl fun j cO bL B L c=>have hL:=(hL.xn B).x0 bL.f;gn q.g<|gQ 8 9 ?_ ?_
   ·exact lA (I.fr f.g Al) J rfl<|gn q.g<|gp 9<|al F.z31 rfl fun g cP bM A K b=>gn q.g<|gp 11<|sA b rfl rfl rfl o.hA o.one fun cQ bO cR v=>have b:=v;gl<|gp 12<|sA (Gb c) rfl rfl rfl l.hA l.one fun cS bP cT w=>have hL:=(((hL.xn A).x0 bM.f).x1 bO.f Al).x1 bP.f Al;have c:=w;gl<|gD ⟨(g,j),⟨rfl,rfl,rfl,rfl,rfl⟩,f.g,Ac,Ac,Ac,(Gb b),c,AE⟩
   refine al F.z31 rfl fun g cU bQ A K b=>have hL:=(hL.xn A).x0 bQ.f;gn q.g<|gQ 8 11 ?_ ?_
   ·exact lA (I.fr f.g Al) J rfl<|gn q.g<|gp 11<|sA b rfl rfl rfl o.hA o.one fun cV bR cW v=>have b:=v;gl<|gp 12<|sA (Gb c) rfl rfl rfl l.hA l.one fun cZ bS da w=>have hL:=(hL.x1 bR.f Al).x1 bS.f Al;have c:=w;gl<|gD ⟨(g,j),⟨rfl,rfl,rfl,rfl,rfl⟩,f.g,Ac,Ac,Ac,(Gb b),c,AE⟩
   exact sA b rfl rfl rfl o.hA o.one fun db bT dc v=>have b:=v;gl<|gp 8<|lA (I.fr f.g Al) J rfl<|gl<|gp 12<|sA (Gb c) rfl rfl rfl l.hA l.one fun dd bU de c=>have hL:=(hL.x1 bT.f Al).x1 bU.f Al;gl<|gD ⟨(g,j),⟨rfl,rfl,rfl,rfl,rfl⟩,f.g,Ac,Ac,Ac,(Gb b),c,AE⟩
  clear f hL
  rintro⟨g,j⟩ az bV ⟨f,A,B,df,b,c,hL⟩
  have ae:=f.size;have K:=hC b;have L:=hC c
  have aN:∀x∈[j,g],y.heap.size≤x:=Aj
  refine DC.lG (σ:=Array Value) (fun C=>[(0,.slice (some ⟨a0,a1,none⟩) Q.length r),(3,u),(4,.int .i64 ((2*i:Nat):Int)),(5,Pt g),(6,Pt j)]) (fun C p=>Fr [] y p∧p.heap[g]? =some (.cells C 31 (0,0))∧p.heap[j]? =some (.cells (ad (2*i+1)) 31 (0,0))∧RN p (AX (XB (XO z u) [j,g]) p) 0 R C∧NL p 0 31 12 y.heap.size (XB z [j,g]) (P.take (2*i)) u H) ?_ ?_
  ·cases aK with
   | @text s E dg ps ag hs=>
    obtain⟨ah,aj,ak,am,an,ao,ap,aq,ar,av,O,aw,ax,ay,a3⟩:=o.hI
    rw[a3]at b o
    obtain⟨dh,di,bW,dj,bX,dk⟩:=o.name (i:=0) Al
    cases bW
    refine ac 3<|lD b rfl rfl<|DL.y rfl rfl (Y.rG (c:=true) rfl rfl Al)<|au 2<|lD b rfl rfl<|DL.y rfl rfl (Y.rG (c:=true) rfl rfl Al)<|au 3<|lD b rfl rfl<|au 1<|DL.y rfl rfl (Y.E1 (c:=true) rfl rfl Al)<|au 5<|lD b rfl rfl<|iX F.ku Al rfl rfl rfl<|lC (f.cell bX Al) rfl<|cX (rM _ _) ?_
    rintro _ dl bY dm rfl
    refine cX (l6 _ _ _ _ _ _ Au _) ?_
    rintro _ aO bZ dn rfl
    have U:=(RN.leaf (w:=aO) (D:=fun _=>False) (k:=4) (h:=0) (t:=s) Ah Ah Ac).mono (D':=AX (XB (XO z u) [j,g]) aO) (fun r h=>h.elim)
    exact sA (cs:=#[.string Cr,Zs,.int .i64 4,Zi,.string s,Zl,Zl,Zl,Zl,Zl,Zl,Zl]) (Gb b) rfl rfl rfl U.hA U.one fun dp aP dq b=>have hL:=((hL.x0 bY.f).x0 bZ.f).x1 aP.f Al;have U:=U.x1 aP.f Al;au 1 ⟨_,⟨rfl,rfl,rfl,rfl,rfl⟩,f.g,b,(Gb c),U,hL⟩
   | @mP a2 hk=>
    obtain⟨aQ,ca,aR,a4,ks,ps,ag⟩:=R
    obtain⟨ah,aj,ak,am,an,ao,ap,aq,ar,av,O,aw,ax,ay,a3⟩:=o.hI
    rw[a3]at b o
    refine ac 2<|DL.cut 14 [(23,36)] 36 (.bool false) (fun cb=>cb=bV) rfl ?_ ?_
    ·refine au 1<|lD b rfl rfl<|jS rfl rfl (fun W=>?_) (fun W=>?_)
     ·refine au 2<|lD b rfl rfl<|jS rfl rfl (fun X=>?_) (fun X=>?_)
      ·refine au 3<|lD b rfl rfl<|au 1<|jE rfl rfl (fun cc=>?_) (fun cc=>?_)
       ·exact au 1<|DL.nil ⟨by(first|rfl|exact Tu ⟨W,X,(show ks=[]from Tn Ac)⟩ hk),rfl⟩
       exact au 1<|DL.nil ⟨by(first|rfl|exact Tu ⟨W,X,(show ks=[]from Tn Ac)⟩ hk),rfl⟩
      exact au 7<|DL.nil ⟨by(first|rfl|exact Tu ⟨W,X,(show ks=[]from Tn Ac)⟩ hk),rfl⟩
     exact au 11<|DL.nil ⟨by(first|rfl|exact Tu ⟨W,X,(show ks=[]from Tn Ac)⟩ hk),rfl⟩
    rintro bt _ cd;obtain rfl:=cd.symm
    exact au 3 ⟨_,⟨rfl,rfl,rfl,rfl,rfl⟩,f,b,c,(o.Ir f aN hL.ow),hL⟩
  clear f b c hL
  rintro C az dr ⟨f,b,c,k,hL⟩
  have ae:=f.size;have K:=hC b;have L:=hC c
  refine DC.lG (σ:=Array Value×Array Value) (fun(C,Z)=>[(0,.slice (some ⟨a0,a1,none⟩) Q.length r),(3,u),(4,.int .i64 ((2*i:Nat):Int)),(5,Pt g),(6,Pt j)]) (fun(C,Z) p=>Fr [] y p∧p.heap[g]? =some (.cells C 31 (0,0))∧p.heap[j]? =some (.cells Z 31 (0,0))∧RN p (AX (XB (XO z u) [j,g]) p) 0 b2 C∧RN p (AX (XB (XO z u) [j,g]) p) 0 O Z∧NL p 0 31 12 y.heap.size (XB z [j,g]) (P.take (2*i)) u H) ?_ ?_
  ·cases af with
   | @v R E h=>
    obtain⟨aS,aT,aU,aV,aW,aX,aY⟩:=E
    obtain⟨aZ,ba,bb,bc,bd,be,bf,bg,bh,bi,bj,bk,bl,bm,aa⟩:=l.hI
    rw[aa]at c l
    exact ac 3<|lD c rfl rfl<|sX h rfl rfl<|au 3 ⟨(_,_),⟨rfl,rfl,rfl,rfl,rfl⟩,f,b,c,k,(l.Ir f aN hL.ow),hL⟩
   | @d s aR a4 ks ps ag E hs h=>
    obtain⟨aS,aT,aU,aV,aW,aX,aY⟩:=E
    obtain⟨aZ,ba,bb,bc,bd,be,bf,bg,bh,bi,bj,bk,bl,bm,aa⟩:=l.hI
    rw[aa]at c l
    obtain⟨ah,aj,ak,am,an,ao,ap,aq,ar,av,O,aw,ax,ay,rfl⟩:=k.hI
    refine ac 3<|lD c rfl rfl<|sT h rfl rfl<|au 5<|lD b rfl rfl<|au 4<|DL.y rfl rfl (Y.rG (c:=true) rfl rfl Al)<|au 3<|dR [] 5 fun ds a5 dt q=>have du:=a5.size;have k:=k.x0 a5.f;aG [0]<|gL 1 (Gb b) rfl rfl rfl<|gT 4 rfl (fun S T=>Y.jl rfl (T.il (Gb b)) (by rw[k.hA];exact F.hN))<|gp 2<|cX (rM _ _) ?_
    rintro _ dv bn dw rfl
    refine gn q.g<|gp 3<|cX (l6 _ _ _ _ _ _ Au _) ?_
    rintro _ bo bp dx rfl
    have k:=(k.x0 bn.f).x0 bp.f
    have ab:=(RN.leaf (w:=bo) (D:=fun _=>False) (k:=4) (h:=0) (t:=s) Ah Ah Ac).mono (D':=AX (XB (XO z u) [j,g]) bo) (fun r h=>h.elim)
    exact gn q.g<|gp 5<|sA (cs:=#[.string Cr,Zs,.int .i64 4,Zi,.string s,Zl,Zl,Zl,Zl,Zl,Zl,Zl]) (Gb b) rfl rfl k.hA ab.hA ab.one fun dy a6 dz b=>have k:=k.x1 a6.f Al;gl<|gp 6<|sA (cs:=#[.string Cx,.string s,ar,av,O,aw,ax,ay,.slice ah ks.length aj,.slice ak a4.length am,.slice an ps.length ao,.slice ap ag.length aq]) (Gb c) rfl rfl rfl k.hA k.one fun d0 a7 d1 w=>have hL:=((((hL.x0 a5.f).x0 bn.f).x0 bp.f).x1 a6.f Al).x1 a7.f Al;have k:=k.x1 a7.f Al;have ab:=(ab.x1 a6.f Al).x1 a7.f Al;have c:=w;gl<|gD ⟨(_,_),⟨rfl,rfl,rfl,rfl,rfl⟩,f.g,(Gb b),c,ab,k,hL⟩
   | @n R E h hk hs=>
    obtain⟨aS,aT,aU,aV,aW,aX,aY⟩:=E
    obtain⟨aZ,ba,bb,bc,bd,be,bf,bg,bh,bi,bj,bk,bl,bm,aa⟩:=l.hI
    rw[aa]at c l
    obtain⟨aQ,ca,aR,a4,ks,ps,ag⟩:=R
    obtain⟨ah,aj,ak,am,an,ao,ap,aq,ar,av,O,aw,ax,ay,rfl⟩:=k.hI
    refine ac 3<|lD c rfl rfl<|sT h rfl rfl<|au 5<|lD b rfl rfl<|au 2<|DC.pH rfl rfl (Ti hk)<|dR [] 3 fun d2 a8 d4 q=>have d5:=a8.size;have k:=k.x0 a8.f;gT 1 rfl (fun S T=>Y.jl rfl (T.il (Gb b)) (by rw[k.hA];exact F.hN))<|gp 0<|cX (tW _) ?_
    rintro _ a9 bq d6 rfl
    have k:=k.x0 bq.f
    have ce:=RN.jw (w:=a9) (D:=AX (XB (XO z u) [j,g]) a9) (op:=CE) (text:=⟨#[]⟩) Ah Ap
    refine gn q.g<|gp 2 ?_
    have cf:=XB.IB (l:=[j,g]) (n:=a9.heap.size) bu Ac Aj
    refine cX (o5 (fun r h=>h.1) ce k hs) ?_
    rintro _ cg aA d7 ⟨d8,rfl,M⟩
    have M:=M.mono (D':=AX (XB (XO z u) [j,g]) cg) (fun r h=>Or.elim h (fun h=>⟨Tj h.1 aA.size,h.2⟩) (fun h=>⟨h.2,fun hx=>by have:=cf r hx;have:=h.1;omega⟩))
    exact gn q.g<|gp 3<|sA (Gb c) rfl rfl rfl M.hA M.one fun d9 aB dA c=>have hL:=(((hL.x0 a8.f).x0 bq.f).x0 aA.f).x1 aB.f Al;have k:=(k.x0 aA.f).x1 aB.f Al;have M:=M.x1 aB.f Al;gl<|gD ⟨(_,_),⟨rfl,rfl,rfl,rfl,rfl⟩,f.g,(Gb b),c,k,M,hL⟩
  clear f b c hL k
  rintro⟨C,Z⟩ az dB ⟨f,b,c,k,G,hL⟩
  have ae:=f.size;have K:=hC b;have L:=hC c
  exact ac 2<|lw b rfl k.hA<|lw c rfl G.hA<|bN (css:=[C,Z]) F.ic rfl rfl (by intro r hc;simp only[Tr,Tp,TD]at hc;rcases hc with rfl|rfl;exact k.hA;exact G.hA) fun dC dD aC dE dF ch=>have hL:=hL.x0 aC.f;have k:=k.x0 aC.f;have G:=G.x0 aC.f;DL.hJ rfl rfl F.ic rfl rfl hL.nc.own (hB.hE ch) (hW (sz:=12) (m:=2) (by intro r hc;simp only[Tr,Tp,TD]at hc;rcases hc with rfl|rfl;exact k.hA;exact G.hA) rfl) (hM (by intro r hc;simp only[Tr,Tp,TD]at hc;rcases hc with rfl|rfl;exact k.one;exact G.one)) Ac Ac Ac fun dG dH aD aE ci=>have cj:=hL.ow;have dI:=fun br ck=>hL.nc.nx (b:=br) (Tk ck);have hL:=hL.yn (XB.lt aF f.g Aj) Ac k.hA G.hA k G aD aE ci;have f:=f.g.put aD (fun x hx=>Tk (by have:=cj x hx;omega));have dJ:=aD.size;au 4<|ai ((2*(i+1):Nat):Int) rfl rfl<|au 2 ⟨(i+1,_,_),⟨f,Ac,(by rw[Ew Ac,b1,b3];exact hL.down (Y:=XB z []) (fun r h=>h.elim Ts (fun h=>by cases h)) (Tv _))⟩,(by show Q.length - 2*(i+1)<Q.length - 2*i;omega),rfl,rfl⟩
 rw[TK Ac]at hL
 exact au 3<|ac 6<|rX f ⟨_,hL.down (fun r h=>Ts h) (Tv _)⟩
theorem n3{ks ps:List N}(h:y9 vH q):l8 (.mk Cr t vH (S) (ks) ps Q) q:=by
 intro A j k l f
 obtain⟨B,C,D,E,G,H,I,J,m,o,p,r,u,v,rfl⟩:=f.hI
 refine cY Tryz.func9 fun c=>ac 2<|bX rfl fun w K L M O g=>al F.z31 rfl fun y P R T U d=>au 5<|lD (Gb g) rfl rfl<|au 11<|lA (cs:=#[m,o,p,r,u,v]) ((hB.hE (Gb g)).sub 2 yU (TM rfl)) rfl rfl<|cX (h _ (XB j [y,w]) _ (XB.lt l c.g Aj) (f.oM.xu c.g Aj)) ?_
 rintro _ W X Y ⟨Z,rfl,b⟩
 exact sA (Gb d) rfl rfl rfl b.hA b.one fun aa z ab d=>have b:=b.x1 z.f Al;au 2<|hD.hZ rfl (by rw[b.hA];exact F.hN) (hB.hE d) (hH.mk c.g ⟨_,rfl,b.xd⟩)
theorem xg{ks ps:List N}:l8 (.mk Cn t vH (S) (ks) ps Q) (.mk Cn t vH S ks ps Q):=by
 intro C D g E b
 obtain⟨j,k,m,o,p,q,r,u,v,w,y,z,A,B,rfl⟩:=b.hI
 exact cY Tryz.func9 fun c=>ac 2<|bX rfl fun G H I J K f=>al F.z31 rfl fun L M O P R d=>au 5<|lD (Gb f) rfl rfl<|au 16<|lw (Gb f) rfl b.hA<|sA (cs:=#[.string Cn,.string t,v,w,y,z,A,B,.slice j (ks).length k,.slice m (S).length o,.slice p ps.length q,.slice r Q.length u]) d rfl rfl rfl b.hA b.one fun T U W d=>au 2<|hD.hZ rfl (by rw[(b.xu (l:=[]) c.g (by intro x hx;cases hx)).hA];exact F.hN) (hB.hE d) (hH.mk c.g ⟨_,rfl,(b.xu (l:=[]) c.g (by intro x hx;cases hx)).xd⟩)
theorem Hz{ps:List N}{s:ByteArray}(hs:s.size≤1048576):l8 (.mk Cp ⟨#[]⟩ vH (s::S) ([]) ps Q) (jk s):=by
 intro l m o w f
 obtain⟨y,z,A,B,C,E,G,H,I,J,K,L,M,O,rfl⟩:=f.hI
 obtain⟨P,R,p,T,q,U⟩:=f.name (i:=0) Al
 cases p
 refine cY Tryz.func9 fun g=>ac 2<|bX rfl fun r W X Y Z c=>al F.z31 rfl fun u aa ab ad ae d=>au 5<|lD (Gb c) rfl rfl<|au 23<|lD (Gb c) rfl rfl<|au 4<|lD (Gb c) rfl rfl<|au 7<|lD (Gb c) rfl rfl<|iX F.ku Al rfl rfl rfl<|lC (g.g.cell q Al) rfl<|cX (rM _ _) ?_
 rintro _ af ag ah rfl
 refine cX (l6 _ _ _ _ _ _ Au _) ?_
 rintro _ j ai aj rfl
 have b:=(RN.leaf (w:=j) (D:=fun _=>False) (k:=4) (h:=0) (t:=s) Ah Ah Ac).mono (D':=AX (XB m [u,r]) j) (fun ak h=>h.elim)
 exact sA (cs:=#[.string Cr,Zs,.int .i64 4,Zi,.string s,Zl,Zl,Zl,Zl,Zl,Zl,Zl]) (Gb d) rfl rfl rfl b.hA b.one fun am v an d=>have b:=b.x1 v.f Al;au 2<|hD.hZ rfl (by rw[b.hA];exact F.hN) (hB.hE d) (hH.mk g.g ⟨_,rfl,b.xd⟩)
theorem u6{ks ps:List N}(h:O8 ks P)(hl:P.length=qF.length)(I:P.length≤1048576)(h2:∀(i:Nat)(h1:i<P.length)(h2:i<qF.length),l8 P[i] qF[i]):l8 (.mk Cm t vH (S) (ks) ps Q) (HD qF):=by
 intro y r z A J
 obtain⟨ab,ad,ae,af,ag,ah,aj,ak,am,an,ao,ap,aq,ar,rfl⟩:=J.hI
 obtain⟨K,av,aw,aK⟩:=J.mv
 refine cY Tryz.func9 fun c=>ac 2<|bX rfl fun j aL aM aN ax g=>al F.z31 rfl fun k aO aP aQ ay f=>au 5<|lD (Gb g) rfl rfl<|au 28<|cX (jA _ _ _ _ _) ?_
 rintro _ L aR aS rfl
 have v:=RN.jw (w:=L) (D:=AX (XB r [k,j]) L) (op:=Cm) (text:=⟨#[]⟩) Ah Ap
 refine al F.z31 rfl fun l aT az a0 a1 b=>have v:=(v.xn a0).x0 az.f;sA (cs:=#[.string Cm,Zs,Zi,Zi,Zs,Zl,Zl,Zl,Zl,Zl,Zl,Zl]) b rfl rfl rfl v.hA v.one fun aU aV aW b=>au 4<|lD (Gb g) rfl rfl<|cX (h _ (XB r [l,k,j]) _ _ _ (XB.lt A c.g Aj) (av.xu c.g Aj) (fun i hi=>(aw i hi).xu c.g Aj)) ?_
 rintro aX B aY aZ ⟨ba,a2⟩
 have d:=a2.rw Ah Ac
 obtain⟨M,O,rfl⟩:=d.shape
 refine au 8<|lE [] y (σ:=Nat×Value×List (Array Value)) [(5,5),(46,61)] [(1,Pt j),(2,Pt k),(3,Pt l),(4,.slice M P.length O)] (fun(i,_)=>[(5,.int .i64 (i:Int))]) (fun(i,w,C) u=>B.heap.size≤u.heap.size∧i≤P.length∧u.heap[j]? =some (.cells #[.string Cm,.string t,am,an,ao,ap,aq,ar,.slice ab ks.length ad,.slice ae S.length af,.slice ag ps.length ah,.slice aj Q.length ak] 31 (0,0))∧u.heap[k]? =some (.cells #[Zs,Zs,Zi,Zi,Zs,Zl,Zl,Zl,Zl,Zl,Zl,Zl] 31 (0,0))∧u.heap[l]? =some (.cells #[.string Cm,Zs,Zi,Zi,Zs,Zl,Zl,Zl,w,Zl,Zl,Zl] 31 (0,0))∧Rw u (AX (XB r [l,k,j]) B) 0 12 P (.slice M P.length O)∧NL u 0 31 12 B.heap.size (XB r [l,k,j]) (qF.take i) w C) (fun(i,_)=>P.length - i) ((0,Zl,[])) ?_ ?_
 ·exact⟨c.g,Ac,TE _,(Gb g),(Gb f),(Gb b),d,NL.nil _ _ _ _ _ _⟩
 clear c g f v b d
 rintro bb ⟨i,w,C⟩ bc R ⟨c,bd,be,g,f,b,d,hL⟩
 have a3:=c.size
 have ax:=hC g
 have ay:=hC f
 have a1:=hC b
 have a4:=XO.lt hL A a3
 have bf:(qF.take i).length=i:=by rw[Ud];omega
 refine ac 6<|jX rfl rfl (fun a5=>?_) (fun a5=>?_)
 ·obtain⟨bg,bh,a6⟩:=d.some Ac
  subst a6
  refine au 5<|dR [] 8 fun bi E bj T=>have bk:=E.size;have d:=d.p0 E.f;have hL:=hL.x0 E.f;aG [0]<|gL 1 (Gb b) rfl rfl rfl<|aG [2,3]<|gf 4 rfl (fun a7=>Y.index F.iI rfl rfl ((rfl:(i:Int)=(i:Int))) Ac) ?_
  obtain⟨K,a8,a9,aA,_⟩:=d.at (i:=i) Ac
  refine gT 5 rfl (fun a7 aB=>Y.iU (cs:=K) a9 F.hN rfl (a8.fr aB Al))<|gp 6<|cX (h2 i Ac Ac _ (XB (XO r w) [l,k,j]) _ (XB.IB a4 Ac Aj) (aA.QM Ac hL.ow)) ?_
  rintro _ bl U bm ⟨aC,rfl,o⟩
  refine gn T.g<|gp 7<|bN (css:=[aC]) F.ic rfl rfl (by intro W hc;simp only[Tr,Tp,TD]at hc;rcases hc with rfl;exact o.hA) fun bn bo G bp bq aD=>have hL:=(hL.x0 U.f).x0 G.f;have o:=o.x0 G.f;gn T.g<|gp 8<|DL.hJ rfl rfl F.ic rfl rfl hL.nc.own (hB.hE aD) (hW (sz:=12) (m:=1) (by intro W hc;simp only[Tr,Tp,TD]at hc;rcases hc with rfl;exact o.hA) rfl) (hM (by intro W hc;simp only[Tr,Tp,TD]at hc;rcases hc with rfl;exact o.one)) Ac Ac Ac fun aE br p aF aH=>have X:=hL.ow;have H:=fun Z I=>hL.nc.nx (b:=Z) (Tk I);have hL:=hL.kI (XB.lt A c.g Aj) Ac o.hA o p aF aH;have c:=c.g.put p (fun x hx=>Tk (by have:=X x hx;omega));have bs:=p.size;have g:=p.hO (Gb g) (H _ Al);have f:=p.hO (Gb f) (H _ Al);have b:=p.hO (Gb b) (H _ Al);gl<|aG [9]<|gp 10<|sc b rfl rfl hL.one rfl ?_
  intro aI aa bt b
  have d:=(((d.p0 U.f).p0 G.f).po p X).p1 aa.f A8
  have hL:=hL.x1 aa.f Al
  have b:aI.heap[l]? =some (.cells #[.string Cm,Zs,Zi,Zi,Zs,Zl,Zl,Zl,aE,Zl,Zl,Zl] 31 (0,0)):=b
  exact gl<|gD<|ac 2<|ai ((i+1:Nat):Int) rfl rfl<|au 2 ⟨(i+1,_,_),⟨c.g,Ac,Ac,(Gb g),(Gb f),b,d,BV⟩,(by show P.length - (i+1)<P.length - i;omega),rfl⟩
 rw[TK Ac]at hL
 refine au 3<|ac 2 ?_
 have q:=RN.nJ (w:=R) (D:=AX (XB r [l,k,j]) R) (op:=Cm) (text:=⟨#[]⟩) Ap Ap (hL.rw Ah Ac) Rs.nil Rw.nil Rw.nil
 exact lw b rfl q.hA<|sA (cs:=#[.string Cm,Zs,Zi,Zi,Zs,Zl,Zl,Zl,w,Zl,Zl,Zl]) f rfl rfl rfl q.hA q.one fun bu aJ bv f=>have q:=q.x1 aJ.f Al;au 2<|hD.hZ rfl (by rw[q.hA];exact F.hN) (hB.hE f) (hH.mk c.g ⟨_,rfl,q.xd⟩)
theorem xS{ks ps:List N}(h:Iz CI (.mk CI t vH S ks ps Q) P)(hl:P.length=qF.length)(h0:0<P.length)(aD:P.length≤1048576)(h2:∀(i:Nat)(h1:i<P.length)(h2:i<qF.length),l8 P[i] qF[i]):l8 (.mk CI t vH (S) (ks) ps Q) (yE CI qF):=by
 intro I q J v z
 obtain⟨Z,aa,ab,ad,ae,af,ag,ah,ai,aj,ak,am,an,ao,rfl⟩:=z.hI
 refine cY Tryz.func9 fun f=>ac 2<|bX rfl fun k aE aF aH ap j=>al F.z31 rfl fun l aI aJ aK aq m=>au 5<|lD (Gb j) rfl rfl<|au 37<|lw (Gb j) rfl z.hA<|au 1<|lD (Gb j) rfl rfl<|cX (h _ (XB q [l,k]) _ (XB.lt v f.g Aj) (z.xu f.g Aj)) ?_
 rintro aL A aM aN ⟨aO,ar⟩
 have c:=ar.rw Ah Ac
 obtain⟨aP,K,rfl⟩:=c.shape
 obtain⟨L,M,rfl⟩:=c.some h0
 refine au 7<|DL.y rfl rfl (Y.n8 rfl rfl (rfl) Ac Ac)<|iX F.iI Ac rfl rfl ((by omega:(P.length:Int) - 1=((P.length - 1:Nat):Int))) ?_
 obtain⟨aQ,av,aw,ax,_⟩:=c.at (i:=P.length - 1) Ac
 refine lA av aw rfl<|cX (h2 _ Ac Ac _ (XB q [l,k]) _ (XB.lt v f.g Aj) (ax.xp Ac)) ?_
 rintro _ aR ay aS ⟨az,rfl,o⟩
 refine al F.z31 rfl fun r aT O a0 a1 d=>have o:=(o.xn a0).x0 O.f;sA d rfl rfl rfl o.hA o.one fun aU R aV a2=>have c:=((c.p0 ay.f).p0 O.f).p1 R.f A8;have o:=o.x1 R.f Al;have d:=a2;au 6<|DL.y rfl rfl (Y.n8 rfl rfl (rfl) Ac Ac)<|au 3<|DC.jC (σ:=Nat×Array Value) [(8,8),(80,93)] [(1,Pt k),(2,Pt l),(7,Pt r),(6,.slice (some ⟨L,M,none⟩) P.length K)] (fun(n,_)=>[(8,.int .i64 ((n:Int) - 1))]) (fun a3 g=>Fr [] I g∧(fun(n,w) g=>A.heap.size≤g.heap.size∧A.heap.size≤r∧n<P.length∧g.heap[k]? =some (.cells #[.string CI,.string t,ai,aj,ak,am,an,ao,.slice Z ks.length aa,.slice ab S.length ad,.slice ae ps.length af,.slice ag Q.length ah] 31 (0,0))∧g.heap[l]? =some (.cells #[Zs,Zs,Zi,Zi,Zs,Zl,Zl,Zl,Zl,Zl,Zl,Zl] 31 (0,0))∧g.heap[r]? =some (.cells w 31 (0,0))∧Rw g (AX (XB q [l,k]) A) 0 12 P (.slice (some ⟨L,M,none⟩) P.length K)∧RN g (AX (XB q [r,l,k]) g) 0 (yE CI (qF.drop n)) w) a3 g) (fun(n,_)=>n) ((P.length - 1,az)) rfl ?_ ?_ ?_ ?_
 ·exact⟨rfl,rfl,rfl,rfl⟩
 ·exact BC
 ·exact⟨f.g,Ac,Ac,by show P.length - 1<_;omega,(Gb j),(Gb m),d,c,(by rw[qX _ Ac];exact o)⟩
 clear f j m c o d
 rintro aW ⟨n,w⟩ aX aY ⟨f,aZ,ba,bb,j,m,d,c,b⟩
 have bc:=f.size
 have ap:=hC j
 have aq:=hC m
 have a1:=hC d
 have bd:=b.hA
 refine ac 4<|jH rfl rfl (fun a4=>?_) (fun a4=>?_)
 ·obtain⟨p,rfl⟩:∃p,n=p+1:=⟨n - 1,Ac⟩
  refine au 5<|dR [] 10 fun be B bf C=>have bg:=B.size;have c:=c.p0 B.f;have b:=b.x0 B.f;aG [0]<|gL 1 (Gb j) rfl rfl rfl<|aG [2,3]<|gf 4 rfl (fun T=>Y.index F.iI rfl rfl ((by omega:((p+1:Nat):Int) - 1=(p:Int))) Ac) ?_
  obtain⟨a5,a6,a7,a8,_⟩:=c.at (i:=p) Ac
  refine gT 5 rfl (fun T E=>Y.iU (cs:=a5) a7 F.hN rfl (a6.fr E Al))<|gT 7 rfl (fun T E=>Y.jl rfl (E.il (Gb d)) (by rw[b.hA];exact F.hN))<|gp 6<|cX (h2 p Ac Ac _ (XB q [r,l,k]) _ (XB.lt v f.g Aj) (a8.xq Ac Ac)) ?_
  rintro _ bh U bi ⟨a9,rfl,y⟩
  have b:=b.x0 U.f
  refine gn C.g<|gp 8<|bN (css:=[a9,w]) F.ic rfl rfl (by intro bj hc;simp only[Tr,Tp,TD]at hc;rcases hc with rfl|rfl;exact y.hA;exact b.hA) fun aA bk G bl bm aB=>gn C.g<|gp 9<|cX (jA _ _ _ _ _) ?_
  rintro _ W H bn rfl
  have b:=(b.x0 G.f).x0 H.f
  have y:=(y.x0 G.f).x0 H.f
  have u:=RN.yF (w:=W) (D:=AX (XB q [r,l,k]) W) (op:=CI) (text:=⟨#[]⟩) (cap:=2) Ap Ap (Gb aB) (AX.new v Ac Ac Ax) y b Ah
  exact gn C.g<|gp 10<|sA (cs:=#[.string CI,Zs,Zi,Zi,Zs,Zl,Zl,Zl,.slice (some ⟨aA,0,none⟩) 2 2,Zl,Zl,Zl]) (Gb d) rfl rfl b.hA u.hA u.one fun bo X bp d=>have c:=(((c.p0 U.f).p0 G.f).p0 H.f).p1 X.f A8;have u:=u.x1 X.f Al;gl<|gD<|ac 2<|si (((p:Nat):Int) - 1) rfl rfl<|au 2 ⟨(p,_),⟨f.g,Ac,Ac,Ac,(Gb j),(Gb m),d,c,(by rw[rf _ Ac];exact u)⟩,TY _,rfl⟩
 obtain rfl:n=0:=by omega
 exact au 3<|ac 2<|lw d rfl b.hA<|sA m rfl rfl rfl b.hA b.one fun bq aC br m=>have b:=b.x1 aC.f Al;au 2<|hD.hZ rfl (by rw[b.hA];exact F.hN) (hB.hE m) (hH.mk f.g ⟨_,rfl,b.xd⟩)
theorem qe{ks ps:List N}(h:Iz CM (.mk CM t vH S ks ps Q) P)(hl:P.length=qF.length)(h0:0<P.length)(aD:P.length≤1048576)(h2:∀(i:Nat)(h1:i<P.length)(h2:i<qF.length),l8 P[i] qF[i]):l8 (.mk CM t vH (S) (ks) ps Q) (yE CM qF):=by
 intro I q J v z
 obtain⟨Z,aa,ab,ad,ae,af,ag,ah,ai,aj,ak,am,an,ao,rfl⟩:=z.hI
 refine cY Tryz.func9 fun f=>ac 2<|bX rfl fun k aE aF aH ap j=>al F.z31 rfl fun l aI aJ aK aq m=>au 5<|lD (Gb j) rfl rfl<|au 40<|lw (Gb j) rfl z.hA<|au 1<|lD (Gb j) rfl rfl<|cX (h _ (XB q [l,k]) _ (XB.lt v f.g Aj) (z.xu f.g Aj)) ?_
 rintro aL A aM aN ⟨aO,ar⟩
 have c:=ar.rw Ah Ac
 obtain⟨aP,K,rfl⟩:=c.shape
 obtain⟨L,M,rfl⟩:=c.some h0
 refine au 7<|DL.y rfl rfl (Y.n8 rfl rfl (rfl) Ac Ac)<|iX F.iI Ac rfl rfl ((by omega:(P.length:Int) - 1=((P.length - 1:Nat):Int))) ?_
 obtain⟨aQ,av,aw,ax,_⟩:=c.at (i:=P.length - 1) Ac
 refine lA av aw rfl<|cX (h2 _ Ac Ac _ (XB q [l,k]) _ (XB.lt v f.g Aj) (ax.xp Ac)) ?_
 rintro _ aR ay aS ⟨az,rfl,o⟩
 refine al F.z31 rfl fun r aT O a0 a1 d=>have o:=(o.xn a0).x0 O.f;sA d rfl rfl rfl o.hA o.one fun aU R aV a2=>have c:=((c.p0 ay.f).p0 O.f).p1 R.f A8;have o:=o.x1 R.f Al;have d:=a2;au 6<|DL.y rfl rfl (Y.n8 rfl rfl (rfl) Ac Ac)<|au 3<|DC.jC (σ:=Nat×Array Value) [(8,8),(80,93)] [(1,Pt k),(2,Pt l),(7,Pt r),(6,.slice (some ⟨L,M,none⟩) P.length K)] (fun(n,_)=>[(8,.int .i64 ((n:Int) - 1))]) (fun a3 g=>Fr [] I g∧(fun(n,w) g=>A.heap.size≤g.heap.size∧A.heap.size≤r∧n<P.length∧g.heap[k]? =some (.cells #[.string CM,.string t,ai,aj,ak,am,an,ao,.slice Z ks.length aa,.slice ab S.length ad,.slice ae ps.length af,.slice ag Q.length ah] 31 (0,0))∧g.heap[l]? =some (.cells #[Zs,Zs,Zi,Zi,Zs,Zl,Zl,Zl,Zl,Zl,Zl,Zl] 31 (0,0))∧g.heap[r]? =some (.cells w 31 (0,0))∧Rw g (AX (XB q [l,k]) A) 0 12 P (.slice (some ⟨L,M,none⟩) P.length K)∧RN g (AX (XB q [r,l,k]) g) 0 (yE CM (qF.drop n)) w) a3 g) (fun(n,_)=>n) ((P.length - 1,az)) rfl ?_ ?_ ?_ ?_
 ·exact⟨rfl,rfl,rfl,rfl⟩
 ·exact BC
 ·exact⟨f.g,Ac,Ac,by show P.length - 1<_;omega,(Gb j),(Gb m),d,c,(by rw[qX _ Ac];exact o)⟩
 clear f j m c o d
 rintro aW ⟨n,w⟩ aX aY ⟨f,aZ,ba,bb,j,m,d,c,b⟩
 have bc:=f.size
 have ap:=hC j
 have aq:=hC m
 have a1:=hC d
 have bd:=b.hA
 refine ac 4<|jH rfl rfl (fun a4=>?_) (fun a4=>?_)
 ·obtain⟨p,rfl⟩:∃p,n=p+1:=⟨n - 1,Ac⟩
  refine au 5<|dR [] 10 fun be B bf C=>have bg:=B.size;have c:=c.p0 B.f;have b:=b.x0 B.f;aG [0]<|gL 1 (Gb j) rfl rfl rfl<|aG [2,3]<|gf 4 rfl (fun T=>Y.index F.iI rfl rfl ((by omega:((p+1:Nat):Int) - 1=(p:Int))) Ac) ?_
  obtain⟨a5,a6,a7,a8,_⟩:=c.at (i:=p) Ac
  refine gT 5 rfl (fun T E=>Y.iU (cs:=a5) a7 F.hN rfl (a6.fr E Al))<|gT 7 rfl (fun T E=>Y.jl rfl (E.il (Gb d)) (by rw[b.hA];exact F.hN))<|gp 6<|cX (h2 p Ac Ac _ (XB q [r,l,k]) _ (XB.lt v f.g Aj) (a8.xq Ac Ac)) ?_
  rintro _ bh U bi ⟨a9,rfl,y⟩
  have b:=b.x0 U.f
  refine gn C.g<|gp 8<|bN (css:=[a9,w]) F.ic rfl rfl (by intro bj hc;simp only[Tr,Tp,TD]at hc;rcases hc with rfl|rfl;exact y.hA;exact b.hA) fun aA bk G bl bm aB=>gn C.g<|gp 9<|cX (jA _ _ _ _ _) ?_
  rintro _ W H bn rfl
  have b:=(b.x0 G.f).x0 H.f
  have y:=(y.x0 G.f).x0 H.f
  have u:=RN.yF (w:=W) (D:=AX (XB q [r,l,k]) W) (op:=CM) (text:=⟨#[]⟩) (cap:=2) Ap Ap (Gb aB) (AX.new v Ac Ac Ax) y b Ah
  exact gn C.g<|gp 10<|sA (cs:=#[.string CM,Zs,Zi,Zi,Zs,Zl,Zl,Zl,.slice (some ⟨aA,0,none⟩) 2 2,Zl,Zl,Zl]) (Gb d) rfl rfl b.hA u.hA u.one fun bo X bp d=>have c:=(((c.p0 U.f).p0 G.f).p0 H.f).p1 X.f A8;have u:=u.x1 X.f Al;gl<|gD<|ac 2<|si (((p:Nat):Int) - 1) rfl rfl<|au 2 ⟨(p,_),⟨f.g,Ac,Ac,Ac,(Gb j),(Gb m),d,c,(by rw[rf _ Ac];exact u)⟩,TY _,rfl⟩
 obtain rfl:n=0:=by omega
 exact au 3<|ac 2<|lw d rfl b.hA<|sA m rfl rfl rfl b.hA b.one fun bq aC br m=>have b:=b.x1 aC.f Al;au 2<|hD.hZ rfl (by rw[b.hA];exact F.hN) (hB.hE m) (hH.mk f.g ⟨_,rfl,b.xd⟩)
theorem sv{ks ps:List N}{ms dm:List N}(v:t≠Cr∧t≠Cn∧t≠Cm∧t≠CI∧t≠CM)(ht:t≠Cp∨t=Cp∧¬(sB=⟨#[]⟩∧ks=[]))(c1:ks.length=ms.length)(c2:ks.length≤1048576)(h:∀(i:Nat)(h1:i<ks.length)(h2:i<ms.length),l8 ks[i] ms[i])(a7:Q.length=dm.length)(c3:Q.length≤1048576)(b9:∀(i:Nat)(h1:i<Q.length)(h2:i<dm.length),DE Q[i] dm[i])(bA:Mg t ms dm P qF):l8 (.mk t sB vH S ks ps Q) (.mk t sB V0 S P ps qF):=by
 intro aa B G ab ao
 obtain⟨ap,aq,o,p,q,r,ar,av,aw,H,ax,ay,az,a0,rfl⟩:=ao.hI
 refine cY Tryz.func9 fun d=>ac 2<|bX rfl fun k c4 c5 c6 a1 c=>al F.z31 rfl fun m bB c7 c8 a2 f=>au 1<|DC.lG (σ:=Unit) (fun _=>[(1,Pt k),(2,Pt m)]) (fun _ g=>Fr [] aa g∧g.heap[k]? =some (.cells #[.string t,.string sB,aw,H,ax,ay,az,a0,.slice ap ks.length aq,.slice o S.length p,.slice q ps.length r,.slice ar Q.length av] 31 (0,0))∧g.heap[m]? =some (.cells #[Zs,Zs,Zi,Zi,Zs,Zl,Zl,Zl,Zl,Zl,Zl,Zl] 31 (0,0))) ?_ ?_
 ·cases ht with
  |inl ht=>
   exact ac 3<|lD (Gb c) rfl rfl<|au 2<|DC.pH rfl rfl (Ti v.1)<|DC.pH rfl rfl (Ti v.2.1)<|DC.pH rfl rfl (Ti ht)<|DC.pH rfl rfl (Ti v.2.2.1)<|ac 1<|DC.pH rfl rfl (Ti v.2.2.2.1)<|ac 1<|sX v.2.2.2.2 rfl rfl<|au 4 ⟨(),⟨rfl,rfl⟩,d.g,(Gb c),f⟩
  |inr ht=>
   obtain⟨rfl,ht⟩:=ht
   refine ac 3<|lD (Gb c) rfl rfl<|au 2<|DC.pH rfl rfl (Ti v.1)<|DC.pH rfl rfl (Ti v.2.1)<|ac 2<|DL.y rfl rfl (Y.rG (c:=true) rfl rfl Al)<|au 5<|DL.cut 9 [(25,33)] 33 (.bool false) (fun bC=>bC=bB) rfl ?_ ?_
   ·refine au 1<|lD (Gb c) rfl rfl<|au 1<|jE rfl rfl (fun bE=>?_) (fun bE=>?_)
    ·refine au 2<|lD (Gb c) rfl rfl<|jS rfl rfl (fun a3=>?_) (fun a3=>?_)
     ·exact au 1<|DL.nil ⟨by(first|rfl|exact Tu ⟨a3,(show ks=[]from Tn Ac)⟩ ht),rfl⟩
     exact au 1<|DL.nil ⟨by(first|rfl|exact Tu ⟨a3,(show ks=[]from Tn Ac)⟩ ht),rfl⟩
    exact au 5<|DL.nil ⟨by(first|rfl|exact Tu ⟨a3,(show ks=[]from Tn Ac)⟩ ht),rfl⟩
   rintro aX _ bF;obtain rfl:=bF.symm
   exact au 3 ⟨(),⟨rfl,rfl⟩,d.g,(Gb c),f⟩
 clear d c f
 rintro _ a8 c9 ⟨d,c,f⟩
 have ad:=d.size;have a1:=hC c;have a2:=hC f
 refine ac 3<|lD c rfl rfl<|au 1<|lD c rfl rfl<|au 1<|lD c rfl rfl<|au 1<|lD c rfl rfl<|bD #[.string t,.string sB,Zi,Zi,Zs,Zl,Zl,Zl,Zl,.slice o S.length p,.slice q ps.length r,Zl]<|al F.z31 rfl fun j cA cB cC a9 b=>sA (cs:=#[.string t,.string sB,Zi,Zi,Zs,Zl,Zl,Zl,Zl,.slice o S.length p,.slice q ps.length r,Zl]) b rfl rfl rfl rfl Au fun cD cE cF b=>au 7<|lE [] aa (σ:=Nat×Value×List (Array Value)) [(10,10),(104,121)] [(1,Pt k),(2,Pt m),(9,Pt j)] (fun(i,_)=>[(10,.int .i64 (i:Int))]) (fun(i,I,a4) g=>i≤ks.length∧g.heap[k]? =some (.cells #[.string t,.string sB,aw,H,ax,ay,az,a0,.slice ap ks.length aq,.slice o S.length p,.slice q ps.length r,.slice ar Q.length av] 31 (0,0))∧g.heap[m]? =some (.cells #[Zs,Zs,Zi,Zi,Zs,Zl,Zl,Zl,Zl,Zl,Zl,Zl] 31 (0,0))∧g.heap[j]? =some (.cells #[.string t,.string sB,Zi,Zi,Zs,Zl,Zl,Zl,I,.slice o S.length p,.slice q ps.length r,Zl] 31 (0,0))∧NL g 0 31 12 aa.heap.size (XB B [j,m,k]) (ms.take i) I a4) (fun(i,_)=>ks.length - i) ((0,Zl,[])) ?_ ?_
 ·exact⟨d.g,TE _,(Gb c),(Gb f),b,NL.nil _ _ _ _ _ _⟩
 clear d c f b
 rintro a8 ⟨i,I,a4⟩ aX aA ⟨d,bG,c,f,b,hL⟩
 have ad:=d.size
 have a1:=hC c
 have a2:=hC f
 have a9:=hC b
 have aB:=XO.lt hL ab ad
 have bH:(ms.take i).length=i:=by rw[Ud];omega
 refine ac 5<|lD c rfl rfl<|au 1<|jX rfl rfl (fun bI=>?_) (fun bI=>?_)
 ·obtain⟨cG,cH,aC,bJ,cI,y,aD,bK⟩:=ao.kF (i:=i) Ac
  cases bJ
  refine au 5<|dR [] 9 fun cJ aY cK M=>have cL:=aY.size;have hL:=hL.x0 aY.f;aG [0]<|gL 1 (Gb b) rfl rfl rfl<|aG [2]<|gL 3 (Gb c) rfl rfl rfl<|aG [4]<|gf 5 rfl (fun ae=>Y.index F.iI rfl rfl ((rfl:(i:Int)=(i:Int))) Ac)<|gT 6 rfl (fun ae af=>Y.iU (cs:=aC) aD F.hN rfl ((y.fr d.g Al).fr af Al))<|gp 7<|cX (h i Ac Ac _ (XB (XO B I) [j,m,k]) _ (XB.IB aB Ac Aj) (bK.Ir d.g Aj hL.ow)) ?_
  rintro _ cM bL cN ⟨bM,rfl,J⟩
  refine gn M.g<|gp 8<|bN (css:=[bM]) F.ic rfl rfl (by intro D hc;simp only[Tr,Tp,TD]at hc;rcases hc with rfl;exact J.hA) fun cO cP aZ cQ cR bO=>have hL:=(hL.x0 bL.f).x0 aZ.f;have J:=J.x0 aZ.f;gn M.g<|gp 9<|DL.hJ rfl rfl F.ic rfl rfl hL.nc.own (hB.hE bO) (hW (sz:=12) (m:=1) (by intro D hc;simp only[Tr,Tp,TD]at hc;rcases hc with rfl;exact J.hA) rfl) (hM (by intro D hc;simp only[Tr,Tp,TD]at hc;rcases hc with rfl;exact J.one)) Ac Ac Ac fun bP cS O v ag=>have C:=hL.ow;have z:=fun w A=>hL.nc.nx (b:=w) (Tk A);have hL:=hL.kI (XB.lt ab d.g Aj) Ac J.hA J O v ag;have d:=d.g.put O (fun x hx=>Tk (by have:=C x hx;omega));have cT:=O.size;have c:=O.hO (Gb c) (z _ Al);have f:=O.hO (Gb f) (z _ Al);have b:=O.hO (Gb b) (z _ Al);gl<|aG [10]<|gp 11<|sc b rfl rfl hL.one rfl ?_
  intro bQ bR cU b
  have hL:=hL.x1 bR.f Al
  have b:bQ.heap[j]? =some (.cells #[.string t,.string sB,Zi,Zi,Zs,Zl,Zl,Zl,bP,.slice o S.length p,.slice q ps.length r,Zl] 31 (0,0)):=b
  exact gl<|gD<|ac 2<|ai ((i+1:Nat):Int) rfl rfl<|au 2 ⟨(i+1,_,_),⟨d.g,Ac,(Gb c),(Gb f),b,BV⟩,Bi,rfl⟩
 rw[TK Ac]at hL
 refine au 3<|ac 6<|lE [] aa (σ:=Nat×Value×List (Array Value)) [(11,12),(122,146)] [(1,Pt k),(2,Pt m),(9,Pt j)] (fun(i,_)=>[(11,.int .i64 (i:Int))]) (fun(i,ah,ba) g=>aA.heap.size≤g.heap.size∧i≤Q.length∧g.heap[k]? =some (.cells #[.string t,.string sB,aw,H,ax,ay,az,a0,.slice ap ks.length aq,.slice o S.length p,.slice q ps.length r,.slice ar Q.length av] 31 (0,0))∧g.heap[m]? =some (.cells #[Zs,Zs,Zi,Zi,Zs,Zl,Zl,Zl,Zl,Zl,Zl,Zl] 31 (0,0))∧g.heap[j]? =some (.cells #[.string t,.string sB,Zi,Zi,Zs,Zl,Zl,Zl,I,.slice o S.length p,.slice q ps.length r,ah] 31 (0,0))∧Rw g (AX (XB B [j,m,k]) aA) 0 12 ms I∧NL g 2 61 14 aA.heap.size (XB B [j,m,k]) (dm.take i) ah ba) (fun(i,_)=>Q.length - i) ((0,Zl,[])) ?_ ?_
 ·exact⟨d,Ac,TE _,c,f,b,hL.rw Ah Ac,NL.nil _ _ _ _ _ _⟩
 clear d c f b hL
 rintro a8 ⟨i,ah,ba⟩ aX cV ⟨d,cW,bG,c,f,b,u,hL⟩
 have ad:=d.size
 have a1:=hC c
 have a2:=hC f
 have a9:=hC b
 have aB:=XO.lt hL ab ad
 have bH:(dm.take i).length=i:=by rw[Ud];omega
 refine ac 5<|lD c rfl rfl<|au 1<|jX rfl rfl (fun bS=>?_) (fun bS=>?_)
 ·obtain⟨cZ,da,db,bT,dc,bU,dd,a6⟩:=ao.NJ (i:=i) Ac
  cases bT
  have aE:=b9 i Ac Ac
  generalize Q[i]=de at a6 aE
  generalize bV:dm[i]=df at aE
  obtain⟨R,T,dg,U,W,aF,aH,aI,aJ,aK,aL,aM,aN,aO,aP,aQ,aR,⟨dh,H,bb,di,rfl⟩,rfl,bW,bY,bZ⟩:=a6.LY
  obtain @⟨_,_,_,_,_,ca,_,_,cb⟩:=aE
  refine au 8<|lD c rfl rfl<|au 1<|iX F.s9 Ac rfl rfl ((rfl:(i:Int)=(i:Int)))<|lA (cs:=#[.string R,.slice U T.length W,aF,aH,aI,aJ,aK,aL,aM,aN,aO,aP,aQ,aR]) (bU.fr d Al) rfl rfl<|al F.NT rfl fun bc dj bd cc dk aj=>sA (cs:=#[.string R,.slice U T.length W,aF,aH,aI,aJ,aK,aL,aM,aN,aO,aP,aQ,aR]) aj rfl rfl rfl a6.nR a6.one fun dl be dn aj=>au 1<|dR [] 11 fun dp aS dq M=>have dr:=aS.size;have hL:=(((hL.xn cc).x0 bd.f).x1 be.f Al).x0 aS.f;aG [0]<|gL 1 (Gb b) rfl rfl rfl<|aG [2]<|gL 3 (Gb aj) rfl rfl rfl<|aG [4]<|gL 5 (Gb aj) rfl rfl rfl<|aG [6]<|gT 7 rfl (fun ae af=>Y.iU (cs:=#[aF,aH,aI,aJ,aK,aL,aM,aN,aO,aP,aQ,aR]) rfl F.hN rfl (((hB.hE (Gb aj)).sub 2 xQ (Tv _)).fr af Al))<|gp 8<|cX (cb _ (XB (XO B ah) [bc,j,m,k]) _ (XB.IB aB Ac Aj) (bY.Ir d.g Aj (fun w A=>by have:=hL.ow w A;omega))) ?_
  rintro _ bf bg ds ⟨dt,rfl,bh⟩
  have u:=(((u.p0 bd.f).p1 be.f A8).p0 aS.f).p0 bg.f
  have hL:=hL.x0 bg.f
  obtain⟨bi,bj,bk,bl,bm,bn,bo,bp,bq,br,bs,bt,rfl⟩:=bh.wq
  refine gn M.g ?_
  have X:=bZ bf (AX (XB (XO B ah) [bc,j,m,k]) bf) ca _ _ _ _ _ _ _ _ _ _ _ _ (bW.Ir d.g Aj (fun w A=>by have:=hL.ow w A;omega)) bh
  refine gf 9 rfl (fun ae=>Y.build (cs:=#[.string R,.slice U T.length W,bi,bj,bk,bl,bm,bn,bo,bp,bq,br,bs,bt]) Au)<|gp 10<|bN (css:=[#[.string R,.slice U T.length W,bi,bj,bk,bl,bm,bn,bo,bp,bq,br,bs,bt]]) F.wh rfl rfl (by intro D hc;simp only[Tr,Tp,TD]at hc;rcases hc with rfl;exact X.nR) fun du dv aT dw dx cd=>have hL:=hL.x0 aT.f;have X:=X.x0 aT.f;gn M.g<|gp 11<|DL.hJ rfl rfl F.wh rfl rfl hL.nc.own (hB.hE cd) (hW (sz:=14) (m:=1) (by intro D hc;simp only[Tr,Tp,TD]at hc;rcases hc with rfl;exact X.nR) rfl) (hM Aq) Ac Ac Ac fun ce dy K v ag=>have C:=hL.ow;have z:=fun w A=>hL.nc.nx (b:=w) (Tk A);have hL:=hL.kI (XB.lt ab d.g Aj) Ac X.nR X K v ag;have d:=d.g.put K (fun x hx=>Tk (by have:=C x hx;omega));have dz:=K.size;have c:=K.hO (Gb c) (z _ Al);have f:=K.hO (Gb f) (z _ Al);have b:=K.hO (Gb b) (z _ Al);gl<|aG [12]<|gp 13<|sc b rfl rfl hL.one rfl fun cf bu d0 b=>have u:=((u.p0 aT.f).po K C).p1 bu.f A8;have hL:=hL.x1 bu.f Al;have b:cf.heap[j]? =some (.cells #[.string t,.string sB,Zi,Zi,Zs,Zl,Zl,Zl,I,.slice o S.length p,.slice q ps.length r,ce] 31 (0,0)):=b;gl<|gD<|ac 2<|ai ((i+1:Nat):Int) rfl rfl<|au 2 ?_
  exact⟨(i+1,_,_),⟨d.g,Ac,Ac,(Gb c),(Gb f),b,u,(by rw[Ul Ac,bV];exact hL.down (Y:=XB B [j,m,k]) (fun D h=>h.imp id (Ux _)) (Tv _))⟩,(by show Q.length - (i+1)<Q.length - i;omega),rfl⟩
 rw[TK Ac]at hL
 refine au 3<|DC.lG (σ:=Value×Value) (fun(ak,am)=>[(1,Pt k),(2,Pt m),(9,Pt j)]) (fun(ak,am) g=>Fr [] aa g∧g.heap[k]? =some (.cells #[.string t,.string sB,aw,H,ax,ay,az,a0,.slice ap ks.length aq,.slice o S.length p,.slice q ps.length r,.slice ar Q.length av] 31 (0,0))∧g.heap[m]? =some (.cells #[Zs,Zs,Zi,Zi,Zs,Zl,Zl,Zl,Zl,Zl,Zl,Zl] 31 (0,0))∧g.heap[j]? =some (.cells #[.string t,.string sB,Zi,Zi,Zs,Zl,Zl,Zl,ak,.slice o S.length p,.slice q ps.length r,am] 31 (0,0))∧Rw g (AX (XB B [j,m,k]) g) 0 12 P ak∧Rw g (AX (XB B [j,m,k]) g) 2 14 qF am) ?_ ?_
 ·cases bA with
  |no an=>
   exact ac 3<|lD b rfl rfl<|sX an rfl rfl<|au 11 ⟨(_,_),⟨rfl,rfl,rfl⟩,d,c,f,b,u.xp Ac,hL.rw Ah Ac⟩
  | @mP a5 bv _ an cg=>
   obtain⟨ch,bw,rfl⟩:=u.shape
   obtain⟨bx,bz,rfl⟩:=u.some Al
   obtain⟨aC,y,aD,L,aU⟩:=u.at (i:=0) Al
   obtain⟨d1,d2,d4,d5,d6,d7,d8⟩:=a5
   obtain⟨b0,b1,U,W,ci,cj,ck,cl,cm,cn,co,cp,cq,cr,rfl⟩:=L.hI
   exact ac 3<|lD b rfl rfl<|sT an rfl rfl<|au 2<|lD b rfl rfl<|iX F.iI Al rfl rfl ((rfl:(0:Int)=((0:Nat):Int)))<|au 1<|lC (y.cell 0 rfl) rfl<|sX cg rfl rfl<|au 4 ⟨(_,_),⟨rfl,rfl,rfl⟩,d,c,f,b,u.xp Ac,hL.rw Ah Ac⟩
  | @merge R H T d9 bb b2 bv _ an cs A hk=>
   obtain⟨ch,bw,rfl⟩:=u.shape
   obtain⟨bx,bz,rfl⟩:=u.some Al
   obtain⟨aC,y,aD,L,aU⟩:=u.at (i:=0) Al
   obtain⟨b0,b1,U,W,ci,cj,ck,cl,cm,cn,co,cp,cq,cr,rfl⟩:=L.hI
   refine ac 3<|lD b rfl rfl<|sT an rfl rfl<|au 2<|lD b rfl rfl<|iX F.iI Al rfl rfl ((rfl:(0:Int)=((0:Nat):Int)))<|au 1<|lC (y.cell 0 rfl) rfl<|DL.y rfl rfl (Y.rG (c:=true) rfl rfl Al)<|au 4<|dR [] 7 ?_
   intro dA aV dB M
   have dC:=aV.size
   have hL:=hL.x0 aV.f
   have y:=hB.fr y aV.f Al
   skip
   refine aG [0]<|gL 1 (Gb b) rfl rfl rfl<|aG [2]<|gL 3 (Gb b) rfl rfl rfl<|gf 4 rfl (fun ae=>Y.index F.iI rfl rfl ((rfl:(0:Int)=((0:Nat):Int))) Al)<|aG [5]<|gT 6 rfl (fun ae af=>Y.load F.uk rfl (af.cell (y.cell 11 rfl) Al))<|gp 7 ?_
   obtain⟨dD,b3,a7⟩:=L.g.zL
   obtain⟨dE,dF,ct,_⟩:=b3 0 cs
   subst ct
   obtain⟨dG,b4,b5,b6,cu⟩:=b3.flat
   refine DL.hJ rfl rfl F.wh rfl rfl hL.nc.own cu (hW (m:=b2.length) b5 b4) (hM (fun D hc=>by obtain⟨i,hi,rfl⟩:=T0 hc;rw[b6 i hi];exact(a7 i Ac).one)) Ac Ac Ac fun b7 dH E v ag=>have C:=hL.ow;have z:=fun w A=>hL.nc.nx (b:=w) (Tk A);have hL:=hL.yk (XB.lt ab d.g Aj) Ac b4 b5 (fun i h1 h2=>by rw[b6 i h2];exact(a7 i h1).QM Ac C) E v ag;have d:=d.g.put E (fun x hx=>Tk (by have:=C x hx;omega));have dI:=E.size;have c:=E.hO (Gb c) (z _ Al);have f:=E.hO (Gb f) (z _ Al);have b:=E.hO (Gb b) (z _ Al);gl<|aG [8]<|gp 9<|sc b rfl rfl hL.one rfl fun cv aW dJ cw=>have y:=hB.p1 (hB.po y aU E C) aU aW.f (Ts Al);have b:=cw;have b:cv.heap[j]? =some (.cells #[.string t,.string sB,Zi,Zi,Zs,Zl,Zl,Zl,.slice (some ⟨bx,bz,none⟩) (N.mk Cs R H T P bb b2::bv).length bw,.slice o S.length p,.slice q ps.length r,b7] 31 (0,0)):=b;gl<|gD<|ac 2<|lD b rfl rfl<|iX F.iI Al rfl rfl ((rfl:(0:Int)=((0:Nat):Int)))<|au 1<|lC (y.cell 8 rfl) rfl<|au 1<|sc b rfl rfl rfl rfl ?_
   intro cx b8 dK b
   have hL:=(hL.x1 aW.f Al).x1 b8.f Al
   have L:=((L.g.po E C).p1 aW.f (Ts Al)).p1 b8.f (Ts Al)
   have b:cx.heap[j]? =some (.cells #[.string t,.string sB,Zi,Zi,Zs,Zl,Zl,Zl,.slice b0 P.length b1,.slice o S.length p,.slice q ps.length r,b7] 31 (0,0)):=b
   exact au 1 ⟨(_,_),⟨rfl,rfl,rfl⟩,d.g,(Gb c),(Gb f),b,(L.M1 hk).xp Ac,hL.rw Ah BX⟩
 clear d c f b u hL
 rintro⟨ak,am⟩ a8 dL ⟨d,c,f,b,cy,cz⟩
 have ad:=d.size;have a1:=hC c;have a2:=hC f;have a9:=hC b
 refine ac 2 ?_
 have Z:=RN.re ao d (AX.up (l:=[j,m,k]) d Aj) cy cz
 exact lw b rfl rfl<|sA (cs:=#[.string t,.string sB,Zi,Zi,Zs,Zl,Zl,Zl,ak,.slice o S.length p,.slice q ps.length r,am]) f rfl rfl rfl Z.hA Z.one fun dM c0 dN f=>have Z:=Z.x1 c0.f Al;au 2<|hD.hZ rfl (by rw[Z.hA];exact F.hN) (hB.hE f) (hH.mk d.g ⟨_,rfl,Z.xd⟩)
abbrev oh:ByteArray:=CI
abbrev mj:ByteArray:=CM
abbrev nO:ByteArray:=Cs
def qS(l ms:List N):Prop:=l.length=ms.length∧∀(i:Nat)(h1:i<l.length)(h2:i<ms.length),l8 l[i] ms[i]
theorem qS.nil:qS [] []:=⟨rfl,fun i h=>by simp at h⟩
theorem qS.cons{n:N}(h:l8 n q)(hl:qS Q P):qS (n::Q) (q::P):=⟨by simp[hl.1],fun i h1 h2=>by
 cases i with
 |zero=>exact h
 |succ i=>exact hl.2 i AW A4⟩
theorem qS.app(h:qS Q P)(b:qS qF qG):qS (Q++qF) (P++qG):=by
 refine⟨by simp[h.1,b.1],fun i h1 h2=>?_⟩
 by_cases hi:i<Q.length
 ·rw[TC hi,TC (by rw[←h.1];exact hi)];exact h.2 i hi _
 rw[Tz Ac,Tz (by rw[←h.1];omega)]
 simp only[←h.1]
 exact b.2 _ (by simp only[Tl]at h1;omega) (by have:=b.1;simp only[Tl]at h1;omega)
theorem N.zD:(∀n:N,n.nodes≤n.wt):=by
 intro n
 induction hk:n.nodes using Nat.strongRecOn generalizing n with
 |_ d f=>
  obtain⟨k,l,m,o,ks,ps,g⟩:=n
  have c:∀b:List N,N.iy b<d→N.iy b≤N.h9 b:=by
   intro b
   induction b with
   |nil=>intro _;exact Tv _
   |cons a b j=>intro h;simp only[N.iy]at h;have h1:=f a.nodes Ac a rfl;have:=j Ac;simp only[N.iy,N.h9];omega
  simp only[N.nodes]at hk
  have h1:=c ks Ac;have h2:=c ps Ac;have p:=c g Ac
  simp only[N.wt];omega
theorem l5{ks ps ms:List N}(b:t≠Cr∧t≠Cn∧t≠Cm∧t≠oh∧t≠mj)(c:t≠nO)(ht:t≠Cp∨t=Cp∧¬(sA=⟨#[]⟩∧ks=[]))(d:ks.length≤1048576)(h:qS ks ms):l8 (.mk t sA vH S ks ps []) (.mk t sA V0 S ms ps []):=
 sv (dm:=[]) b ht h.1 d h.2 rfl Ah oW (.no c)
theorem mB(s:ByteArray):l8 (jk s) (jk s):=n3 (lY Ah Ah Ah)
theorem zT:l8 qb qb:=l5 Ah Ah (Ts Ah) Ah .nil
theorem oA(s:ByteArray):l8 (Ev qb (jk s)) (Ev qb (jk s)):=l5 (ks:=[qb]) (ms:=[qb]) Ah Ah (Ts Ah) Al (.cons zT .nil)
def Cq(op:ByteArray)(n x:N):Prop:=∃qs rs ms,Ch op n qs∧Ch op x rs∧qS qs ms∧qS rs ms
theorem Cq.leaf{n x:N}(h1:iz n≠t)(h2:iz x≠t)(b:l8 n q)(hx:l8 x q):Cq t n x:=⟨_,_,[q],.leaf h1,.leaf h2,.cons b .nil,.cons hx .nil⟩
theorem Cq.two{a:N}{ps:List N}(h1:Cq t a p)(h2:Cq t q qA):Cq t (.mk t sA vH S [a,q] ps Q) (.mk t sB vI T [p,qA] P qF):=
 let⟨_,_,_,c1,c2,l1,l2⟩:=h1;let⟨_,_,_,c3,c4,l3,l4⟩:=h2;⟨_,_,_,.two c1 c3,.two c2 c4,l1.app l3,l2.app l4⟩
theorem Ht(h:2≤Q.length):iz (yE t Q)=t:=by
 match Q,h with
 |_::_::_,_=>rfl
theorem E6:∀(d:List N)(x:N)(b:List N),Ch mj x b→(∀c∈d,iz c≠mj)→Ch mj (Fa x d) (b++d)
 |[],x,b,h,_=>by simpa[Fa]using h
 |c::g,x,b,h,f=>by
  have:=E6 g (nY x c) (b++[c]) (.two h (.leaf (f c Al))) (fun j k=>f j (by simp[k]))
  simpa[Fa]using this
theorem xo:∀(c:List N)(x b:N),∃a d,Fa (nY x b) c=nY a d
 |[],x,b=>⟨x,b,rfl⟩
 |f::g,x,b=>xo g (nY x b) f
theorem Jr{x:N}{ms:List N}(hx:∀b∈x::Q,iz b≠mj)(h:qS (x::Q) ms)(d:Q.length+1≤1048576):l8 (Fa x Q) (yE mj ms):=by
 match Q,ms,h with
 |[],[l],h=>exact h.2 0 Al Al
 |b::c,ms,h=>
  have hc:=E6 (b::c) x [x] (.leaf (hx x Al)) (fun f g=>hx f (by simp[g]))
  obtain⟨a,j,e⟩:=xo c x b
  have k:Fa x (b::c)=nY a j:=e
  rw[k]at hc⊢
  exact qe (q6 hc (by simpa using d)) h.1 Al (by simpa using d) h.2
theorem Xv.op{x:N}(h:Xv vH x):iz x≠oh∧iz x≠mj∧iz x≠nO∧iz x≠Cn∧iz x≠Cp:=by
 cases h<;>(refine⟨?_,?_,?_,?_,?_⟩<;>(simp only[iz];decide))
theorem LJ{ks:List ByteArray}{b:List N}(hk:ks.length=b.length)(k:b.length≤524288)(c:∀x∈b,iz x≠Cn):O8 (oN ks b) (oN ks b):=by
 have hl:=ov ks b hk
 refine ql rfl Ac Ac (fun i h1 h2=>?_)
 have d:∀(ks:List ByteArray)(b:List N)(i:Nat)(h:2*i+1<(oN ks b).length)(hx:i<b.length)(hk:i<ks.length),(oN ks b)[2*i]'(TW h)=jk ks[i]∧(oN ks b)[2*i+1]=b[i]:=by
  intro ks
  induction ks with
  |nil=>intro b i h hx hk;simp at hk
  |cons l ks f=>
   intro b i h hx hk
   match b,i with
   |x::b,0=>exact⟨rfl,rfl⟩
   |x::b,i+1=>
    have:=f b i (by simp only[oN,To]at h;omega) (by simpa using hx) Cd
    exact this
 obtain⟨g,j⟩:=d ks b i h1 Ac Ac
 rw[g,j]
 exact⟨_,.mP (fun h=>by have:=h.1;revert this;simp only[iz];decide),.v (c _ (T2 _))⟩
theorem Is:∀{ks:List ByteArray}{c b:List N},qS c b→qS (oN ks c) (oN ks b)
 |[],c,b,h=>by rw[oN,oN];exact .nil;all_goals(intros;simp_all)
 |d::ks,[],b,h=>by
  have:b=[]:=Tn (by have:=h.1;simpa using this.symm)
  subst this;exact .nil
 |d::ks,x::c,[],h=>by have:=h.1;simp at this
 |d::ks,x::c,f::b,h=>.cons (mB d) (.cons (h.2 0 Al Al) (Is ⟨by have:=h.1;simpa using this,fun i h1 h2=>h.2 (i+1) AW A4⟩))
theorem HW{P:V→N→N→Prop}(hl:vJ.length=Q.length)(h:∀(i:Nat)(h1:i<vJ.length)(h2:i<Q.length),∃b,P vJ[i] Q[i] b):∃c:List N,vJ.length=c.length∧∀(i:Nat)(h1:i<vJ.length)(h2:i<Q.length)(f:i<c.length),P vJ[i] Q[i] c[i]:=by
 have d:∀i,∃b,∀(h1:i<vJ.length)(h2:i<Q.length),P vJ[i] Q[i] b:=fun i=>by
  by_cases hi:i<vJ.length
  ·obtain⟨x,hx⟩:=h i hi Ac;exact⟨x,fun _ _=>hx⟩
  exact⟨je,fun h=>Tu h hi⟩
 refine⟨(List.range vJ.length).map (fun i=>Classical.choose (d i)),by simp,fun i h1 h2 f=>?_⟩
 simp only[Uw,Us]
 exact Uo (d i) h1 h2
theorem MH{c:V}{x:N}(h:Xv c x):c.wt≤1048576→∃b,y9 c b∧l8 x b∧iz b≠nO:=by
 induction h with
 |null=>intro _;exact⟨_,lY Ah Ah Ah,n3 (lY Ah Ah Ah),AL⟩
 |vQ=>intro _;exact⟨_,lY Ah Ah Ah,n3 (lY Ah Ah Ah),AL⟩
 |IA=>intro _;exact⟨_,lY Ah Ah Ah,n3 (lY Ah Ah Ah),AL⟩
 | @num h u=>intro _;exact⟨_,wv rfl Ac,n3 (wv rfl Ac),AL⟩
 | @neg h h0 u=>
  intro _
  have e: -(-(h:Int))=(h:Int):=by omega
  have h1:=JU (half:= -(h:Int)) Ac Ac
  rw[e]at h1
  exact⟨_,h1,l5 (ks:=[_]) (ms:=[_]) Ah Ah (Ts Ah) Al (.cons (n3 (wv rfl Ac)) .nil),AL⟩
 |text=>intro _;exact⟨_,lY Ah Ah Ah,mB _,AL⟩
 |H0=>intro _;exact⟨_,EN,l5 Ah Ah (Ts Ah) Ah .nil,AL⟩
 | @list c g x j h0 hl h v k=>
  intro hw
  simp only[V.wt,V.h9]at hw
  obtain⟨q,w,y,_⟩:=v Ac
  obtain⟨d,r,f⟩:=HW (P:=fun c x b=>y9 c b∧l8 x b) hl (fun i h1 h2=>by obtain⟨b,m,o,_⟩:=k i h1 h2 (by have:=V.iP h1;omega);exact⟨b,m,o⟩)
  have hlen:=V.iw g
  refine⟨_,GI (l:=c::g) (ms:=q::d) (by simp[r]) Al AM (fun i h1 h2=>?_),l5 (ks:=[_]) (ms:=[_]) Ah Ah (Ts Ah) Al (.cons (Jr (ms:=q::d) (fun A p=>?_) (.cons y ⟨Ac,fun i h1 h2=>(f i Ac h1 h2).2⟩) Ac) .nil),AL⟩
  ·cases i with
   |zero=>exact w
   |succ i=>exact(f i AW Bn A4).1
  rcases Tr.1 p with rfl|p
  ·exact h0.op.2.1
  obtain⟨i,hi,rfl⟩:=T0 p;exact(h i Ac hi).op.2.1
 | @map ks g j hk hl h k=>
  intro hw
  simp only[V.wt,V.h9]at hw
  obtain⟨d,r,f⟩:=HW (P:=fun c x b=>y9 c b∧l8 x b) hl (fun i h1 h2=>by obtain⟨b,m,o,_⟩:=k i h1 h2 (by have:=V.iP h1;omega);exact⟨b,m,o⟩)
  have hlen:=V.iw g
  have B:=jY ks
  have z:qS j d:=⟨Ac,fun i h1 h2=>(f i Ac h1 h2).2⟩
  have t:=Is (ks:=ks) z
  have C:=ov ks j Ac
  refine⟨_,Jm hk Ac Ac (fun s hs=>?_) (fun i h1 h2=>(f i h1 Ac h2).1),u6 (LJ Ac Ac (fun x hx=>?_)) t.1 Ac t.2,AL⟩
  ·obtain⟨i,hi,rfl⟩:=T0 hs;have:=lM hi;omega
  obtain⟨i,hi,rfl⟩:=T0 hx;exact(h i Ac hi).op.2.2.2.1
end Go.Proofs.YtlojelcoibpphaaGreatDoor
