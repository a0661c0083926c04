/- FnQueryText, second form: own texts, joined and made short by a program (part 16): for every argument of bulk at most 1048576 the law answers true. -/
import Derived.Test.YtlojelcoibpphaaGreatDoorMx01
import Derived.Test.YtlojelcoibpphaaGreatDoorMx15
import Derived.Test.YtlojelcoibpphaaGreatDoorMx03
import Derived.Test.YtlojelcoibpphaaGreatDoorMx02
import Derived.Test.YtlojelcoibpphaaGreatDoorMx12
import Derived.Test.YtlojelcoibpphaaGreatDoorMx14
set_option maxRecDepth 100000
set_option maxHeartbeats 2000000
set_option linter.unusedVariables false
set_option linter.unusedSimpArgs false
set_option linter.unusedSectionVars false
set_option linter.defProp false
namespace Go.Proofs.YtlojelcoibpphaaGreatDoor
open Go Go.RowKit D Go.Deep Go.Proofs
variable{L:List UInt8}{m k:Nat}{w W:World}{t sA:ByteArray}{D:Nat→Prop}{c:Array Value}{q p qA:N}{Q:List N}{S:List ByteArray}{R:List Nat}{b:Option Addr}{bA bB:Bool}{vH:V}{vJ:List V}
theorem me.ax(h:me w (AX D w) m bA c)(b:Fr R w W)(hs:∀d∈R,D d∨w.heap.size≤d):me W (AX D W) m bA c:=
 let⟨l1,l2,l3,a1,a2,a3,c1,c2,c3,h0,h1,h2,h3,h4⟩:=h;⟨l1,l2,l3,a1,a2,a3,c1,c2,c3,h0,h1.ax b hs,h2.ax b hs,h3.ax b hs,h4⟩
theorem me.x0(h:me w (AX D w) m bA c)(b:Fr [] w W):me W (AX D W) m bA c:=h.ax b (fun f d=>by cases d)
theorem me.x1(h:me w (AX D w) m bA c)(b:Fr [k] w W)(d:D k):me W (AX D W) m bA c:=h.ax b (fun g f=>by rcases Tt.1 f with rfl;exact Ts d)
theorem me.up(h:me w D m bA c)(b:m≤k)(d:bB=false→bA=false):me w D k bB c:=h.mono (fun _ h=>h) b d
theorem me.three(h:me w D m bA c):∃a b d,c=#[a,b,d]:=by obtain⟨f,g,j,k,l,o,p,q,r,rfl,_⟩:=h;exact⟨_,_,_,rfl⟩
theorem me.xu{l:List Nat}(h:me w (AX D w) m bA c)(b:Fr [k] w W)(d:D k)(hl:∀x∈l,w.heap.size≤x):me W (AX (XB D l) W) m bA c:=(h.fr b (fun g hc f=>by rcases Tt.1 f with rfl;exact hc.2 d)).mono (AX.up b hl) (Tv _) id
def E8(op:ByteArray)(ks:List N)(j:Nat):Prop:=∃h:j<ks.length,(∃t,Gd 0 ks[j] t)∨(ks[j]=je∧((op=Co∧0<j)∨(op=Cm∧j%2=1)))
def ye(op:ByteArray)(n:Nat):Prop:=∃lo hi,(Nx op lo hi=true∨op∈yc∧lo=2∧hi=2)∧lo≤n∧n≤hi
theorem xK{hi:Nat}(h:Nx t m hi):(t,m,hi)∈NU:=by
 unfold Nx at h
 obtain⟨⟨a,f,g⟩,hx,h2⟩:=UX.1 h
 simp only[Tx,TA]at h2
 obtain⟨⟨d,b⟩,c⟩:=h2
 have b:=Ub b;have c:=Ub c
 subst d;subst b;subst c;exact hx
theorem ye.slice{n:Nat}(h:ye Co n):n=3:=by
 obtain⟨b,hi,h,h1,h2⟩:=h
 rcases h with h|⟨h,_⟩
 ·have:=xK h
  simp only[NU,Tr,Prod.mk.injEq,ByteArray.mk.injEq,Tp,TD]at this
  simp at this;omega
 exfalso;revert h;simp[yc]
theorem FK:∀x∈yc,x=CF∨x=Cy∨∃b,(1≤b∧b≤24)∧jQ b=x:=by
 intro x hx
 simp only[yc,Tr,Tp,TD]at hx
 rcases hx with rfl|rfl|rfl|rfl|rfl|rfl|rfl|rfl|rfl|rfl|rfl|rfl|rfl|rfl|rfl|rfl|rfl|rfl|rfl|rfl|rfl|rfl|rfl|rfl|rfl|rfl
 ·exact Ts rfl
 ·exact Tk (Ts rfl)
 ·exact Tk (Tk ⟨1,by decide,rfl⟩)
 ·exact Tk (Tk ⟨2,by decide,rfl⟩)
 ·exact Tk (Tk ⟨14,by decide,rfl⟩)
 ·exact Tk (Tk ⟨15,by decide,rfl⟩)
 ·exact Tk (Tk ⟨16,by decide,rfl⟩)
 ·exact Tk (Tk ⟨3,by decide,rfl⟩)
 ·exact Tk (Tk ⟨4,by decide,rfl⟩)
 ·exact Tk (Tk ⟨5,by decide,rfl⟩)
 ·exact Tk (Tk ⟨6,by decide,rfl⟩)
 ·exact Tk (Tk ⟨7,by decide,rfl⟩)
 ·exact Tk (Tk ⟨8,by decide,rfl⟩)
 ·exact Tk (Tk ⟨9,by decide,rfl⟩)
 ·exact Tk (Tk ⟨11,by decide,rfl⟩)
 ·exact Tk (Tk ⟨13,by decide,rfl⟩)
 ·exact Tk (Tk ⟨10,by decide,rfl⟩)
 ·exact Tk (Tk ⟨12,by decide,rfl⟩)
 ·exact Tk (Tk ⟨17,by decide,rfl⟩)
 ·exact Tk (Tk ⟨18,by decide,rfl⟩)
 ·exact Tk (Tk ⟨19,by decide,rfl⟩)
 ·exact Tk (Tk ⟨20,by decide,rfl⟩)
 ·exact Tk (Tk ⟨21,by decide,rfl⟩)
 ·exact Tk (Tk ⟨22,by decide,rfl⟩)
 ·exact Tk (Tk ⟨23,by decide,rfl⟩)
 exact Tk (Tk ⟨24,by decide,rfl⟩)
theorem ye.all{n:Nat}(h:ye t n):(t=CE∧0≤n∧n≤0)∨(t=CL∧0≤n∧n≤0)∨(t=Cr∧0≤n∧n≤0)∨(t=Cz∧0≤n∧n≤0)∨(t=CC∧0≤n∧n≤0)∨(t=Cx∧0≤n∧n≤0)∨(t=Cp∧0≤n∧n≤20)∨(t=Cm∧0≤n∧n≤20)∨(t=Cw∧0≤n∧n≤20)∨(t=Cv∧0≤n∧n≤1)∨(t=Cu∧1≤n∧n≤1)∨(t=CK∧1≤n∧n≤1)∨(t=CH∧1≤n∧n≤1)∨(t=CG∧1≤n∧n≤1)∨(t=CD∧1≤n∧n≤1)∨(t=Cs∧1≤n∧n≤1)∨(t=CB∧1≤n∧n≤2)∨(t=Co∧3≤n∧n≤3)∨(t=Ct∧3≤n∧n≤3)∨(t=Ck∧3≤n∧n≤4)∨(t=CA∧2≤n∧n≤21)∨(t∈yc∧n=2):=by
 obtain⟨b,hi,h,h1,h2⟩:=h
 rcases h with h|⟨h,rfl,rfl⟩
 ·have:=xK h
  simp only[NU,Tr,Prod.mk.injEq,Tp,TD]at this
  rcases this with⟨rfl,rfl,rfl⟩|⟨rfl,rfl,rfl⟩|⟨rfl,rfl,rfl⟩|⟨rfl,rfl,rfl⟩|⟨rfl,rfl,rfl⟩|⟨rfl,rfl,rfl⟩|⟨rfl,rfl,rfl⟩|⟨rfl,rfl,rfl⟩|⟨rfl,rfl,rfl⟩|⟨rfl,rfl,rfl⟩|⟨rfl,rfl,rfl⟩|⟨rfl,rfl,rfl⟩|⟨rfl,rfl,rfl⟩|⟨rfl,rfl,rfl⟩|⟨rfl,rfl,rfl⟩|⟨rfl,rfl,rfl⟩|⟨rfl,rfl,rfl⟩|⟨rfl,rfl,rfl⟩|⟨rfl,rfl,rfl⟩|⟨rfl,rfl,rfl⟩|⟨rfl,rfl,rfl⟩
  ·exact Ts ⟨rfl,h1,h2⟩
  ·exact Tk (Ts ⟨rfl,h1,h2⟩)
  ·exact Tk (Tk (Ts ⟨rfl,h1,h2⟩))
  ·exact Tk (Tk (Tk (Ts ⟨rfl,h1,h2⟩)))
  ·exact Tk (Tk (Tk (Tk (Ts ⟨rfl,h1,h2⟩))))
  ·exact Tk (Tk (Tk (Tk (Tk (Ts ⟨rfl,h1,h2⟩)))))
  ·exact Tk (Tk (Tk (Tk (Tk (Tk (Ts ⟨rfl,h1,h2⟩))))))
  ·exact Tk (Tk (Tk (Tk (Tk (Tk (Tk (Ts ⟨rfl,h1,h2⟩)))))))
  ·exact Tk (Tk (Tk (Tk (Tk (Tk (Tk (Tk (Ts ⟨rfl,h1,h2⟩))))))))
  ·exact Tk (Tk (Tk (Tk (Tk (Tk (Tk (Tk (Tk (Ts ⟨rfl,h1,h2⟩)))))))))
  ·exact Tk (Tk (Tk (Tk (Tk (Tk (Tk (Tk (Tk (Tk (Ts ⟨rfl,h1,h2⟩))))))))))
  ·exact Tk (Tk (Tk (Tk (Tk (Tk (Tk (Tk (Tk (Tk (Tk (Ts ⟨rfl,h1,h2⟩)))))))))))
  ·exact Tk (Tk (Tk (Tk (Tk (Tk (Tk (Tk (Tk (Tk (Tk (Tk (Ts ⟨rfl,h1,h2⟩))))))))))))
  ·exact Tk (Tk (Tk (Tk (Tk (Tk (Tk (Tk (Tk (Tk (Tk (Tk (Tk (Ts ⟨rfl,h1,h2⟩)))))))))))))
  ·exact Tk (Tk (Tk (Tk (Tk (Tk (Tk (Tk (Tk (Tk (Tk (Tk (Tk (Tk (Ts ⟨rfl,h1,h2⟩))))))))))))))
  ·exact Tk (Tk (Tk (Tk (Tk (Tk (Tk (Tk (Tk (Tk (Tk (Tk (Tk (Tk (Tk (Ts ⟨rfl,h1,h2⟩)))))))))))))))
  ·exact Tk (Tk (Tk (Tk (Tk (Tk (Tk (Tk (Tk (Tk (Tk (Tk (Tk (Tk (Tk (Tk (Ts ⟨rfl,h1,h2⟩))))))))))))))))
  ·exact Tk (Tk (Tk (Tk (Tk (Tk (Tk (Tk (Tk (Tk (Tk (Tk (Tk (Tk (Tk (Tk (Tk (Ts ⟨rfl,h1,h2⟩)))))))))))))))))
  ·exact Tk (Tk (Tk (Tk (Tk (Tk (Tk (Tk (Tk (Tk (Tk (Tk (Tk (Tk (Tk (Tk (Tk (Tk (Ts ⟨rfl,h1,h2⟩))))))))))))))))))
  ·exact Tk (Tk (Tk (Tk (Tk (Tk (Tk (Tk (Tk (Tk (Tk (Tk (Tk (Tk (Tk (Tk (Tk (Tk (Tk (Ts ⟨rfl,h1,h2⟩)))))))))))))))))))
  exact Tk (Tk (Tk (Tk (Tk (Tk (Tk (Tk (Tk (Tk (Tk (Tk (Tk (Tk (Tk (Tk (Tk (Tk (Tk (Tk (Ts ⟨rfl,h1,h2⟩))))))))))))))))))))
 exact Tk (Tk (Tk (Tk (Tk (Tk (Tk (Tk (Tk (Tk (Tk (Tk (Tk (Tk (Tk (Tk (Tk (Tk (Tk (Tk (Tk (⟨h,Ac⟩)))))))))))))))))))))
theorem ye.two{ks:List N}(h:ye t ks.length)(c:t=Cy∨t∈yc):∃a b,ks=[a,b]:=by
 have d:t∈yc:=c.elim (fun e=>by rw[e];simp[yc]) id
 have:ks.length=2:=by
  rcases h.all with h|h|h|h|h|h|h|h|h|h|h|h|h|h|h|h|h|h|h|h|h|h
  all_goals first|exact h.2|(exfalso;obtain⟨e,_⟩:=h;subst e;revert d;simp[yc];done)
 match ks,this with
 |[a,b],_=>exact⟨a,b,rfl⟩
theorem ye.fold{ks:List N}(h:ye t ks.length)(d:t=Ct∨t=Ck):∃a b c,ks=a::b::c:=by
 have:2≤ks.length:=by
  rcases h.all with h|h|h|h|h|h|h|h|h|h|h|h|h|h|h|h|h|h|h|h|h|h
  all_goals first|omega|(exfalso;obtain⟨e,_⟩:=h;subst e;revert d;decide)|(exfalso;obtain⟨e,_⟩:=h;rcases d with rfl|rfl<;>(revert e;simp[yc];done))
 match ks,this with
 |a::b::c,_=>exact⟨a,b,c,rfl⟩
theorem ye.L4{n:Nat}(h:ye t n)(b:t=Ct∨t=Ck):2≤n:=by
 obtain⟨a,c,d,e⟩:=ye.fold (ks:=List.replicate n je) AU b
 have:=TR List.length e
 simp at this;omega
theorem Ny.Kj{ks ps:List N}(h:Ny t sA vH S ks ps Q)(h1:t≠Cy)(h2:t≠Ct)(b:t≠Ck):ps=[]:=by
 rcases Ur ps.length with h0|h0
 ·exact Tn h0
 rcases h.pn.2 h0 with e|e|e;exact Tu e h1;exact Tu e h2;exact Tu e b
theorem oC{n:N}(h:Gd 0 n L):iz n≠Cn:=by
 generalize hk:0=c at h
 cases h<;>first|(cases hk;done)|(simp only[iz];decide)|skip
 rename_i b c f L g j h1 h2
 have d:∀b,b<25→b=0∨jQ b≠Cn:=by decide
 exact(d b Ac).resolve_left Ac
theorem Je(n:Int)(h1: -18014398509481984≤n)(h2:n≤18014398509481984):∃c,sk (.mk 3 n ⟨#[]⟩ [] [] []) c:=by
 by_cases h:0≤n
 ·obtain⟨b,rfl⟩:=Int.eq_ofNat_of_zero_le h
  exact⟨_,.num Ac⟩
 obtain⟨b,hk⟩:∃b:Nat,n= -(b:Int):=⟨n.natAbs,Ac⟩
 subst hk
 exact⟨_,.neg Ac Ac⟩
theorem uT(h:∀(i:Nat)(h:i<vJ.length),∃b,sk vJ[i] b):∃c:List (List UInt8),vJ.length=c.length∧∀(i:Nat)(h1:i<vJ.length)(h2:i<c.length),sk vJ[i] c[i]:=by
 have d:∀i,∃b,∀h1:i<vJ.length,sk vJ[i] b:=fun i=>by
  by_cases hi:i<vJ.length
  ·obtain⟨b,ht⟩:=h i hi;exact⟨b,fun _=>ht⟩
  exact⟨[],fun h=>Tu h hi⟩
 refine⟨(List.range vJ.length).map (fun i=>Classical.choose (d i)),by simp,fun i h1 h2=>?_⟩
 simp only[Uw,Us]
 exact Uo (d i) h1
theorem Gw{j:V}(h:Good j):∃l,sk j l:=by
 induction h with
 | @mk b k m o p q n hl w r t=>
  obtain⟨y,z⟩:=n.Ja
  have u:b=0∨b=1∨b=2∨b=3∨b=4∨b=5∨b=6:=by omega
  have c:b≠4→m=⟨#[]⟩:=fun h=>n.Lz.resolve_left h
  have d:b≠5→o=[]:=fun h=>Tn (n.HS.resolve_left h)
  have f:b≠6→p=[]∧q=[]:=fun h=>by have:=n.HY.resolve_left h;exact⟨Tn this,Tn (by have:=n.same;omega)⟩
  have g:b≠3→k=0:=fun h=>n.hzero.resolve_left h
  rcases u with rfl|rfl|rfl|rfl|rfl|rfl|rfl
  ·obtain⟨rfl,rfl⟩:=f Ah;rw[c Ah,d Ah,g Ah];exact⟨_,.null⟩
  ·obtain⟨rfl,rfl⟩:=f Ah;rw[c Ah,d Ah,g Ah];exact⟨_,.vQ⟩
  ·obtain⟨rfl,rfl⟩:=f Ah;rw[c Ah,d Ah,g Ah];exact⟨_,.IA⟩
  ·obtain⟨rfl,rfl⟩:=f Ah;rw[c Ah,d Ah];exact Je k n.hbound.1 n.hbound.2
  ·obtain⟨rfl,rfl⟩:=f Ah;rw[d Ah,g Ah];exact⟨_,.text n.zA⟩
  ·obtain⟨rfl,rfl⟩:=f Ah;rw[c Ah,g Ah]
   obtain⟨v,h1,h2⟩:=uT r
   exact⟨_,.list h1 h2⟩
  rw[c Ah,d Ah,g Ah]
  obtain⟨v,h1,h2⟩:=uT t
  exact⟨_,.map n.same h1 (fun A hk=>by obtain⟨i,hi,rfl⟩:=T0 hk;exact n.IE i hi) h2⟩
theorem I4:∀x∈y6,x∈y8:=by
 intro x hx
 simp only[y6,Tr,Tp,TD]at hx
 simp only[y8,Tr,Tp,TD]
 rcases hx with rfl|rfl|rfl|rfl|rfl|rfl|rfl|rfl|rfl|rfl|rfl|rfl|rfl|rfl|rfl|rfl|rfl|rfl|rfl|rfl<;>simp
theorem tU{a:List UInt8}{b c e d:UInt8}(h:a++[b,c]=L++[e,d]):a=L∧b=e:=by
 have hl:a.length=L.length:=by have:=TR List.length h;simpa using this
 obtain⟨h1,h2⟩:=List.append_inj h hl
 injection h2 with h3 _
 exact⟨h1,h3⟩
def Ol(b:ByteArray):Bool:=let l:=b.data.toList;jI (l.take (l.length - 2))&&(y6.all (fun k=> !decide (k.data.toList=l.take (l.length - 2))))&&decide (l.drop (l.length - 2)≠[])&&(match l.drop (l.length - 2)with|[c,_]=>c==47|_=>false)
theorem La:(F4++Fe++L0).all Ol=true:=by decide+kernel
theorem B2.ok{s:ByteArray}{n:Nat}(h:B2 s n):BE s:=by
 obtain⟨d,m,h⟩:=h
 have j:∀(b:List UInt8)(c:UInt8),d.data.toList=b++[47,c]→s.data.toList=b:=fun b c e=>by
  rw[m,Dp]at e
  split at e
  ·rename_i r
   rw[show([47,109,97,110,121]:List UInt8)=[47,109,97]++[110,121]from rfl,←Ty]at e
   have:=(tU e).2
   exact Tu this Ah
  exact(tU e).1
 rcases h with⟨b,c,k,e⟩|h
 ·have:=j _ _ e
  have o:s=b:=ByteArray.ext (Array.toList_inj.1 this)
  subst o
  exact⟨k.jI,fun hk=>k.kw (I4 _ hk)⟩
 have hk:Ol d=true:=Uk.1 La d (by simp only[Uc];rcases h with h|h|h;exact Ts (Ts h);exact Ts (Tk h);exact Tk h)
 unfold Ol at hk
 simp only[Tx]at hk
 obtain⟨⟨⟨h1,h2⟩,_⟩,f⟩:=hk
 generalize hl:d.data.toList=g at h1 h2 f
 have l:=UM (g.length - 2) g
 split at f
 ·rename_i p c q
  rw[q]at l
  have hc:p=47:=by simpa using f
  subst hc
  have:=j (g.take (g.length - 2)) c (by rw[hl,l])
  rw[←this]at h1 h2
  refine⟨h1,fun hk=>?_⟩
  have:=Uk.1 h2 s hk
  simp at this
 cases f
theorem GM{ks:List N}(h:∀b,b<ks.length→E8 t ks b)(h1:t≠Co)(h2:t≠Cm):∀(b:Nat)(hj:b<ks.length),∃c,Gd 0 ks[b] c:=fun b hj=>by
 obtain⟨_,h|⟨_,h|h⟩⟩:=h b hj
 ·exact h
 ·exact Tu h.1 h1
 ·exact Tu h.1 h2
theorem Ld(h:Gd 0 p L)(hk:uj p):∃L,Gd 3 (mR p je) L:=by
 generalize j:0=r at h
 cases h<;>first|(cases j;done)|(exfalso;revert hk;simp[uj,V0];done)|skip
 case val v h=>
  obtain⟨k,t,g,w,y,z⟩:=v
  simp only[uj]at hk
  have l:k=4:=by
   rcases hk with⟨_,h⟩|h|h
   ·exact h
   ·exact Tu h Ah
   exact Tu h.1 Ah
  subst l
  cases h with
  |text d=>
   by_cases c:jI g.data.toList=true
   ·exact⟨_,.pN c⟩
   exact⟨_,.pT (by simpa using c) d⟩
 case var s hs=>exact⟨_,.pV hs⟩
 case Lg f ns ks ts hf c d hl h=>
  simp only[uj,V0]at hk
  have m:f=⟨#[]⟩:=by
   rcases hk with h|h|h
   ·exact Tu h.1 Ah
   ·exact Tu h Ah
   exact h.2
  subst m
  exact⟨_,.pI c d hl h⟩
 case bin b p q L u ho h1 h2=>
  exfalso
  have o:∀b,b<25→1≤b→jQ b≠Cr∧jQ b≠Cx∧jQ b≠Cp:=by decide
  have:=o b Ac ho.1
  simp only[uj,V0]at hk
  rcases hk with h|h|h
  ·exact this.1 h.1
  ·exact this.2.1 h
  exact this.2.2 h.1
theorem IU:∀b,1≤b∧b≤24→jQ b≠Cp∧(¬(jQ b=Cy∨jQ b=Ct∨jQ b=Ck))∧jQ b≠Cs∧jQ b≠Cr∧jQ b≠Co∧jQ b≠Cm:=by
 have:∀b,b<25→1≤b→jQ b≠Cp∧(¬(jQ b=Cy∨jQ b=Ct∨jQ b=Ck))∧jQ b≠Cs∧jQ b≠Cr∧jQ b≠Co∧jQ b≠Cm:=by decide
 exact fun b h=>this b Ac h.1
theorem Ka{ks:List N}(b:1≤m∧m≤24)(h:Sp (jQ m) t vH S ks):t=⟨#[]⟩:=by
 have c:∀m,m<25→1≤m→∀x∈z8,jQ m≠x:=by
  intro m h1 h2 x hx
  simp only[z8,Tr,Tp,TD]at hx
  revert m h1 h2
  rcases hx with rfl|rfl|rfl|rfl|rfl|rfl|rfl|rfl|rfl|rfl<;>decide
 have hk:=c m Ac b.1
 generalize d:jQ m=f at h hk
 cases h<;>first|rfl|(exact Tu rfl (hk _ BI))
theorem JM{ks:List N}(h1:ks.length%2=0)(h2:∀(i:Nat)(h:2*i+1<ks.length),iz ks[2*i+1]≠Cn∨uj (ks[2*i]'(TW h)))(hk:∀c,c<ks.length→E8 Cm ks c):∃b,Gd 0 (.mk Cm ⟨#[]⟩ V0 [] ks [] []) b:=by
 have j:∀(i:Nat)(h:2*i+1<ks.length),∃b,Gd 3 (mR (ks[2*i]'(TW h)) ks[2*i+1]) b:=fun i h=>by
  obtain⟨_,k⟩:=hk (2*i) Ac
  obtain⟨_,l⟩:=hk (2*i+1) h
  have m:∃b,Gd 0 (ks[2*i]'(TW h)) b:=by
   rcases k with h|⟨_,h|h⟩
   ·exact h
   ·exact Tu h.1 Ah
   omega
  obtain⟨b,ht⟩:=m
  rcases l with⟨o,hu⟩|⟨d,_⟩
  ·exact⟨_,.Nv ht hu (oC hu)⟩
  have f:=(h2 i h).resolve_left (fun hx=>hx (by rw[d];rfl))
  rw[d]
  generalize ks[2*i]'(TW h)=p at ht f
  exact Ld ht f
 have g:∀i,∃b,∀(h:2*i+1<ks.length),Gd 3 (mR (ks[2*i]'(TW h)) ks[2*i+1]) b:=fun i=>by
  by_cases hi:2*i+1<ks.length
  ·obtain⟨b,ht⟩:=j i hi;exact⟨b,fun _=>ht⟩
  exact⟨[],fun h=>Tu h hi⟩
 refine⟨_,.obj (ts:=(List.range (ks.length/2)).map (fun i=>Classical.choose (g i))) (by simp;omega) (fun i a q=>?_)⟩
 simp only[Uw,Us]
 exact Uo (g i) a
theorem Eo(h:iz p≠Cn∨iz q≠Cn)(hk:∀d,d<[qA,p,q].length→E8 Co [qA,p,q] d):∃b,Gd 0 (.mk Co ⟨#[]⟩ V0 [] [qA,p,q] [] []) b:=by
 obtain⟨_,h0⟩:=hk 0 Al;obtain⟨_,h1⟩:=hk 1 Al;obtain⟨_,h2⟩:=hk 2 Al
 have f:∃b,Gd 0 qA b:=by
  rcases h0 with h|⟨_,h|h⟩
  ·exact h
  ·omega
  exact Tu h.1 Ah
 obtain⟨b,ht⟩:=f
 rcases h1 with⟨j,hu⟩|⟨g,_⟩
 ·rcases h2 with⟨x,hx⟩|⟨c,_⟩
  ·exact⟨_,.LD ht hu hx (oC hu) (oC hx)⟩
  have:q=je:=c
  subst this;exact⟨_,.LW ht hu (oC hu)⟩
 have:p=je:=g
 subst this
 rcases h2 with⟨x,hx⟩|⟨c,_⟩
 ·exact⟨_,.slt ht hx (oC hx)⟩
 have:q=je:=c
 subst this;exact Tu rfl (h.resolve_left (fun h=>h rfl))
theorem qY{ks ps:List N}(hk:ye sA ks.length)(hs:Ny sA t vH S ks ps Q)(H:sA=Cr∨vH=V0)(I:Lib.validD t.data.toList)(z:∀E,E<ks.length→E8 sA ks E)
  (A:(sA=Cy∨sA=Ct∨sA=Ck)→∀(i:Nat)(h:i<ps.length),∃l,Gd 1 ps[i] l) (J:sA=Cs→∀(i:Nat)(h:i<Q.length),∃l,Gd 2 Q[i] l):∃l,Gd 0 (.mk sA t vH S ks ps Q) l:=by
 have f:sA≠Cp→S=[]:=fun h=>by
  rcases Ur S.length with h0|h0
  ·exact Tn h0
  exact Tu (hs.tn.2 h0) h
 have m:¬(sA=Cy∨sA=Ct∨sA=Ck)→ps=[]:=fun h=>by
  rcases Ur ps.length with h0|h0
  ·exact Tn h0
  exact Tu (hs.pn.2 h0) h
 have g:sA≠Cs→Q=[]:=fun h=>by
  rcases Ur Q.length with h0|h0
  ·exact Tn h0
  exact Tu (hs.dn.2 h0) h
 have j:sA≠Cr→vH=V0:=fun h=>H.resolve_left h
 have b:=fun h1 h2=>GM z h1 h2
 have k:=hs.sp
 have o:∀r:List N,r.length=1→∃a,r=[a]:=fun r h=>by match r,h with|[a],_=>exact⟨a,rfl⟩
 rcases hk.all with⟨rfl,d,c⟩|⟨rfl,d,c⟩|⟨rfl,d,c⟩|⟨rfl,d,c⟩|⟨rfl,d,c⟩|⟨rfl,d,c⟩|⟨rfl,d,c⟩|⟨rfl,d,c⟩|⟨rfl,d,c⟩|⟨rfl,d,c⟩|⟨rfl,d,c⟩|⟨rfl,d,c⟩|⟨rfl,d,c⟩|⟨rfl,d,c⟩|⟨rfl,d,c⟩|⟨rfl,d,c⟩|⟨rfl,d,c⟩|⟨rfl,d,c⟩|⟨rfl,d,c⟩|⟨rfl,d,c⟩|⟨rfl,d,c⟩|⟨K,c⟩
 ·obtain rfl:=f Ah;obtain rfl:=m Ah;obtain rfl:=g Ah;obtain rfl:=j Ah
  obtain rfl:t=⟨#[]⟩:=by cases k;rfl
  obtain rfl:=Tn (VI.1 c)
  exact⟨_,.dot⟩
 ·obtain rfl:=f Ah;obtain rfl:=m Ah;obtain rfl:=g Ah;obtain rfl:=j Ah
  obtain rfl:t=⟨#[]⟩:=by cases k;rfl
  obtain rfl:=Tn (VI.1 c)
  exact⟨_,.LM⟩
 ·obtain rfl:=f Ah;obtain rfl:=m Ah;obtain rfl:=g Ah
  obtain rfl:=Tn (VI.1 c)
  cases k with
  |val h=>obtain⟨l,ht⟩:=Gw h;exact⟨_,.val ht⟩
  |De h=>exact Tu rfl (h _ BI)
 ·obtain rfl:=f Ah;obtain rfl:=m Ah;obtain rfl:=g Ah;obtain rfl:=j Ah
  obtain rfl:=Tn (VI.1 c)
  cases k with
  |format h=>exact⟨_,.fmt h⟩
  |De h=>exact Tu rfl (h _ BI)
 ·obtain rfl:=f Ah;obtain rfl:=m Ah;obtain rfl:=g Ah;obtain rfl:=j Ah
  obtain rfl:=Tn (VI.1 c)
  cases k with
  |za h=>exact⟨_,.za h.jI⟩
  |De h=>exact Tu rfl (h _ BI)
 ·obtain rfl:=f Ah;obtain rfl:=m Ah;obtain rfl:=g Ah;obtain rfl:=j Ah
  obtain rfl:=Tn (VI.1 c)
  cases k with
  |var h=>exact⟨_,.var h.jI⟩
  |De h=>exact Tu rfl (h _ BI)
 ·obtain rfl:=m Ah;obtain rfl:=g Ah;obtain rfl:=j Ah
  obtain⟨F,u,v⟩:=nz (b Ah Ah)
  cases k with
  |text h1 h2 L=>exact⟨_,.Lg h2 h1 L u v⟩
  |De h=>exact Tu rfl (h _ BI)
 ·obtain rfl:=f Ah;obtain rfl:=m Ah;obtain rfl:=g Ah;obtain rfl:=j Ah
  cases k with
  |object h1 h2=>exact JM h1 h2 z
  |De h=>exact Tu rfl (h _ BI)
 ·obtain rfl:=f Ah;obtain rfl:=m Ah;obtain rfl:=g Ah;obtain rfl:=j Ah
  obtain⟨F,u,v⟩:=nz (b Ah Ah)
  cases k with
  |call h=>exact⟨_,.call h.ok u v⟩
  |De h=>exact Tu rfl (h _ BI)
 ·obtain rfl:=f Ah;obtain rfl:=m Ah;obtain rfl:=g Ah;obtain rfl:=j Ah
  obtain rfl:t=⟨#[]⟩:=by cases k;rfl
  rcases Ur ks.length with h0|h0
  ·obtain rfl:=Tn h0;exact⟨_,.zO⟩
  obtain⟨a,rfl⟩:=o ks Ac;obtain⟨l,ht⟩:=b Ah Ah 0 Al;exact⟨_,.zH ht⟩
 ·obtain rfl:=f Ah;obtain rfl:=m Ah;obtain rfl:=g Ah;obtain rfl:=j Ah
  obtain⟨a,rfl⟩:=o ks Ac;obtain⟨l,ht⟩:=b Ah Ah 0 Al;exact⟨_,.FP I ht⟩
 ·obtain rfl:=f Ah;obtain rfl:=m Ah;obtain rfl:=g Ah;obtain rfl:=j Ah
  obtain rfl:t=⟨#[]⟩:=by cases k;rfl
  obtain⟨a,rfl⟩:=o ks Ac;obtain⟨l,ht⟩:=b Ah Ah 0 Al;exact⟨_,.each ht⟩
 ·obtain rfl:=f Ah;obtain rfl:=m Ah;obtain rfl:=g Ah;obtain rfl:=j Ah
  obtain rfl:t=⟨#[]⟩:=by cases k;rfl
  obtain⟨a,rfl⟩:=o ks Ac;obtain⟨l,ht⟩:=b Ah Ah 0 Al;exact⟨_,.opt ht⟩
 ·obtain rfl:=f Ah;obtain rfl:=m Ah;obtain rfl:=g Ah;obtain rfl:=j Ah
  obtain rfl:t=⟨#[]⟩:=by cases k;rfl
  obtain⟨a,rfl⟩:=o ks Ac;obtain⟨l,ht⟩:=b Ah Ah 0 Al;exact⟨_,.neg ht⟩
 ·obtain rfl:=f Ah;obtain rfl:=m Ah;obtain rfl:=g Ah;obtain rfl:=j Ah
  obtain⟨a,rfl⟩:=o ks Ac;obtain⟨l,ht⟩:=b Ah Ah 0 Al
  cases k with
  |label h=>exact⟨_,.HZ h.jI ht⟩
  |De h=>exact Tu rfl (h _ BI)
 ·obtain rfl:=f Ah;obtain rfl:=m Ah;obtain rfl:=j Ah
  obtain rfl:t=⟨#[]⟩:=by cases k;rfl
  obtain⟨a,rfl⟩:=o ks Ac;obtain⟨l,ht⟩:=b Ah Ah 0 Al
  obtain⟨M,B,C⟩:=nz (J rfl)
  exact⟨_,.vF (hs.dn.1 rfl) B C ht⟩
 ·obtain rfl:=f Ah;obtain rfl:=m Ah;obtain rfl:=g Ah;obtain rfl:=j Ah
  obtain rfl:t=⟨#[]⟩:=by cases k;rfl
  match ks,d,c,b with
  |[a],_,_,b=>obtain⟨l,ht⟩:=b Ah Ah 0 Al;exact⟨_,.u4 ht⟩
  |[a,w],_,_,b=>obtain⟨l,ht⟩:=b Ah Ah 0 Al;obtain⟨q,hu⟩:=b Ah Ah 1 Al;exact⟨_,.ur ht hu⟩
 ·obtain rfl:=f Ah;obtain rfl:=m Ah;obtain rfl:=g Ah;obtain rfl:=j Ah
  cases k with
  |slice h=>exact Eo h z
  |De h=>exact Tu rfl (h _ BI)
 ·obtain rfl:=f Ah;obtain rfl:=g Ah;obtain rfl:=j Ah
  obtain rfl:t=⟨#[]⟩:=by cases k;rfl
  obtain⟨O,rfl⟩:=o ps BD
  obtain⟨P,y⟩:=A Ah 0 Al
  match ks,d,c,b with
  |[a,w,G],_,_,b=>obtain⟨l,ht⟩:=b Ah Ah 0 Al;obtain⟨q,hu⟩:=b Ah Ah 1 Al;obtain⟨x,hx⟩:=b Ah Ah 2 Al;exact⟨_,.red ht y hu hx⟩
 ·obtain rfl:=f Ah;obtain rfl:=g Ah;obtain rfl:=j Ah
  obtain rfl:t=⟨#[]⟩:=by cases k;rfl
  obtain⟨O,rfl⟩:=o ps BD
  obtain⟨P,y⟩:=A Ah 0 Al
  match ks,d,c,b with
  |[a,w,G],_,_,b=>obtain⟨l,ht⟩:=b Ah Ah 0 Al;obtain⟨q,hu⟩:=b Ah Ah 1 Al;obtain⟨x,hx⟩:=b Ah Ah 2 Al;exact⟨_,.uh ht y hu hx⟩
  |[a,w,G,e],_,_,b=>obtain⟨l,ht⟩:=b Ah Ah 0 Al;obtain⟨q,hu⟩:=b Ah Ah 1 Al;obtain⟨x,hx⟩:=b Ah Ah 2 Al;obtain⟨W,R⟩:=b Ah Ah 3 Al;exact⟨_,.uI ht y hu hx R⟩
 ·obtain rfl:=f Ah;obtain rfl:=m Ah;obtain rfl:=g Ah;obtain rfl:=j Ah
  obtain rfl:t=⟨#[]⟩:=by cases k;rfl
  match ks,d,b with
  |a::w::T,_,b=>
   obtain⟨l,ht⟩:=b Ah Ah 0 Al
   obtain⟨q,hu⟩:=b Ah Ah 1 Al
   obtain⟨F,u,v⟩:=nz (l:=T) (fun i h=>b Ah Ah (i+2) AU)
   exact⟨_,.MW ht hu u v⟩
 match ks,c,b with
 |[a,w],_,b=>
  rcases FK sA K with rfl|rfl|⟨U,D,rfl⟩
  ·obtain rfl:=f Ah;obtain rfl:=m Ah;obtain rfl:=g Ah;obtain rfl:=j Ah
   obtain rfl:t=⟨#[]⟩:=by cases k;rfl
   obtain⟨l,ht⟩:=b Ah Ah 0 Al;obtain⟨q,hu⟩:=b Ah Ah 1 Al;exact⟨_,.idx ht hu⟩
  ·obtain rfl:=f Ah;obtain rfl:=g Ah;obtain rfl:=j Ah
   obtain rfl:t=⟨#[]⟩:=by cases k;rfl
   obtain⟨M,B,C⟩:=nz (A (Ts rfl))
   obtain⟨l,ht⟩:=b Ah Ah 0 Al;obtain⟨q,hu⟩:=b Ah Ah 1 Al;exact⟨_,.Nn ht hu (hs.pn.1 (Ts rfl)) B C⟩
  have p:=IU U D
  obtain rfl:=f p.1;obtain rfl:=m p.2.1;obtain rfl:=g p.2.2.1;obtain rfl:=j p.2.2.2.1
  obtain rfl:t=⟨#[]⟩:=Ka D k
  obtain⟨l,ht⟩:=b p.2.2.2.2.1 p.2.2.2.2.2 0 Al;obtain⟨q,hu⟩:=b p.2.2.2.2.1 p.2.2.2.2.2 1 Al;exact⟨_,.bin D ht hu⟩
theorem rj(ck:Nat)(ak:N0 ck):N0 (ck+1):=by
 intro ad W em aq X m aV c7 P ar I c8 c Q R Z A S hw h0 h1
 obtain⟨D,ae,b7,a7,ks,ps,aa⟩:=ad
 obtain⟨av,cl,c9⟩:(∀(i:Nat)(h:i<ks.length),Can 0 ks[i])∧(∀(i:Nat)(h:i<ps.length),Can 1 ps[i])∧(∀(i:Nat)(h:i<aa.length),Can 2 aa[i]):=by cases c8 with|q hk hp hd=>exact⟨hk,hp,hd⟩
 obtain⟨aW,a8,a9,aA,aB,aC,aD,aE,aw,ax,ay,az,a0,a1,rfl⟩:=I.hI
 obtain⟨en,cA,eo,ep,cm,cB⟩:=I.hV
 have aF:=c.lt
 have r:∀B,B<m→B∉[m]:=A7
 have T:∀B,B<2→B∉[m]:=fun B hc=>r B Ac
 have cn:∀B,AX X aq B→B∉[m]:=fun B hc ar=>by rcases Tt.1 ar with rfl;exact hc.2 A
 have eq:=S.one;have er:=S.size
 obtain⟨aX,aY,aZ,ba,bb,co,bc,bd,cp,rfl,a2⟩:=id S
 simp only[N.wt]at hw
 simp only[N.nodes]at ar
 refine cY Tryz.func11 fun b=>ac 2<|bX rfl fun u es et eu aH d=>bX rfl fun t ev ew ex aI g=>au 4<|lD (Gb d) rfl rfl<|cX (yV D _) ?_
 rintro _ ey ez e0 ⟨cq,cr,cs,rfl,cC⟩
 refine au 13<|cX (xw c.g _) ?_
 rintro _ e1 e2 e3 ⟨cD,rfl,c,b8⟩
 refine DL.b rfl rfl (Y.not rfl) (fun a3 cE=>?_)
 refine au 1<|DL.gY (p:=(!a3)) (by cases a3<;>rfl) rfl (fun h=>by cases a3<;>first|(cases h;done)|exact Y.sf (v:=.bool cs) rfl)<|DL.gB (p:=(!a3)) (by cases a3<;>rfl) rfl (fun h=>by cases a3<;>first|(cases h;done)|exact Y.not rfl) (fun cF cG=>?_)
 refine DL.b rfl rfl (Y.or (q:=cF) rfl rfl oV) (fun G cH=>?_)
 refine au 1<|DL.gY (p:=(!G)) (by cases G<;>rfl) rfl (fun h=>by cases G<;>first|(cases h;done)|exact Y.field F.o9 rfl)<|DL.gY (p:=(!G)) (by cases G<;>rfl) rfl (fun h=>by cases G<;>first|(cases h;done)|exact Y.hY F.mF rfl (Gb d) rfl)<|DL.gY (p:=(!G)) (by cases G<;>rfl) rfl (fun h=>by cases G<;>first|(cases h;done)|exact Y.mW Tryz.underlying27 rfl)<|DL.gY (p:=(!G)) (by cases G<;>rfl) rfl (fun h=>by cases G<;>first|(cases h;done)|exact Y.move)<|DL.gB (p:=(!G)) (by cases G<;>rfl) rfl (fun h=>by cases G<;>first|(cases h;done)|exact Y.lt rfl rfl) (fun cI cJ=>?_)
 refine DL.b rfl rfl (Y.or (q:=cI) rfl rfl oV) (fun H cK=>?_)
 refine au 1<|DL.gY (p:=(!H)) (by cases H<;>rfl) rfl (fun h=>by cases H<;>first|(cases h;done)|exact Y.field F.o9 rfl)<|DL.gY (p:=(!H)) (by cases H<;>rfl) rfl (fun h=>by cases H<;>first|(cases h;done)|exact Y.hY F.mF rfl (Gb d) rfl)<|DL.gY (p:=(!H)) (by cases H<;>rfl) rfl (fun h=>by cases H<;>first|(cases h;done)|exact Y.mW Tryz.underlying27 rfl)<|DL.gY (p:=(!H)) (by cases H<;>rfl) rfl (fun h=>by cases H<;>first|(cases h;done)|exact Y.move)<|DL.gB (p:=(!H)) (by cases H<;>rfl) rfl (fun h=>by cases H<;>first|(cases h;done)|exact Y.gt rfl rfl) (fun cL cM=>?_)
 refine DL.b rfl rfl (Y.or (q:=cL) rfl rfl oV) (fun e4 cN=>?_)
 refine au 1<|DC.cond rfl (fun be=>?_) (fun be=>?_)
 ·refine ac 2 ?_
  obtain⟨cO,cP,aJ,_⟩:=id c
  exact au 3<|sc aJ rfl rfl rfl rfl fun cQ e5 e6 cR=>have c:Lk cQ m true:=⟨_,_,cR,fun h=>by cases h⟩;au 2<|rY b.g ⟨_,c,fun h=>by cases h⟩
 have al:cD=true∧cs=true∧cq≤ks.length∧ks.length≤cr:=by simp only[cN,cM,cK,cJ,cH,cG,cE,Uq,TJ,VA]at be;exact⟨be.1.1.1,be.1.1.2,Ac,Ac⟩
 have a4:ye D ks.length:=⟨cq,cr,cC al.2.1,al.2.2.1,al.2.2.2⟩
 have e7:=(b8 al.1).2
 rw[al.1]at c
 refine ac 1<|DC.lG (σ:=Bool) (fun bf=>[(0,Pt m),(3,.int .i64 P),(5,Pt u),(6,Pt t)]) (fun bf w=>Fr [m] aq w∧w.heap[u]? =some (.cells #[.string D,.string ae,aw,ax,ay,az,a0,a1,.slice aW ks.length a8,.slice a9 a7.length aA,.slice aB ps.length aC,.slice aD aa.length aE] 31 (0,0))∧w.heap[t]? =some (.cells #[.slice ba aX.length bc,.slice bb aY.length bd,.slice co aZ.length cp] 45 (0,0))∧Lk w m bf∧(bf=false→c7=false∧(D=Cr∨b7=V0))) ?_ ?_
 ·refine ac 3<|lD (Gb d) rfl rfl<|DL.b rfl rfl (Y.vK rfl rfl) (fun e8 cS=>?_)
  refine au 1<|DC.cond rfl (fun ct=>?_) (fun ct=>?_)
  ·refine ac 3<|lA (cs:=#[aw,ax,ay,az,a0,a1]) ((hB.hE (Gb d)).sub 2 yU (TM rfl)) rfl rfl<|cX (tX b7 _ _ _ (I.fr b.g r).oM) ?_
   rintro _ e9 eA eB ⟨eC,rfl,cT⟩
   exact cX (ix c.g _) fun _ eD eE eF ⟨eG,c,cU⟩=>au 1 ⟨_,⟨rfl,rfl,rfl,rfl⟩,b.g,(Gb d),(Gb g),c,fun o=>by obtain⟨O,C⟩:=cU o;exact⟨(b8 al.1).1,Tk (cT C)⟩⟩
  exact ac 1 ⟨_,⟨rfl,rfl,rfl,rfl⟩,b.g,(Gb d),(Gb g),c,fun o=>⟨(b8 al.1).1,Ts (by simpa[cS]using ct)⟩⟩
 clear b d g c
 rintro bf C eH ⟨b,d,g,c,cu⟩
 have bg:=b.size;have aF:=c.lt;have aH:=hC d;have aI:=hC g
 refine ac 4<|lD d rfl rfl<|cX (E4 c Q cA (R.fr b T)) fun _ eI eJ eK ⟨eL,c,cv⟩=>au 4<|lw (Gb d) rfl rfl<|lw (Gb g) rfl rfl<|cX (x7 c Q (R.fr b.g T) Ac (I.fr b.g r) ((S.xu (l:=[]) b.g A (by intro x hx;cases hx)).mono (fun B hc=>⟨hc.1,fun h=>hc.2 (Ts h)⟩) (Tv _) (fun o=>(cu (cv o).1).1)) A (fun e=>by subst e;exact a4.slice)) fun _ eM eN eO ⟨b9,c,cV⟩=>au 4 ?_
 obtain⟨cO,cP,aJ,_⟩:=id c
 refine au 3<|lD aJ rfl rfl<|au 1<|DC.cond rfl (fun bA=>?_) (fun bA=>?_)
 ·exact ac 1<|rY b.g ⟨_,c,fun o=>Tu (bA.symm.trans o) Ah⟩
 have o:=bA
 obtain⟨cW,am⟩:=cV o
 obtain⟨cZ,bB⟩:=cv cW
 obtain⟨J,bC⟩:=cu cZ
 have bD:=a2.2.2.2.2.2
 have bE:=a2.2.2.2.1;have eP:=a2.2.2.2.2.1
 refine ac 1<|DC.lG (σ:=Bool×Nat×Value×Value×Value) (fun(ah,aL,K,L,M)=>[(0,Pt m),(3,.int .i64 P),(5,Pt u),(6,Pt t)]) (fun(ah,aL,K,L,M) w=>Fr [m] aq w∧w.heap[u]? =some (.cells #[.string D,.string ae,aw,ax,ay,az,a0,a1,.slice aW ks.length a8,.slice a9 a7.length aA,.slice aB ps.length aC,.slice aD aa.length aE] 31 (0,0))∧w.heap[t]? =some (.cells #[K,L,M] 45 (0,0))∧Lk w m ah∧me w (AX (XB X [t,u]) w) aL ah #[K,L,M]∧aL+4*N.h9 ks≤67108864∧ps=[]∧(ah=false→b9=false∧(D=Cs→∀(i:Nat)(h:i<aa.length),∃bF,Gd 2 aa[i] bF))) ?_ ?_
 ·refine ac 3<|lD (Gb d) rfl rfl<|au 4<|jS rfl rfl (fun aM=>?_) (fun aM=>?_)
  ·subst aM
   obtain⟨da,db,rfl⟩:=a4.two (Ts rfl)
   obtain⟨cw,cx,bG,bH,aN,bI,bJ,bK⟩:=I.kF (i:=0) Al
   cases bH
   obtain⟨dc,dd,bL,bM,aO,bN,bO,bP⟩:=I.kF (i:=1) Al
   cases bM
   simp only[N.h9]at hw
   simp only[N.iy]at ar
   refine au 4<|DC.mz [m] F.mixed fun de bQ eQ=>have bQ:=Sp.mk bQ;have eR:=bQ.size;have E:=Fr.refl [m] de;aK [0,1]<|kT 2 rfl (fun q f=>Y.hY F.mF rfl (f.hO (Gb d) Ax) rfl)<|kT 3 rfl (fun q f=>Y.index F.iI rfl rfl ((rfl:(0:Int)=((0:Nat):Int))) Al)<|kT 4 rfl (fun q f=>Y.iU (cs:=bG) bJ F.hN rfl ((bI.fr b.g (r _ aN)).fr f (r _ aN)))<|kT 5 rfl (fun q f=>Y.jl rfl (f.hO (Gb g) Ax) F.sD)<|aK [6]<|kT 7 rfl (fun q f=>Y.mm (c:=P+1) rfl rfl Ac Ac Ac)<|kP 8<|cX (ak da _ _ _ (XB X [t,u]) m _ _ _ Ac (bK.fr b.g r) (av 0 Al) c.g Q (R.fr b.g T) (XB.lt Z b.g Aj) (Ts A) ((S.xu (l:=[t,u]) b.g A Aj).up (Tv _) (fun _=>J)) Ac Ac Ac) fun _ eS eT eU ⟨eV,c,df⟩=>kN E.g<|kD<|ac 1<|DC.mz [m] F.mixed fun dg bR eW=>have bR:=Sp.mk bR;have eX:=bR.size;have E:=Fr.refl [m] dg;aK [0,1]<|kT 2 rfl (fun q f=>Y.hY F.mF rfl (f.hO (Gb d) Ax) rfl)<|kT 3 rfl (fun q f=>Y.index F.iI rfl rfl ((rfl:(1:Int)=((1:Nat):Int))) Al)<|kT 4 rfl (fun q f=>Y.iU (cs:=bL) bO F.hN rfl ((bN.fr b.g (r _ aO)).fr f (r _ aO)))<|aK [5,6]<|kT 7 rfl (fun q f=>Y.hY F.pU rfl (f.hO (Gb d) Ax) rfl)<|kT 8 rfl (fun q f=>Y.jl rfl (f.hO (Gb g) Ax) F.sD)<|aK [9]<|aK [11]<|kT 12 rfl (fun q f=>Y.mm (c:=P+1) rfl rfl Ac Ac Ac)<|kP 10 ?_
   obtain⟨dh,bS,bT⟩:=I.wj
   have bU:=bS.fr b.g r
   have bV:=fun i h=>(bT i h).fr b.g r
   refine cX (tP bU bV cl c.g Q (R.fr b.g T) (XB.lt Z b.g Aj) (Ts A) ((S.xu (l:=[t,u]) b.g A Aj).up (Tv _) (fun _=>J)) Ac cm h0 Ac) ?_
   rintro _ eY eZ fa ⟨fb,di,rfl,c,v,dj⟩
   obtain⟨K,L,M,rfl⟩:=v.three
   refine kN E.g<|kP 13<|cX (ak db _ _ _ (XB X [t,u]) m _ _ _ Ac (bP.fr b.g r) (av 1 Al) c Q (R.fr b.g T) (XB.lt Z b.g Aj) (Ts A) (v.up (Tv _) id) Ac Ac Ac) fun _ fc fd fe ⟨ff,c,dk⟩=>kN E.g<|kD<|ac 1<|hD.Hp (hH.mk b.g ⟨_,c,fun o=>?_⟩)
   obtain⟨O,C⟩:=dk o
   obtain⟨ab,U⟩:=dj O
   obtain⟨cy,bW⟩:=df ab
   exact⟨J,qY a4 am bC bB (fun y hj=>by match y,hj with|0,_=>exact⟨by simp,Ts bW⟩|1,_=>exact⟨by simp,Ts C⟩) (fun _=>U) (fun e=>Tu e Ah)⟩
  refine au 3<|DC.lG (σ:=Bool) (fun aP=>[(0,Pt m),(3,.int .i64 P),(5,Pt u),(6,Pt t),(66,.string D),(92,.bool aP)]) (fun aP w=>Fr [m] aq w∧w.heap[u]? =some (.cells #[.string D,.string ae,aw,ax,ay,az,a0,a1,.slice aW ks.length a8,.slice a9 a7.length aA,.slice aB ps.length aC,.slice aD aa.length aE] 31 (0,0))∧w.heap[t]? =some (.cells #[.slice ba aX.length bc,.slice bb aY.length bd,.slice co aZ.length cp] 45 (0,0))∧Lk w m b9∧(aP=true→D=Ct∨D=Ck)∧(aP=false→D≠Ct∧D≠Ck)) ?_ ?_
  ·refine ac 2<|jS rfl rfl (fun bY=>?_) (fun bY=>?_)
   ·exact au 4 ⟨_,⟨rfl,rfl,rfl,rfl,rfl,rfl⟩,b.g,(Gb d),(Gb g),c,fun _=>Ts bY,fun h=>by cases h⟩
   refine au 4<|jS rfl rfl (fun bZ=>?_) (fun bZ=>?_)
   ·exact au 2 ⟨_,⟨rfl,rfl,rfl,rfl,rfl,rfl⟩,b.g,(Gb d),(Gb g),c,fun _=>Tk bZ,fun h=>by cases h⟩
   exact au 2 ⟨_,⟨rfl,rfl,rfl,rfl,rfl,rfl⟩,b.g,(Gb d),(Gb g),c,(fun h=>by cases h),fun _=>⟨bY,bZ⟩⟩
  clear b d g c aJ
  rintro aP C fg ⟨b,d,g,c,cz,a5⟩
  have bg:=b.size;have aF:=c.lt;have aH:=hC d;have aI:=hC g
  refine DC.cond rfl (fun af=>?_) (fun af=>?_)
  ·have c0:=a4.L4 (cz af)
   obtain⟨cw,cx,bG,bH,aN,bI,bJ,bK⟩:=I.kF (i:=0) Ac
   cases bH
   obtain⟨dc,dd,bL,bM,aO,bN,bO,bP⟩:=I.kF (i:=1) Ac
   cases bM
   have hw0:=N.iP (l:=ks) (i:=0) Ac;have fh:=N.iP (l:=ks) (i:=1) Ac;have fi:=N.jo (l:=ks) (k:=0) Ac;have fj:=N.jo (l:=ks) (k:=1) Ac
   refine ac 1<|DC.mz [m] F.mixed fun dl ca fk=>have ca:=Sp.mk ca;have fl:=ca.size;have E:=Fr.refl [m] dl;aK [0,1]<|kT 2 rfl (fun q f=>Y.hY F.mF rfl (f.hO (Gb d) Ax) rfl)<|kT 3 rfl (fun q f=>Y.index F.iI rfl rfl ((rfl:(0:Int)=((0:Nat):Int))) ((Tj Ah c0:0<ks.length)))<|kT 4 rfl (fun q f=>Y.iU (cs:=bG) bJ F.hN rfl ((bI.fr b.g (r _ aN)).fr f (r _ aN)))<|kT 5 rfl (fun q f=>Y.jl rfl (f.hO (Gb g) Ax) F.sD)<|aK [6]<|kT 7 rfl (fun q f=>Y.mm (c:=P+1) rfl rfl Ac Ac Ac)<|kP 8<|cX (ak _ _ _ _ (XB X [t,u]) m _ _ _ Ac (bK.fr b.g r) (av 0 Ac) c.g Q (R.fr b.g T) (XB.lt Z b.g Aj) (Ts A) ((S.xu (l:=[t,u]) b.g A Aj).up (Tv _) (fun _=>J)) Ac Ac Ac) fun _ fm fn fo ⟨fp,c,dm⟩=>kN E.g<|kD<|ac 1<|DC.mz [m] F.mixed fun dn cb fq=>have cb:=Sp.mk cb;have fr:=cb.size;have E:=Fr.refl [m] dn;aK [0,1]<|kT 2 rfl (fun q f=>Y.hY F.mF rfl (f.hO (Gb d) Ax) rfl)<|kT 3 rfl (fun q f=>Y.index F.iI rfl rfl ((rfl:(1:Int)=((1:Nat):Int))) ((Tj Ah c0:1<ks.length)))<|kT 4 rfl (fun q f=>Y.iU (cs:=bL) bO F.hN rfl ((bN.fr b.g (r _ aO)).fr f (r _ aO)))<|kT 5 rfl (fun q f=>Y.jl rfl (f.hO (Gb g) Ax) F.sD)<|aK [6]<|kT 7 rfl (fun q f=>Y.mm (c:=P+1) rfl rfl Ac Ac Ac)<|kP 8<|cX (ak _ _ _ _ (XB X [t,u]) m _ _ _ Ac (bP.fr b.g r) (av 1 Ac) c.g Q (R.fr b.g T) (XB.lt Z b.g Aj) (Ts A) ((S.xu (l:=[t,u]) b.g A Aj).up (Tv _) (fun _=>J)) Ac Ac Ac) ?_
   rintro _ fs ft fu ⟨fv,c,dp⟩
   refine kN E.g<|kD<|ac 4<|lD (Gb d) rfl rfl<|lw (Gb g) rfl rfl<|au 1 ?_
   obtain⟨dh,bS,bT⟩:=I.wj
   have bU:=bS.fr b.g r
   have bV:=fun i h=>(bT i h).fr b.g r
   refine cX (tP bU bV cl c Q (R.fr b.g T) (XB.lt Z b.g Aj) (Ts A) ((S.xu (l:=[t,u]) b.g A Aj).up (Tv _) (fun _=>J)) Ac cm h0 Ac) ?_
   rintro _ fw fx fy ⟨cc,di,rfl,c,v,dq⟩
   obtain⟨K,L,M,rfl⟩:=v.three
   refine sA (cs:=#[K,L,M]) (Gb g) rfl rfl rfl rfl v.one fun fz dr f0 g=>have v:=v.x1 dr.f (Tk Al);au 7<|lE [m] aq (σ:=Nat×Bool) [(11,11),(119,135)] [(5,Pt u),(6,Pt t),(0,Pt m),(3,.int .i64 P)] (fun(i,_)=>[(11,.int .i64 (i:Int))]) (fun(i,an) w=>2≤i∧i≤ks.length∧w.heap[u]? =some (.cells #[.string D,.string ae,aw,ax,ay,az,a0,a1,.slice (some ⟨cw,cx,none⟩) ks.length a8,.slice a9 a7.length aA,.slice aB ps.length aC,.slice aD aa.length aE] 31 (0,0))∧w.heap[t]? =some (.cells #[K,L,M] 45 (0,0))∧Lk w m an∧me w (AX (XB X [t,u]) w) (aV+N.h9 ps) cc #[K,L,M]∧(an=false→cc=false∧∀(y:Nat)(h:y<ks.length),2≤y→y<i→∃bF,Gd 0 ks[y] bF)) (fun(i,_)=>ks.length - i) ((2,cc)) ?_ ?_
   ·exact⟨b.g,Tv _,Ac,(Gb d),g,c.g,v,fun o=>⟨o,fun y hj h2 h=>Tu h Ac⟩⟩
   clear b d c v g
   rintro C ⟨i,an⟩ y f1 ⟨b,f2,ds,d,g,c,v,cd⟩
   have bg:=b.size
   have aH:=hC d
   have aI:=hC g
   have aF:=c.lt
   refine ac 5<|lD d rfl rfl<|au 1<|jX rfl rfl (fun dt=>?_) (fun dt=>?_)
   ·have hi:i<ks.length:=by omega
    obtain⟨du,dv,dw,ce,ao,aQ,bh,aj⟩:=I.kF (i:=i) hi
    cases ce
    have aR:=av i hi;have cf:=N.jo hi;have cg:=N.iP hi
    generalize bi:ks[i]=ch at aj aR cf cg
    obtain⟨aS,bj,dx,bk,bl,bm,bn⟩:=ch
    obtain⟨bo,bp,bq,br,bs,bt,bu,bv,bw,bx,bz,b0,b1,b2,rfl⟩:=aj.hI
    refine au 5<|DC.mz [m] F.mixed fun dy b3 f3=>have b3:=Sp.mk b3;have f4:=b3.size;have v:=v.x0 b3.f;have E:=Fr.refl [m] dy;aK [0,1]<|kT 2 rfl (fun q f=>Y.hY F.mF rfl (f.hO (Gb d) Ax) rfl)<|aK [3]<|kT 4 rfl (fun q f=>Y.index F.iI rfl rfl ((rfl:(i:Int)=(i:Int))) (hi))<|kT 5 rfl (fun q f=>Y.iU (cs:=#[.string aS,.string bj,bw,bx,bz,b0,b1,b2,.slice bo bl.length bp,.slice bq bk.length br,.slice bs bm.length bt,.slice bu bn.length bv]) bh F.hN rfl ((aQ.fr b.g (r _ ao)).fr f (r _ ao)))<|kT 6 rfl (fun q f=>Y.jl rfl (f.hO (Gb g) Ax) F.sD)<|aK [7]<|kT 8 rfl (fun q f=>Y.mm (c:=P+1) rfl rfl Ac Ac Ac)<|kP 9<|cX (ak _ _ _ _ (XB X [t,u]) m _ _ _ Ac (aj.fr b.g r) aR c.g Q (R.fr b.g T) (XB.lt Z b.g Aj) (Ts A) (v.up (Tv _) (fun o=>(cd o).1)) Ac Ac Ac) fun _ f5 dz f6 ⟨f7,c,d0⟩=>have v:=v.x1 dz.f (Ts A);kN E.g<|kD<|ac 2<|ai ((i+1:Nat):Int) rfl rfl<|au 2 ?_
    refine⟨(i+1,_),⟨b.g,Ac,Ac,(Gb d),(Gb g),c,v,fun o=>?_⟩,Bi,rfl⟩
    obtain⟨O,C⟩:=d0 o
    obtain⟨ab,U⟩:=cd O
    refine⟨ab,fun y hj h2 c1=>?_⟩
    by_cases h:y=i
    ·subst h;rw[bi];exact C
    exact U y hj h2 Ac
   refine au 3<|ac 1<|hD.Hp (hH.mk b ⟨_,c,fun o=>?_⟩)
   obtain⟨O,C⟩:=cd o
   obtain⟨ab,U⟩:=dq O
   obtain⟨cy,bW⟩:=dp ab
   obtain⟨f8,d1⟩:=dm cy
   exact⟨J,qY a4 am bC bB (fun y hj=>by match y,hj with|0,_=>exact⟨Ac,Ts d1⟩|1,_=>exact⟨Ac,Ts bW⟩|y+2,hj=>exact⟨hj,Ts (C _ hj Ac Ac)⟩) (fun _=>U) (fun e=>Tu e (by rcases cz af with h|h<;>(rw[h];decide)))⟩
  refine ac 2<|jS rfl rfl (fun c2=>?_) (fun c2=>?_)
  ·subst c2
   have d2:ke ae:=by have:=am.sp;cases this with|label h=>exact h|De h=>exact Tu rfl (h _ BI)
   refine au 3<|dR [] 14 fun f9 d4 fA E=>have fB:=d4.size;aG [0]<|gL 1 (Gb g) rfl rfl rfl<|aG [2]<|gL 3 (Gb g) rfl rfl rfl<|aG [4,5]<|gL 6 (Gb g) rfl rfl rfl<|aG [7]<|gf 8 rfl (fun q=>Y.slice3 F.ku rfl rfl rfl bE.2.2)<|aG [9]<|gL 10 (Gb d) rfl rfl rfl<|gp 11<|DL.iu rfl rfl (F.lT) rfl rfl rfl fun fC fD ci fE fF d5=>have ci:=Sp.mk ci;have fG:=ci.size;gn E.g<|gp 12 ?_
   have d6:=(a2.2.2.1.fr b.g (fun B hc ar=>by rcases Tt.1 ar with rfl;exact hc.2 A)).mono (AX.up (l:=[t,u]) b.g Aj)
   refine DL.ot rfl rfl F.lT rfl rfl d6 (ja (l:=[ae]) d5) (by simp only[To,Tw];omega) fun c3 c4 fH ap aT d7=>have aT:=aT.new (XB.lt Z b.g Aj) ap.size;have b:=b.g.jP ap;have E:=E.g.jP ap;have fI:=ap.size;have d:=ap.il (Gb d);have g:=ap.il (Gb g);have c:=c.g.k9 ap;gn E<|aG [13]<|gp 14<|sc g rfl rfl rfl rfl fun d8 d9 fJ dA=>have aT:=aT.x1 d9.f (Tk Al);have g:d8.heap[t]? =some (.cells #[.slice ba aX.length bc,.slice bb aY.length bd,.slice c3 (aZ++[ae]).length c4] 45 (0,0)):=dA;gl<|gD ?_
   have dB:=(a2.1.fr b.g cn).mono (AX.up (l:=[t,u]) b.g Aj)
   have dC:=(a2.2.1.fr b.g cn).mono (AX.up (l:=[t,u]) b.g Aj)
   exact⟨(b9,aV+1,_,_,_),⟨rfl,rfl,rfl,rfl⟩,b.g,(Gb d),g,c.g,⟨aX,aY,aZ++[ae],ba,bb,c3,bc,bd,c4,rfl,dB,dC,aT,⟨bE.1,bE.2.1,d7⟩,⟨Ac,Ac,by simp only[Tl,TG];omega⟩,fun _=>⟨(bD J).1,(bD J).2.1,fun s hs=>by rcases Uc.1 hs with hs|hs;exact(bD J).2.2 s hs;rw[Tt.1 hs];exact d2⟩⟩,Ac,am.Kj aM (a5 af).1 (a5 af).2,fun o=>⟨o,fun e=>Tu e Ah⟩⟩
  refine au 5<|jS rfl rfl (fun cj=>?_) (fun cj=>?_)
  ·subst cj
   refine au 6<|lD d rfl rfl<|lw g rfl rfl<|au 1 ?_
   obtain⟨fK,dD,dE⟩:=I.zL
   have dF:=dD.fr b r
   have dG:=fun i h=>(dE i h).fr b r
   refine cX (Fl ak dF dG c9 Ac c Q (R.fr b T) (XB.lt Z b Aj) (Ts A) ((S.xu (l:=[t,u]) b A Aj).up (Tv _) (fun _=>J)) Ac cB h0 Ac) ?_
   rintro _ fL fM fN ⟨fO,fP,rfl,c,aU,c5⟩
   obtain⟨K,L,M,rfl⟩:=aU.three
   exact sA (cs:=#[K,L,M]) (Gb g) rfl rfl rfl rfl aU.one fun fQ dH fR g=>have aU:=aU.x1 dH.f (Tk Al);au 1 ⟨(_,aV+N.h9 aa,_,_,_),⟨rfl,rfl,rfl,rfl⟩,b.g,(Gb d),g,c.g,aU,Ac,am.Kj aM (a5 af).1 (a5 af).2,fun o=>⟨(c5 o).1,fun _=>(c5 o).2⟩⟩
  exact au 4 ⟨(_,aV,_,_,_),⟨rfl,rfl,rfl,rfl⟩,b,d,g,c,(S.xu (l:=[t,u]) b A Aj).up (Tv _) (fun _=>J),Ac,am.Kj aM (a5 af).1 (a5 af).2,fun o=>⟨o,fun e=>Tu e cj⟩⟩
 clear b d g c aJ
 rintro⟨ah,aL,K,L,M⟩ C fS ⟨b,d,g,c,v,fT,dI,dJ⟩
 have bg:=b.size;have aF:=c.lt;have aH:=hC d;have aI:=hC g
 refine ac 5<|lE [m] aq (σ:=Nat×Bool) [(12,12),(160,210)] [(5,Pt u),(6,Pt t),(0,Pt m),(3,.int .i64 P)] (fun(i,_)=>[(12,.int .i64 (i:Int))]) (fun(i,an) w=>i≤ks.length∧w.heap[u]? =some (.cells #[.string D,.string ae,aw,ax,ay,az,a0,a1,.slice aW ks.length a8,.slice a9 a7.length aA,.slice aB ps.length aC,.slice aD aa.length aE] 31 (0,0))∧w.heap[t]? =some (.cells #[K,L,M] 45 (0,0))∧Lk w m an∧me w (AX (XB X [t,u]) w) aL ah #[K,L,M]∧(an=false→ah=false∧∀(y:Nat)(h:y<ks.length),y<i→E8 D ks y)) (fun(i,_)=>ks.length - i) ((0,ah)) ?_ ?_
 ·exact⟨b,TE _,d,g,c,v,fun o=>⟨o,fun y hj h=>Tu h Ac⟩⟩
 clear b d g c v
 rintro C ⟨i,an⟩ y fU ⟨b,ds,d,g,c,v,b4⟩
 have bg:=b.size
 have aH:=hC d
 have aI:=hC g
 have aF:=c.lt
 refine ac 5<|lD d rfl rfl<|au 1<|jX rfl rfl (fun dK=>?_) (fun dK=>?_)
 ·have hi:i<ks.length:=by omega
  obtain⟨du,dv,dw,ce,ao,aQ,bh,aj⟩:=I.kF (i:=i) hi
  cases ce
  have aR:=av i hi;have cf:=N.jo hi;have cg:=N.iP hi
  generalize bi:ks[i]=ch at aj aR cf cg
  obtain⟨aS,bj,dx,bk,bl,bm,bn⟩:=ch
  obtain⟨bo,bp,bq,br,bs,bt,bu,bv,bw,bx,bz,b0,b1,b2,rfl⟩:=aj.hI
  refine au 9<|lD d rfl rfl<|au 1<|iX F.iI (hi) rfl rfl ((rfl:(i:Int)=(i:Int)))<|au 1<|lC (b.cell (aQ.cell 0 rfl) (r _ ao)) rfl<|DL.b rfl rfl (Y.seq rfl rfl) (fun j dL=>?_)
  refine au 1<|DL.gY (p:=j) (by cases j<;>rfl) rfl (fun h=>by subst h;exact Y.field F.l7 rfl)<|DL.gY (p:=j) (by cases j<;>rfl) rfl (fun h=>by subst h;exact Y.hY F.oq rfl d rfl)<|DL.gB (p:=j) (by cases j<;>rfl) rfl (fun h=>by subst h;exact Y.seq rfl rfl) (fun a6 dM=>?_)
  refine DL.gY (p:=j) (by cases j<;>rfl) rfl (fun h=>by subst h;exact Y.move)<|DL.gY (p:=(j&&a6)) (by cases j<;>cases a6<;>rfl) rfl (fun h=>by cases j<;>cases a6<;>first|(cases h;done)|exact Y.move)<|DL.gB (p:=(j&&a6)) (by cases j<;>cases a6<;>rfl) rfl (fun h=>by cases j<;>cases a6<;>first|(cases h;done)|exact Y.gt rfl rfl) (fun dN dO=>?_)
  refine DL.gB (p:=j) (by cases j<;>rfl) rfl (fun h=>by subst h;exact Y.and (q:=dN) rfl oV rfl) (fun z dP=>?_)
  refine DL.gY (p:=j) (by cases j<;>rfl) rfl (fun h=>by subst h;exact Y.move)<|DL.gY (p:=(j&& !z)) (by cases j<;>cases z<;>rfl) rfl (fun h=>by cases j<;>cases z<;>first|(cases h;done)|exact Y.field F.l7 rfl)<|DL.gY (p:=(j&& !z)) (by cases j<;>cases z<;>rfl) rfl (fun h=>by cases j<;>cases z<;>first|(cases h;done)|exact Y.hY F.oq rfl d rfl)<|DL.gB (p:=(j&& !z)) (by cases j<;>cases z<;>rfl) rfl (fun h=>by cases j<;>cases z<;>first|(cases h;done)|exact Y.seq rfl rfl) (fun ag dQ=>?_)
  refine DL.gY (p:=(j&& !z)) (by cases j<;>cases z<;>rfl) rfl (fun h=>by cases j<;>cases z<;>first|(cases h;done)|exact Y.move)<|DL.gY (p:=(j&& !z&&ag)) (by cases j<;>cases z<;>cases ag<;>rfl) rfl (fun h=>by cases j<;>cases z<;>cases ag<;>first|(cases h;done)|exact Y.move)<|DL.gY (p:=(j&& !z&&ag)) (by cases j<;>cases z<;>cases ag<;>rfl) rfl (fun h=>by cases j<;>cases z<;>cases ag<;>first|(cases h;done)|exact Y.rem rfl rfl Ah)<|DL.gB (p:=(j&& !z&&ag)) (by cases j<;>cases z<;>cases ag<;>rfl) rfl (fun h=>by cases j<;>cases z<;>cases ag<;>first|(cases h;done)|exact Y.eq rfl rfl) (fun dS dT=>?_)
  refine DL.gB (p:=(j&& !z)) (by cases j<;>cases z<;>rfl) rfl (fun h=>by cases j<;>cases z<;>first|(cases h;done)|exact Y.and (q:=dS) rfl oV rfl) (fun dU dV=>?_)
  refine DL.gB (p:=j) (by cases j<;>rfl) rfl (fun h=>by subst h;exact Y.or (q:=dU) rfl rfl oV) (fun dW dX=>?_)
  refine DL.b rfl rfl (Y.and (q:=dW) rfl oV rfl) (fun fV dY=>?_)
  refine au 1<|DC.cond rfl (fun b5=>?_) (fun b5=>?_)
  ·have c6:aS=Cn∧((D=Co∧0<i)∨(D=Cm∧i%2=1)):=by simp only[dY,dX,dV,dT,dQ,dP,dO,dM,dL,Tx,TO,TA]at b5;exact⟨b5.1,b5.2.imp (fun h=>⟨h.1,Ac⟩) (fun h=>⟨h.1,by have:=h.2;rw[Vm Ac]at this;omega⟩)⟩
   refine ac 4<|lD d rfl rfl<|au 1<|iX F.iI (hi) rfl rfl ((rfl:(i:Int)=(i:Int)))<|lA (cs:=#[.string aS,.string bj,bw,bx,bz,b0,b1,b2,.slice bo bl.length bp,.slice bq bk.length br,.slice bs bm.length bt,.slice bu bn.length bv]) (aQ.fr b (r _ ao)) bh rfl<|cX (mO _ _ _ (aj.fr b r)) ?_
   rintro _ fW dZ fX ⟨fY,rfl,ea⟩
   refine cX (ix c.g _) fun _ fZ eb ga ⟨gb,c,ec⟩=>have v:=(v.x0 dZ.f).x1 eb.f (Ts A);au 2<|ac 2<|ai ((i+1:Nat):Int) rfl rfl<|au 2 ?_
   refine⟨(i+1,_),⟨b.g,Ac,(Gb d),(Gb g),c,v,fun o=>?_⟩,Bi,rfl⟩
   obtain⟨O,C⟩:=ec o
   obtain⟨ab,U⟩:=b4 O
   refine⟨ab,fun y hj c1=>?_⟩
   by_cases h:y=i
   ·subst h;obtain⟨ed,ee,ef,eg,eh,ei⟩:=ea C;exact⟨hj,Tk ⟨by rw[bi,ed,ee,ef,eg,eh,ei,c6.1],c6.2⟩⟩
   exact U y hj Ac
  refine ac 1<|DC.mz [m] F.mixed fun ej b6 gc=>have b6:=Sp.mk b6;have gd:=b6.size;have v:=v.x0 b6.f;have E:=Fr.refl [m] ej;aK [0,1]<|kT 2 rfl (fun q f=>Y.hY F.mF rfl (f.hO (Gb d) Ax) rfl)<|aK [3]<|kT 4 rfl (fun q f=>Y.index F.iI rfl rfl ((rfl:(i:Int)=(i:Int))) (hi))<|kT 5 rfl (fun q f=>Y.iU (cs:=#[.string aS,.string bj,bw,bx,bz,b0,b1,b2,.slice bo bl.length bp,.slice bq bk.length br,.slice bs bm.length bt,.slice bu bn.length bv]) bh F.hN rfl ((aQ.fr b.g (r _ ao)).fr f (r _ ao)))<|kT 6 rfl (fun q f=>Y.jl rfl (f.hO (Gb g) Ax) F.sD)<|aK [7]<|kT 8 rfl (fun q f=>Y.mm (c:=P+1) rfl rfl Ac Ac Ac)<|kP 9<|cX (ak _ _ _ _ (XB X [t,u]) m _ _ _ Ac (aj.fr b.g r) aR c.g Q (R.fr b.g T) (XB.lt Z b.g Aj) (Ts A) (v.up (Tv _) (fun o=>(b4 o).1)) Ac Ac Ac) fun _ ge ek gg ⟨gh,c,el⟩=>have v:=v.x1 ek.f (Ts A);kN E.g<|kD<|ac 2<|ai ((i+1:Nat):Int) rfl rfl<|au 2 ?_
  refine⟨(i+1,_),⟨b.g,Ac,(Gb d),(Gb g),c,v,fun o=>?_⟩,Bi,rfl⟩
  obtain⟨O,C⟩:=el o
  obtain⟨ab,U⟩:=b4 O
  refine⟨ab,fun y hj c1=>?_⟩
  by_cases h:y=i
  ·subst h;exact⟨hj,Ts (by rw[bi];exact C)⟩
  exact U y hj Ac
 refine au 3<|hD.nf (hH.mk b ⟨_,c,fun o=>?_⟩)
 obtain⟨O,C⟩:=b4 o
 obtain⟨ab,U⟩:=dJ O
 exact⟨J,qY a4 am bC bB (fun y hj=>C y hj Ac) (fun _ i h=>by exfalso;rw[dI]at h;simp at h) U⟩
theorem oS:∀b,N0 b
 |0=>fun c _ _ _ _ _ _ _ _ d=>Tu (N.kh c) Ac
 |b+1=>rj b (oS b)
theorem Pb(b:World)(c:Nat→Prop):me b c 0 false #[Zl,Zl,Zl]:=
 ⟨[],[],[],none,none,none,0,0,0,rfl,fun i h=>Tu h Al,fun i h=>Tu h Al,fun i h=>Tu h Al,by simp,by simp,by simp⟩
theorem vj(f:RN w (fun b=>b<w.heap.size) 0 q c)(l:Can 0 q)(m:ij w)(h2:2≤w.heap.size)(hw:q.wt≤1048576):Calls Tryz.prog 5 #[.agg c] w (hH w [] fun o _=>∃k,o=.bool k∧(k=true→∃p,Gd 0 q p)):=by
 obtain⟨r,t,u,v,ks,ps,y⟩:=q
 obtain⟨F,G,H,I,J,K,L,M,O,P,Q,R,S,T,rfl⟩:=f.hI
 obtain⟨U,W,X,Y,Z,aa⟩:=f.hV
 refine cY Tryz.func5 fun g=>ac 2<|bX rfl fun ab ad ae af ag z=>au 4<|bD (lk 0 0 false)<|bX rfl fun j A ah ai aj B=>au 5<|lw (Gb z) rfl rfl<|bD #[Zl,Zl,Zl] ?_
 have d:Lk A j false:=⟨0,0,B,fun _=>by omega⟩
 refine cX (oS _ _ _ _ _ (fun b=>b=j) j 0 _ _ (Tv _) ((f.fr g.g Al).mono (fun b hc=>Tj hc Ac)) l d Ac (m.fr g.g Al) (fun b hc=>by subst hc;exact d.lt) rfl (Pb _ _) (by show 0+4*(N.mk r t u v ks ps y).wt≤_;omega) Ah Ah) fun _ ak al am ⟨an,d,C⟩=>au 3 ?_
 obtain⟨ao,ap,D,_⟩:=id d
 exact au 3<|lD D rfl rfl<|au 4<|rX g.g ⟨_,rfl,fun E=>(C (by simpa using E)).2⟩
theorem yI(f:hT w (fun g=>g<w.heap.size) b S.length 1 (strCells S))(hl:S.length≤140737488351232):Calls Tryz.prog 10 #[.slice b S.length m] w (hH w [] fun j _=>∃k,j=.bool k):=by
 refine cY Tryz.func10 fun c=>ac 9<|DL.b rfl rfl (Y.gt rfl rfl) (fun v y=>?_)
 refine au 1<|DC.cond rfl (fun l=>?_) (fun l=>?_)
 ·exact ac 5<|rX c ⟨_,rfl⟩
 refine ac 9<|lE [] w (σ:=Nat) [(2,2),(4,4),(10,17)] [(8,.slice b S.length m),(9,.int .i64 (S.length:Int))] (fun i=>[(10,.int .i64 (i:Int))]) (fun i z=>i≤S.length) (fun i=>S.length - i) (0) ?_ ?_
 ·exact⟨Fr.refl _ _,TE _⟩
 rintro A i B o ⟨d,C⟩
 have c:=c.jP d
 have D:=d.size
 have p:=d
 have E:=Fr.refl [] o
 refine ac 2<|jX rfl rfl (fun q=>?_) (fun q=>?_)
 ·obtain⟨G,H,r,I,t⟩:=f.str (show i<S.length by omega)
  cases r
  refine au 8<|iX F.ku (Ac) rfl rfl ((rfl:(i:Int)=(i:Int)))<|lC (c.cell t Al) rfl<|au 6<|DL.b rfl rfl (Y.gt rfl rfl) (fun J K=>?_)
  refine au 1<|DC.cond rfl (fun u=>?_) (fun u=>?_)
  ·exact ac 5<|rX c ⟨_,rfl⟩
  exact ac 2<|ai ((i+1:Nat):Int) rfl rfl<|au 2 ⟨i+1,⟨p,Ac⟩,(by show S.length - (i+1)<S.length - i;omega),rfl⟩
 exact au 4<|ac 5<|rX c ⟨_,rfl⟩
theorem yl(f:RN w (fun g=>g<w.heap.size) 0 q c):Calls Tryz.prog 4 #[.agg c] w (hH w [] fun j _=>∃k,j=.bool k):=by
 obtain⟨v,y,z,A,ks,ps,B⟩:=q
 obtain⟨C,D,E,F,G,H,I,J,K,L,M,O,P,Q,rfl⟩:=f.hI
 obtain⟨R,S,T,U,W,X⟩:=f.hV
 have l:=f.qp
 refine cY Tryz.func4 fun b=>ac 2<|bX rfl fun Z aa ab ad ae d=>au 6<|lD d rfl rfl<|au 1<|DL.b rfl rfl (Y.gt rfl rfl) (fun af ag=>?_)
 refine au 1<|DC.cond rfl (fun m=>?_) (fun m=>?_)
 ·exact ac 5<|rX b.g ⟨_,rfl⟩
 refine ac 5<|lD d rfl rfl<|au 1<|DL.b rfl rfl (Y.gt rfl rfl) (fun ah ai=>?_)
 refine au 1<|DC.cond rfl (fun o=>?_) (fun o=>?_)
 ·exact ac 5<|rX b.g ⟨_,rfl⟩
 refine ac 5<|lD d rfl rfl<|au 1<|DL.b rfl rfl (Y.gt rfl rfl) (fun aj ak=>?_)
 refine au 1<|DC.cond rfl (fun p=>?_) (fun p=>?_)
 ·exact ac 5<|rX b.g ⟨_,rfl⟩
 refine ac 5<|lD d rfl rfl<|cX (yI ((l.fr b.g Al).mono (fun g hc=>Tj hc b.g.size)) Ac) ?_
 rintro _ al am an ⟨ao,rfl⟩
 refine au 2<|DC.cond rfl (fun r=>?_) (fun r=>?_)
 ·exact ac 5<|rX b.g ⟨_,rfl⟩
 refine ac 5<|lD (Gb d) rfl rfl<|au 1<|DL.b rfl rfl (Y.gt rfl rfl) (fun ap aq=>?_)
 refine au 1<|DC.cond rfl (fun t=>?_) (fun t=>?_)
 ·exact ac 5<|rX b.g ⟨_,rfl⟩
 refine ac 5<|lD (Gb d) rfl rfl<|au 1<|DL.b rfl rfl (Y.gt rfl rfl) (fun ar av=>?_)
 refine au 1<|DC.cond rfl (fun u=>?_) (fun u=>?_)
 ·exact ac 5<|rX b.g ⟨_,rfl⟩
 exact ac 6<|rX b.g ⟨_,rfl⟩
theorem yH{q:N}{cs:Array Value}{w:World}(d:RN w (fun b=>b<w.heap.size) 0 q cs)(t:Can 0 q)(o:ij w)(u:TB w)(h2:2≤w.heap.size)(hw:q.wt≤1048576):Calls Tryz.prog 3 #[.agg cs] w (hH w [] fun v _=>v=.bool true):=by
 have M:=d.hA;have O:=d.one
 obtain⟨P,Q,R,S,ks,ps,T⟩:=q
 obtain⟨U,W,X,Z,aa,ab,ad,ae,af,ag,ah,ai,aj,ak,rfl⟩:=d.hI
 refine cY Tryz.func3 fun c=>ac 2<|bX rfl fun am an ao ap aq g=>au 5<|lw g rfl rfl<|cX (yl ((d.fr c.g Al).mono (fun b hc=>Tj hc c.g.size))) ?_
 rintro _ ar av aw ⟨ax,rfl⟩
 refine au 2<|DC.cond rfl (fun y=>?_) (fun y=>?_)
 ·exact ac 5<|rX c.g rfl
 refine ac 4<|lw (Gb g) rfl rfl<|cX (vj ((d.fr c.g Al).mono (fun b hc=>Tj hc c.g.size)) t (o.fr c.g Al) Ac hw) ?_
 rintro _ ay az a0 ⟨z,rfl,A⟩
 refine au 2<|DC.cond rfl (fun p=>?_) (fun p=>?_)
 ·exact ac 5<|rX c.g rfl
 have B:z=true:=by simpa using p
 obtain⟨a1,j⟩:=A B
 refine ac 3<|lw (Gb g) rfl rfl<|cX (rF j _ (fun b=>b<w.heap.size) _ (d.fr c.g Al) (fun b hc=>Tj hc c.g.size) (u.at c.g) (o.fr c.g Al) Ac hw) ?_
 rintro _ a2 a3 a4 rfl
 refine au 9 ?_
 obtain⟨x,hx,C⟩:=xW j hw
 obtain⟨r,D,E,_⟩:=M6 hx (Na j) hw
 refine cX (C _) ?_
 rintro _ G a5 a6 ⟨a7,rfl,f⟩
 have f:=f.mono (D':=fun b=>b<G.heap.size) (fun b hc=>hc.2)
 refine au 3<|al F.z31 rfl fun a8 a9 aA aB aC k=>sA k rfl rfl rfl f.hA f.one fun aD aE aF k=>au 3<|dF fun aG H aH l=>have aI:=H.size;aK [0,1,2,3,4]<|kT 5 rfl (fun I m=>Y.jl rfl (m.hO (Gb k) Al) (by rw[f.hA];exact F.hN))<|kT 7 rfl (fun I m=>Y.jl rfl (m.hO (Gb g) Al) F.hN)<|kP 6<|cX (E _ (fun _=>False) _ (fun b h=>h.elim) (f.g.mono (fun b hc=>⟨Tj hc Ac,id⟩))) ?_
 rintro _ aJ aL aM ⟨aN,rfl,J⟩
 refine kN l.g<|kP 8<|cX (D _ (fun _=>False) _ (fun b h=>h.elim) ((d.fr c.g Al).mono (fun b hc=>⟨Tj hc c.g.size,id⟩))) ?_
 rintro _ K aO aP ⟨aQ,rfl,L⟩
 refine kN l.g<|kP 9<|cX ((mV r.nodes).1 r _ _ (fun b=>b<K.heap.size) _ (Tv _) (fun b h=>h) (J.g.mono (fun b hc=>Tj hc.1 Ac)) (L.mono (fun b hc=>Tj hc.1 Ac))) ?_
 rintro _ aR aS aT rfl
 exact kN l.g<|aK [10,11]<|kD<|ac 1<|rX c.g rfl
end Go.Proofs.YtlojelcoibpphaaGreatDoor
