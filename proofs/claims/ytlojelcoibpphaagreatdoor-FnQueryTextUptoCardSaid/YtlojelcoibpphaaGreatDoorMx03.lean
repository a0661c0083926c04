/- FnQueryText, second form: own texts, joined and made short by a program (part 3): for every argument of bulk at most 1048576 the law answers true. -/
import Derived.Test.YtlojelcoibpphaaGreatDoorMx01
import Derived.Test.YtlojelcoibpphaaGreatDoorMx02
import Derived.Lib.BufferWrite
import Derived.Lib.FrozenHead2
import Derived.Shelf.Unicode.DecodeAny
import Derived.Test.YtlojelcoibpphaaGreatDoorProg
import Derived.Lib.ValidLaws
import Derived.Lib.TrimUEq
import Derived.Lib.TrimAscii
import Derived.Lib.MapLaws
import Derived.Lib.RuneCountTail
import Derived.Shelf.Strings.BuilderF
set_option maxRecDepth 100000
set_option maxHeartbeats 2000000
set_option linter.unusedVariables false
set_option linter.unusedSimpArgs false
set_option linter.unusedSectionVars false
set_option linter.defProp false
namespace Go.Proofs.YtlojelcoibpphaaGreatDoor.D
open Go Go.RowKit Go.Deep
structure DK(P:Program)(n:Nat)(l:List Oper)(S:World→Prop)(fuel:Nat)(listed:Array Bool)(e:Env)(w:World)(K:Env→World→Prop):Prop where
 out:∀(a:Act)(Q:Exit→Act→World→Prop),mJ n a e→S w→(∀c a w,¬Q (.panic c) a w)→(∀a' e' w',mJ n a' e'→(∀t,t∉iQ l→e' t=e t)→K e' w'→Q .normal a' w')→
  wpAnyH P .any l.toArray Q S fuel listed a w
section
variable{P:Program}{n:Nat}{e:Env}{w:World}{l:List Oper}{S:World→Prop}{fuel:Nat}{listed:Array Bool}{K:Env→World→Prop}
theorem DK.take{b:Oper}{v:Value}(i:Nat)(hi:kW l i=some b)(hs:Region.noSelect l.toArray)(g:Region.free .any l.toArray listed i)(j:(Region.ready .any l.toArray listed).contains i)
  (k:hU l e b.guard) (m:nE n b.dst) (h:∀w,S w→Y P e b w v) (o:DK P n l S fuel (listed.setIfInBounds i true) (put e b.dst v) w K):DK P n l S (fuel+1) listed e w K:=by
 rw[j8]at hi
 refine⟨fun a p c hw f q=>wpAnyH_take (oi:=b) (v:=v) A3 hs g j (fun A a w h=>(f _ _ _ h).elim) (Ts ⟨by rw[jx c,k],fun d r=>by rw[c.eval];exact h d r⟩) hw
  (o.out _ p (c.put b.dst v (jy m)) hw f (fun t u d h1 h2 y=>q t u d h1 (fun z ht=>?_) y))⟩
 rw[h2 z ht,kS hi ht]
theorem DK.pick(k:List Nat)(t:Region.ready .any l.toArray listed=k)(u:k≠[])
  (h:∀i∈k,∃g,kW l i=some g∧DL P n l [g] e w (fun j b=>jr P n [] (fun _ j b=>S b∧DK P n l S fuel (listed.setIfInBounds i true) j b K) .normal j b)):DK P n l S (fuel+1) listed e w K:=by
 refine⟨fun a m v hw y z=>wpAnyH_all t u (fun i hi=>?_)⟩
 obtain⟨g,o,A⟩:=h i hi
 rw[j8]at o
 unfold wpOp
 have B:l.toArray[i]? =some g:=by simpa using o
 simp only[B]
 have:=A.out a (fun x c b=>match x with| .normal=>S b∧wpAnyH P .any l.toArray m S fuel (listed.setIfInBounds i true) c b|x=>m x c b) v (fun c j b h1 h2 p=>
  ⟨p.1,p.2.out c m h1 p.1 y (fun C D E F G H=>z C D E F (fun r ht=>by
   rw[G r ht]
   refine h2 r (fun d=>ht ?_)
   unfold iQ at d
   cases hod:g.dst with
   |none=>rw[hod]at d;simp[iQ]at d
   |some I=>rw[hod]at d;simp only[iQ,Tt]at d;rw[d];exact tl hod l i o) H)⟩)
 unfold wpList at this
 split
 ·rename_i q
  rw[TU q]at this
  rcases this with h|h
  ·exact Ts (vd (fun c b f=>by unfold wpList at f;exact f) (fun J c b f=>f) (fun f=>f) h)
  exact Tk h
 rename_i q
 rw[TI q]at this
 unfold wpList at this
 exact this
theorem DK.done(b:Region.ready .any l.toArray listed=[])(h:K e w):DK P n l S fuel listed e w K:=
 ⟨fun a f c hw g d=>wpAnyH_done b (d a e w c (fun _ _=>rfl) h) fuel⟩
theorem DC.wY{id:Nat}{f:Exit→Env→World→Prop}(S:World→Prop)(j:P.follows .mixedOrders)
  (h:∀d,Fr [] w d→d.heap.size=w.heap.size→S d∧DK P n l S l.length (Array.replicate l.length false) e d (fun k m=>f .normal k m)):DC P n (.region id l.toArray true) e w f:=by
 refine⟨fun a o=>wp_region_noPanic (wp_region_held (S:=S) j ?_)⟩
 obtain⟨p,q⟩:=h _ (Fr.drawn w (w.drawn+1)) rfl
 have:=q.out a (NoPanic fun x g d=>∃b,mJ n g b∧(∀c,c∉ji (.region id l.toArray true)→b c=e c)∧f x b d) o p (fun t a w h=>h) (fun g b d h1 h2 r=>
  (show∃b,mJ n g b∧(∀c,c∉ji (.region id l.toArray true)→b c=e c)∧f .normal b d from⟨b,h1,fun c ht=>h2 c Br,r⟩))
 simpa using this
theorem DC.JL{id:Nat}{f:Exit→Env→World→Prop}(j:P.follows .mixedOrders)
  (h:∀d,Fr [] w d→d.heap.size=w.heap.size→DK P n l (Fr [] d) l.length (Array.replicate l.length false) e d (fun k m=>f .normal k m)):DC P n (.region id l.toArray true) e w f:=by
 refine⟨fun a o=>wp_region_noPanic (wp_region_held (S:=Fr [] {w with drawn:=w.drawn+1}) j ?_)⟩
 have:=(h _ (Fr.drawn w (w.drawn+1)) rfl).out a (NoPanic fun x g d=>∃b,mJ n g b∧(∀c,c∉ji (.region id l.toArray true)→b c=e c)∧f x b d) o (Fr.refl _ _) (fun q a w h=>h) (fun g b d h1 h2 p=>
  (show∃b,mJ n g b∧(∀c,c∉ji (.region id l.toArray true)→b c=e c)∧f .normal b d from⟨b,h1,fun c ht=>h2 c Br,p⟩))
 simpa using this
theorem DC.lG{x g:Code}{c:Exit→Env→World→Prop}{σ:Type}(j:σ→List (Nat×Value))(k:σ→World→Prop){d:List Fm}(h1:DC P n x e w (jr P n [] (uE (fun f b=>∃s,j5 f (j s)∧k s b) (jr P n d c))))(h2:∀s o b,k s b→DC P n g (oT o (j s)) b (jr P n d c)):DC P n (.seq x g) e w (jr P n d c):=by
 refine DC.seq (h1.mono ?_)
 intro p f b _ m
 cases p with
 |normal=>
  obtain⟨s,q,hi⟩:=m
  exact(h2 s f b hi).congr (lz q)
 |_=>exact m
end
end Go.Proofs.YtlojelcoibpphaaGreatDoor.D
namespace Go.Proofs.YtlojelcoibpphaaGreatDoor
def dg(d:List Nat)(i:Nat):Nat:=d.getD i 0
def pre(d:List Nat):Nat→Nat
 |0=>0
 |i+1=>10*pre d i+dg d i
def val(d:List Nat):Nat:=pre d d.length
theorem xf{b:List Nat}{i:Nat}(h:b.length≤i):dg b i=0:=by simp[dg,TL,VE h]
theorem tp{a b:List Nat}{i:Nat}(h:i<a.length):dg (a++b) i=dg a i:=by simp[dg,TL,UB h]
theorem sY{b:List Nat}{n i:Nat}(h:i<n):dg (b.take n) i=dg b i:=by
 simp only[dg,TL,Vz,TU h]
theorem o1{b e:List Nat}:∀n,(∀i,i<n→dg b i=dg e i)→pre b n=pre e n
 |0,_=>rfl
 |n+1,h=>by simp only[pre];rw[o1 n (fun i hi=>h i Ac),h n Ac]
theorem AN(b:List Nat)(x:Nat):val (b++[x])=10*val b+x:=by
 have h1:pre (b++[x]) b.length=pre b b.length:=o1 _ (fun i hi=>tp hi)
 have h2:dg (b++[x]) b.length=x:=by simp[dg]
 simp only[val,Tl,TG,pre,h1,h2]
theorem wF{d:List Nat}:∀b,pre d (d.length+b)=val d*10^b
 |0=>by simp[val]
 |b+1=>by
  have:=wF (d:=d) b
  rw[←Vx]
  simp only[pre]
  rw[this,xf Ac,Vs];simp[Vq,UE,Nat.mul_left_comm]
theorem sd(c:List Nat):∀b,val (c++List.replicate b 0)=val c*10^b
 |0=>by simp
 |b+1=>by
  rw[List.replicate_succ',←Ty,AN,sd c b,Vs];simp[Vq,UE,Nat.mul_left_comm]
theorem Eh{b:List Nat}{n:Nat}(h:n≤b.length):val (b.take n)=pre b n:=by
 have e:(b.take n).length=n:=by rw[Ud];omega
 unfold val
 rw[e]
 exact o1 n (fun i hi=>sY hi)
theorem AT{b:List Nat}(c:∀i,dg b i<10):∀n,pre b n<10^n
 |0=>by simp[pre]
 |n+1=>by have:=AT c n;have:=c n;simp only[pre,Vs];omega
theorem wR{b:List Nat}(c:dg b 0≠0):∀n,10^n≤pre b (n+1)
 |0=>by simp[pre];omega
 |n+1=>by have:=wR c n;rw[pre,Vs];omega
theorem pO{c:List Nat}(d:∀i,dg c i<10)(n:Nat):∀b,pre c n*10^b≤pre c (n+b)∧pre c (n+b)<(pre c n+1)*10^b
 |0=>by simp
 |b+1=>by
  obtain⟨h1,h2⟩:=pO d n b
  have:=d (n+b)
  rw[←Vx]
  simp only[pre,Vs]
  rw[←UE,←UE]
  omega
structure Canon(d:List Nat):Prop where
 lt:∀i,dg d i<10
 first:dg d 0≠0
 last:dg d (d.length - 1)≠0
theorem Canon.pos{b:List Nat}(h:Canon b):1≤b.length:=by
 rcases Ur b.length with h0|h0
 ·exact Tu (xf Ac) h.first
 exact h0
theorem Canon.ne{b:List Nat}(h:Canon b):b≠[]:=fun e=>by have:=h.pos;rw[e]at this;simp at this
theorem Canon.lo{b:List Nat}(h:Canon b):10^(b.length - 1)≤val b:=by
 have c:=h.pos
 have:=wR h.first (b.length - 1)
 unfold val
 rwa[show b.length - 1+1=b.length by omega]at this
theorem Canon.hi{b:List Nat}(h:Canon b):val b<10^b.length:=AT h.lt _
structure Dv(d:List Nat)(dp:Int)(X e:Nat):Prop where
 canon:Canon d
 eq:∃j:Nat,dp=(d.length:Int)+j - e∧val d*10^j=X
def Gt(x:List Nat)(px:Int)(y:List Nat)(py:Int):Prop:=x≠[]∧(y=[]∨py<px∨(px=py∧∃m,pre y m<pre x m))
theorem Dv.gt{x b:List Nat}{f g:Int}{m o e d:Nat}(hx:Dv x f m e)(k:Dv b g o d)(h:o*10^e<m*10^d):Gt x f b g:=by
 obtain⟨j,h1,h2⟩:=hx.eq
 obtain⟨c,B,r⟩:=k.eq
 refine⟨hx.canon.ne,Tk ?_⟩
 have C:=hx.canon.lo;have t:=hx.canon.hi;have u:=k.canon.lo;have D:=k.canon.hi
 have E:=k.canon.pos;have F:=hx.canon.pos
 subst h2;subst r
 have p:g≤f:=by
  rcases(by omega:f<g∨g≤f)with G|p
  ·exfalso
   have v:val x*10^j*10^d<10^x.length*10^j*10^d:=UU (UU t (Nat.pow_pos Ah)) (Nat.pow_pos Ah)
   have w:10^(b.length - 1)*10^c*10^e≤val b*10^c*10^e:=UP _ (UP _ u)
   rw[←UW,←UW]at v w
   have H:10^(x.length+j+d)≤10^(b.length - 1+c+e):=Nat.pow_le_pow_right Ah Ac
   omega
  exact p
 rcases(by omega:g<f∨f=g)with l|l
 ·exact Ts l
 refine Tk ⟨l,x.length+b.length,?_⟩
 rw[wF,Nat.add_comm x.length b.length,wF]
 have hs:x.length+j+d=b.length+c+e:=by omega
 have y:0<10^(x.length+b.length):=Nat.pow_pos Ah
 have q:=UU h y
 have z:val b*10^c*10^e*10^(x.length+b.length)=val b*10^x.length*10^(b.length+c+e):=by
  rw[show val b*10^c*10^e*10^(x.length+b.length)=val b*(10^c*10^e*10^(x.length+b.length)) by simp[UE],show val b*10^x.length*10^(b.length+c+e)=val b*(10^x.length*10^(b.length+c+e)) by simp[UE]]
  rw[←UW,←UW,←UW]
  congr 2;omega
 have A:val x*10^j*10^d*10^(x.length+b.length)=val x*10^b.length*10^(b.length+c+e):=by
  rw[show val x*10^j*10^d*10^(x.length+b.length)=val x*(10^j*10^d*10^(x.length+b.length)) by simp[UE],show val x*10^b.length*10^(b.length+c+e)=val x*(10^b.length*10^(b.length+c+e)) by simp[UE]]
  rw[←UW,←UW,←UW]
  congr 2;omega
 rw[z,A]at q
 exact Nat.lt_of_mul_lt_mul_right q
structure Cut(o t:List Nat)(z:Nat):Prop where
 eq:o=t++List.replicate z 0
 last:t≠[]→dg t (t.length - 1)≠0
theorem Cut.canon{f c:List Nat}{d:Nat}(h:Cut f c d)(hl:∀i,dg f i<10)(g:dg f 0≠0):Canon c:=by
 have j:c≠[]:=fun e=>by
  have:=h.eq;rw[e,TN]at this
  rw[this]at g
  exact g (by cases d<;>simp[dg,List.replicate_succ])
 have k:0<c.length:=UJ.2 j
 refine⟨fun i=>?_,?_,h.last j⟩
 ·rcases Vb i c.length with hi|hi
  ·rw[←tp (b:=List.replicate d 0) hi,←h.eq];exact hl i
  rw[xf hi];decide
 rw[←tp (b:=List.replicate d 0) k,←h.eq];exact g
theorem Cut.val{b c:List Nat}{d:Nat}(h:Cut b c d):val b=val c*10^d:=by rw[h.eq,sd]
theorem Cut.len{b c:List Nat}{d:Nat}(h:Cut b c d):b.length=c.length+d:=by rw[h.eq];simp
section
variable{a:List Nat}{h:Nat}
structure ED(a:List Nat)(dp:Int)(h:Nat):Prop where
 canon:Canon a
 dp:dp=(a.length:Int) - 1
 val:val a=5*h
 Rr:h%2=1
theorem ED.split{f:Int}(b:ED a f h){n:Nat}(j:n<a.length):pre a n*10^(a.length - n)+5≤5*h∧5*h+5≤(pre a n+1)*10^(a.length - n):=by
 have c:=pO b.canon.lt n (a.length - n)
 rw[show n+(a.length - n)=a.length by omega]at c
 have g:pre a a.length=5*h:=b.val
 rw[g]at c
 have k:=b.Rr
 obtain⟨d,hc⟩:∃d,a.length - n=d+1:=⟨a.length - n - 1,Ac⟩
 rw[hc,Vs,←UE,←UE]at c⊢
 omega
theorem ED.down{d:Int}(b:ED a d h){n f:Nat}(k:n<a.length)(h0:1≤n){c:List Nat}(hc:Cut (a.take n) c f):Dv c d (pre a n*10^(a.length - n)) 1:=by
 have j:Canon c:=hc.canon (fun i=>by
  rcases Vb i n with hi|hi
  ·rw[sY hi];exact b.canon.lt i
  rw[xf BF];decide) (by rw[sY Ac];exact b.canon.first)
 have hl:=hc.len
 rw[Ud]at hl
 have g:=hc.val
 rw[Eh Ac]at g
 have:=b.dp
 exact⟨j,f+(a.length - n),Ac,by rw[g,UW,UE]⟩
end
end Go.Proofs.YtlojelcoibpphaaGreatDoor
namespace Go.Proofs.YtlojelcoibpphaaGreatDoor.D
open Go Go.RowKit Go.Deep
section
variable{P:Program}{n:Nat}{e:Env}{w:World}{ops rest:List Oper}{K:Env→World→Prop}{ty:TypeId}{pos:String}{af:Array Edge}{g:Option (Nat×Bool)}
end
end Go.Proofs.YtlojelcoibpphaaGreatDoor.D
namespace Go.Proofs.YtlojelcoibpphaaGreatDoor
open Go Go.RowKit D Go.Deep
def dv(d:List Nat):List Value:=d.map fun x:Nat=>Value.int .u8 (x:Int)
end Go.Proofs.YtlojelcoibpphaaGreatDoor
namespace Go.Proofs.YtlojelcoibpphaaGreatDoor.D
open Go Go.RowKit Go.Deep
section
variable{P:Program}{n:Nat}{e:Env}{w:World}{l:List Oper}{S:World→Prop}{fuel:Nat}{listed:Array Bool}{K:Env→World→Prop}
theorem DK.skip{b:Oper}(i:Nat)(hi:kW l i=some b)(hs:Region.noSelect l.toArray)(f:Region.free .any l.toArray listed i)(j:(Region.ready .any l.toArray listed).contains i)
  (k:hU l e b.guard=false) (m:nE n b.dst) (o:DK P n l S fuel (listed.setIfInBounds i true) (put e b.dst undef) w K):DK P n l S (fuel+1) listed e w K:=by
 rw[j8]at hi
 refine⟨fun a p c hw d q=>wpAnyH_take (oi:=b) (v:=undef) A3 hs f j (fun A a w h=>(d _ _ _ h).elim) (Tk ⟨by rw[jx c,k],rfl⟩) hw
  (o.out _ p (c.put b.dst undef (jy m)) hw d (fun r t u h1 h2 y=>q r t u h1 (fun z ht=>?_) y))⟩
 rw[h2 z ht,kS hi ht]
end
section
variable{P:Program}{n:Nat}{e:Env}{w:World}{ops rest:List Oper}{K:Env→World→Prop}{ty:TypeId}{pos:String}{af:Array Edge}{g:Option (Nat×Bool)}
end
section
variable{P:Program}{ops:Array Oper}{Q:Exit→Act→World→Prop}{S:World→Prop}{z:Nat}
theorem r3{i:Nat}{oi:Oper}{v:Value}(hi:ops[i]? =some oi)(B:∀(b:Nat)(C:Oper) g j,ops[b]? =some C→C.op≠ .select g j)(J:∀q a w,¬Q (.panic q) a w)
  (r:z≠i) (o:Nat):∀(c:Array Bool)(a:Act)(w:World),
  (∀b d,ops[b]? =some d→b≠i→c.getD b true=false→(∀e∈d.after,Region.binds .any e=true→e.on≠i)→oi.apart ops d=true)→
  i∈Region.ready .any ops c→YieldsIf P ops (fun _=>True) oi v a→(c.getD z false=true∨S w)→rz P ops Q S z o (c.setIfInBounds i true) (a.put oi.dst v) w→rz P ops Q S z (o+1) c a w:=by
 induction o with
 |zero=>
  intro c a w t k p u m
  refine⟨fun h=>Tu k Cc,fun b hj=>?_⟩
  rcases U2 (b=i)with rfl|f
  ·exact p.wpOp hi trivial ⟨by rw[getD_set_ne false (Ne.symm r)];exact u,m⟩
  exact Tu (ready_mono hj f) (by rw[m.1];simp)
 |succ o L=>
  intro c a w t k p u m
  refine⟨fun h=>Tu k Cc,fun b hj=>?_⟩
  rcases U2 (b=i)with rfl|f
  ·exact p.wpOp hi trivial ⟨by rw[getD_set_ne false (Ne.symm r)];exact u,m⟩
  obtain⟨D,d,y,M⟩:=mem_ready.1 hj
  have E:=(mem_ready.1 k).1
  have O:∀e∈d.after,Region.binds .any e=true→e.on≠i:=fun e R T U=>by
   have h1:=M e R T
   rw[U]at h1
   rcases Vb i c.size with hl|hl
   ·simp only[Ug,UA hl,Vo]at h1 E
    rw[E]at h1;cases h1
   simp[Uz hl]at h1
  have W:=wpOp_putIf y (t b d y f D O) (fun g j=>B i oi g j hi) (fun g j=>B b d g j y) (fun q a w h=>Tu h (J q _ w)) p (m.2 b (ready_mono hj f))
  refine wpOp_mono (fun X F A=>?_) W
  have G:(c.setIfInBounds b true).getD z false=true∨S F:=by
   have:=A.2.1
   rw[U4 _ _ (Ne.symm f),getD_set_ne false (Ne.symm r)]at this
   exact this
  refine⟨G,L _ X F (fun H Y hk Z I aa=>t H Y hk Z ?_ aa) (ready_mono k (Ne.symm f)) A.1 G ?_⟩
  ·rcases U2 (b=H)with rfl|ab
   ·exact D
   rw[getD_set_ne true ab]at I;exact I
  rw[U4 _ _ f];exact A.2.2
end
section
variable{P:Program}{n:Nat}{e:Env}{w:World}{l:List Oper}{S:World→Prop}{z fuel:Nat}{listed:Array Bool}{K:Env→World→Prop}
theorem DG.free{b:Oper}{c:Value}(i:Nat)(hi:kW l i=some b)(hs:Region.noSelect l.toArray)(m:Region.free .any l.toArray listed i)(o:(Region.ready .any l.toArray listed).contains i)(g:Nat.beq z i=false)
  (p:hU l e b.guard) (q:nE n b.dst) (h:∀w,Y P e b w c) (r:DG P n l S z fuel (listed.setIfInBounds i true) (put e b.dst c) w K):DG P n l S z (fuel+1) listed e w K:=by
 rw[j8]at hi
 refine⟨fun a Q d hw j t=>?_⟩
 have k:z≠i:=fun h=>by rw[h,VL]at g;cases g
 refine r3 (oi:=b) (v:=c) A3 (Region.noSelect_spec hs) j k fuel listed a w (Region.free_spec A3 m) (by simpa using o) (Ts ⟨by rw[jx d,p],fun f _=>by rw[d.eval];exact h f⟩) hw
  (r.out _ Q (d.put b.dst c (jy q)) (by rw[getD_set_ne false (Ne.symm k)];exact hw) j (fun u v f h1 h2 y=>t u v f h1 (fun A ht=>?_) y))
 rw[h2 A ht,kS hi ht]
theorem DG.Ef{b:Oper}(i:Nat)(hi:kW l i=some b)(hs:Region.noSelect l.toArray)(j:Region.free .any l.toArray listed i)(k:(Region.ready .any l.toArray listed).contains i)(c:Nat.beq z i=false)
  (m:hU l e b.guard=false) (o:nE n b.dst) (p:DG P n l S z fuel (listed.setIfInBounds i true) (put e b.dst undef) w K):DG P n l S z (fuel+1) listed e w K:=by
 rw[j8]at hi
 refine⟨fun a Q d hw f q=>?_⟩
 have g:z≠i:=fun h=>by rw[h,VL]at c;cases c
 refine r3 (oi:=b) (v:=undef) A3 (Region.noSelect_spec hs) f g fuel listed a w (Region.free_spec A3 j) (by simpa using k) (Tk ⟨by rw[jx d,m],rfl⟩) hw
  (p.out _ Q (d.put b.dst undef (jy o)) (by rw[getD_set_ne false (Ne.symm g)];exact hw) f (fun r t u h1 h2 y=>q r t u h1 (fun A ht=>?_) y))
 rw[h2 A ht,kS hi ht]
end
section
variable{P:Program}{ops:Array Oper}{Q:Exit→Act→World→Prop}{S:World→Prop}{z:Nat}
theorem Dw{i:Nat}{oi:Oper}{v:Value}(hi:ops[i]? =some oi)(F:∀(b:Nat)(G:Oper) k m,ops[b]? =some G→G.op≠ .select k m)(Y:∀c a w,¬Q (.panic c) a w)(g:Nat→Prop)
  (Z:∀c H,g c→ops[c]? =some H→∃e∈H.after,Region.binds .any e=true∧(e.on=i∨g e.on)) (I:g z) (aa:z≠i) (t:Nat):∀(d:Array Bool)(a:Act)(w:World),
  (∀b f,ops[b]? =some f→b≠i→d.getD b true=false→(∀e∈f.after,Region.binds .any e=true→e.on≠i)→oi.apart ops f=true)→
  i∈Region.ready .any ops d→YieldsIf P ops S oi v a→S w→(∀c,g c→d.getD c false=false)→rz P ops Q S z t (d.setIfInBounds i true) (a.put oi.dst v) w→rz P ops Q S z (t+1) d a w:=by
 induction t with
 |zero=>
  intro d a w D o u p y q
  refine⟨fun h=>Tu o Cc,fun b hj=>?_⟩
  rcases U2 (b=i)with rfl|j
  ·exact u.wpOp hi p ⟨Tk p,q⟩
  exact Tu (ready_mono hj j) (by rw[q.1];simp)
 |succ t ab=>
  intro d a w D o u p y q
  refine⟨fun h=>Tu o Cc,fun b hj=>?_⟩
  rcases U2 (b=i)with rfl|j
  ·exact u.wpOp hi p ⟨Tk p,q⟩
  obtain⟨J,f,A,L⟩:=mem_ready.1 hj
  have M:=(mem_ready.1 o).1
  have O:∀e∈f.after,Region.binds .any e=true→e.on≠i:=fun e B C ac=>by
   have h1:=L e B C
   rw[ac]at h1
   rcases Vb i d.size with hl|hl
   ·simp only[Ug,UA hl,Vo]at h1 M
    rw[M]at h1;cases h1
   simp[Uz hl]at h1
  have R:¬g b:=fun h=>by
   obtain⟨e,B,C,r⟩:=Z b f h A
   rcases r with r|r
   ·exact O e B C r
   have:=L e B C;rw[y _ r]at this;cases this
  have ad:b≠z:=fun h=>R (h▸I)
  have ae:=wpOp_putIf A (D b f A j J O) (fun k m=>F i oi k m hi) (fun k m=>F b f k m A) (fun c a w h=>Tu h (Y c _ w)) u (q.2 b (ready_mono hj j))
  refine wpOp_mono (fun af T E=>?_) ae
  have ag:∀c,g c→(d.setIfInBounds b true).getD c false=false:=fun c hc=>by rw[getD_set_ne false (show b≠c from fun h=>R (by rw[h];exact hc))];exact y c hc
  have ah:((d.setIfInBounds i true).setIfInBounds b true).getD z false=false:=by rw[getD_set_ne false ad,getD_set_ne false (Ne.symm aa)];exact y z I
  have U:S T:=E.2.1.resolve_left (by rw[ah];simp)
  refine⟨Tk U,ab _ af T (fun W ai hk aj X ak=>D W ai hk aj ?_ ak) (ready_mono o (Ne.symm j)) E.1 U ag ?_⟩
  ·rcases U2 (b=W)with rfl|al
   ·exact J
   rw[getD_set_ne true al]at X;exact X
  rw[U4 _ _ j];exact E.2.2
end
def qH(o:Oper)(i:Nat)(acc:List Nat):Bool:=o.after.toList.any (fun e=>Region.binds .any e&&(Nat.beq e.on i||acc.any (fun c=>Nat.beq e.on c)))
def nU(i:Nat):List Oper→Nat→List Nat→List Nat
 |[],_,acc=>acc
 |o::r,k,acc=>nU i r (k+1) (cond (qH o i acc) (k::acc) acc)
def qy(l:List Oper)(z i:Nat)(L:Array Bool):Bool:=(nU i l 0 []).any (fun c=>Nat.beq z c)&&((nU i l 0 []).all (fun c=> !(L.getD c false))&& !(Nat.beq z i))
theorem rW{i:Nat}:∀{r:List Oper}{d:Nat}{b:List Nat}{c:Nat},c∈b→c∈nU i r d b
 |[],_,_,_,h=>h
 |f::r,d,b,c,h=>rW (r:=r) (by cases qH f i b;exact h;exact Ux _ h)
theorem uD{d:Oper}{i:Nat}{f g:List Nat}(hs:∀b∈f,b∈g)(h:qH d i f):∃e∈d.after,Region.binds .any e=true∧(e.on=i∨e.on∈g):=by
 unfold qH at h
 obtain⟨e,j,h2⟩:=UX.1 h
 rw[Tx,TO]at h2
 refine⟨e,by simpa using j,h2.1,?_⟩
 rcases h2.2 with c|c
 ·exact Ts (Ub c)
 obtain⟨b,hc,k⟩:=UX.1 c
 exact Tk (by rw[Ub k];exact hs b hc)
theorem qJ{i:Nat}{l:List Oper}:∀{r:List Oper}{k:Nat}{acc c:List Nat},nU i r k acc=c→(∀f,r[f]? =l[k+f]?)→(∀d∈acc,∃b,l[d]? =some b∧∃e∈b.after,Region.binds .any e=true∧(e.on=i∨e.on∈c))→∀d∈c,∃b,l[d]? =some b∧∃e∈b.after,Region.binds .any e=true∧(e.on=i∨e.on∈c)
 |[],k,acc,c,h,_,g=>by unfold nU at h;subst h;exact g
 |b::r,k,acc,c,h,hl,g=>by
  unfold nU at h
  refine qJ (r:=r) (k:=k+1) h (fun f=>by have:=hl (f+1);simpa[Vx,Nat.add_comm 1 f]using this) (fun d hc=>?_)
  cases he:qH b i acc with
  |false=>rw[he]at hc;exact g d hc
  |true=>
   rw[he]at hc
   rcases Tr.1 hc with rfl|hc
   ·refine⟨b,by have:=hl 0;simpa using this.symm,uD (fun x hx=>?_) he⟩
    rw[←h,he];exact rW (Ux _ hx)
   ·exact g d hc
section
variable{P:Program}{n:Nat}{e:Env}{w:World}{l:List Oper}{S:World→Prop}{z fuel:Nat}{listed:Array Bool}{K:Env→World→Prop}
theorem DG.zo{c:Oper}{d:Value}(i:Nat)(hi:kW l i=some c)(hs:Region.noSelect l.toArray)(y:Region.free .any l.toArray listed i)(A:(Region.ready .any l.toArray listed).contains i)(f:qy l z i listed)
  (B:hU l e c.guard) (C:nE n c.dst) (h:∀w,S w→Y P e c w d) (m:DG P n l S z fuel (listed.setIfInBounds i true) (put e c.dst d) w K):DG P n l S z (fuel+1) listed e w K:=by
 rw[j8]at hi
 unfold qy at f
 simp only[Tx,UR]at f
 obtain⟨h1,h2,o⟩:=f
 obtain⟨b,hc,g⟩:=UX.1 h1
 have p:z∈nU i l 0 []:=by rw[Ub g];exact hc
 have hL:∀b,b∈nU i l 0 []→listed.getD b false=false:=fun b hc=>by have:=Uk.1 h2 b hc;simpa using this
 refine⟨fun a Q j hw q D=>?_⟩
 have t:S w:=hw.resolve_left (by rw[hL z p];simp)
 refine Dw (oi:=c) (v:=d) A3 (Region.noSelect_spec hs) q (fun b=>b∈nU i l 0 []) (fun b E hc u=>?_) p (fun h=>by rw[h,VL]at o;cases o) fuel listed a w (Region.free_spec A3 y) (by simpa using A) (Ts ⟨by rw[jx j,B],fun k F=>by rw[j.eval];exact h k F⟩) t hL
  (m.out _ Q (j.put c.dst d (jy C)) (Tk t) q (fun G H k h1 h2 g=>D G H k h1 (fun I ht=>?_) g))
 ·obtain⟨J,v,L⟩:=qJ (l:=l) (r:=l) (k:=0) (acc:=[]) rfl (fun M=>by simp) (fun b h=>by cases h) b hc
  have:J=E:=by rw[Vg]at u;rw[u]at v;exact(Up v).symm
  subst this;exact L
 rw[h2 I ht,kS hi ht]
end
end Go.Proofs.YtlojelcoibpphaaGreatDoor.D
namespace Go.Proofs.YtlojelcoibpphaaGreatDoor.D
open Go Go.RowKit
section
variable{P:Program}{n:Nat}{e:Env}{w:World}{ops rest:List Oper}{K:Env→World→Prop}{o:Oper}
theorem DL.gY{p:Bool}{v:Value}(b:hU ops e o.guard=p)(c:nE n o.dst)(h:p=true→Y P e o w v)(d:DL P n ops rest (put e o.dst (cond p v undef)) w K):DL P n ops (o::rest) e w K:=by
 cases p with
 |true=>exact DL.y b c (h rfl) d
 |false=>exact DL.skip b c d
theorem DL.gB{p c:Bool}(d:hU ops e o.guard=p)(f:nE n o.dst)(h:p=true→Y P e o w (.bool c))(g:∀b:Bool,b=c→DL P n ops rest (put e o.dst (cond p (.bool b) undef)) w K):DL P n ops (o::rest) e w K:=
 DL.gY d f h (g c rfl)
end
end Go.Proofs.YtlojelcoibpphaaGreatDoor.D
namespace Go.Proofs.YtlojelcoibpphaaGreatDoor.D
open Go Go.RowKit Go.Deep
section
variable{P:Program}{n:Nat}{e:Env}{w:World}{ops rest:List Oper}{K:Env→World→Prop}
theorem DL.N4{x:Operand}{c d d3 f j k g l b o p q r t:Nat}{u y z A:String}{B C D E:Array Edge}{cs:Array Value}{F:Nat×Nat}{v:Value}
  (m:(Nat.blt c n&&Nat.blt d n&&Nat.blt d3 n&&Nat.blt f n)) (G:iq P j k g) (ht:iM P l) (hx:ev e x=Pt b) (H:w.heap[b]? =some (.cells cs o F)) (I:cs[g]? =some v)
  (J:DL P n ops rest (jZ (jZ (jZ (jZ e c (Pt b)) d (Pt b)) d3 (.pointer (some ⟨b,0+g,none⟩))) f v) w K):
  DL P n ops (⟨some c,.move x,p,u,B,none⟩::⟨some d,.nilCheck (.tmp c),q,y,C,none⟩::⟨some d3,.fieldAddr j (.tmp d) k,r,z,D,none⟩::⟨some f,.load l (.tmp d3),t,A,E,none⟩::rest) e w K:=by
 simp only[Tx]at m
 obtain⟨⟨⟨h1,h2⟩,L⟩,M⟩:=m
 refine DL.y rfl h1 Y.move ?_
 rw[hx]
 exact DL.y rfl h2 (Y.nil (a:=⟨b,0,none⟩) (jF _ _ _))<|DL.y rfl L (Y.field G (jF _ _ _))<|DL.y rfl M (Y.hY ht (jF _ _ _) H (by rw[T9];exact I)) J
theorem Y.sf{x:Operand}{v:Value}{dst:Option Tmp}{ty:TypeId}{pos:String}{af:Array Edge}{g:Option (Nat×Bool)}(h:ev e x=v):Y P e ⟨dst,.move x,ty,pos,af,g⟩ w v:=by subst h;exact Y.move
theorem Y.Hu{x:Operand}{v:Value}{dst:Option Tmp}{ty:TypeId}{pos:String}{af:Array Edge}{g:Option (Nat×Bool)}(h:ev e x=v):Y P e ⟨dst,.assign x,ty,pos,af,g⟩ w v:=by subst h;exact Y.assign
theorem Y.Ex{c x y:Operand}{v:Value}{dst:Option Tmp}{ty:TypeId}{pos:String}{af:Array Edge}{g:Option (Nat×Bool)}(hc:ev e c=.bool false)(b:ev e y=v):Y P e ⟨dst,.pick c x y,ty,pos,af,g⟩ w v:=by subst b;exact Y.r9 hc
theorem Y.E1{x y:Operand}{t u:TypeId}{k:IntKind}{a b:Int}{c:Bool}{dst:Option Tmp}{ty:TypeId}{pos:String}{af:Array Edge}{g:Option (Nat×Bool)}(hx:ev e x=.int k a)(d:ev e y=.int k b)(h:decide (a=b)=c):Y P e ⟨dst,.binOp .eql t x y u,ty,pos,af,g⟩ w (.bool c):=by subst h;exact Y.eq hx d
theorem Y.yL{x y:Operand}{t u:TypeId}{k:IntKind}{a b:Int}{c:Bool}{dst:Option Tmp}{ty:TypeId}{pos:String}{af:Array Edge}{g:Option (Nat×Bool)}(hx:ev e x=.int k a)(d:ev e y=.int k b)(h:decide (¬a=b)=c):Y P e ⟨dst,.binOp .neq t x y u,ty,pos,af,g⟩ w (.bool c):=by subst h;exact Y.ne hx d
theorem Y.Hb{x y:Operand}{t u:TypeId}{k:IntKind}{a b:Int}{c:Bool}{dst:Option Tmp}{ty:TypeId}{pos:String}{af:Array Edge}{g:Option (Nat×Bool)}(hx:ev e x=.int k a)(d:ev e y=.int k b)(h:decide (b<a)=c):Y P e ⟨dst,.binOp .gtr t x y u,ty,pos,af,g⟩ w (.bool c):=by subst h;exact Y.gt hx d
theorem Y.xz{x y:Operand}{t u:TypeId}{k:IntKind}{a b:Int}{c:Bool}{dst:Option Tmp}{ty:TypeId}{pos:String}{af:Array Edge}{g:Option (Nat×Bool)}(hx:ev e x=.int k a)(d:ev e y=.int k b)(h:decide (a<b)=c):Y P e ⟨dst,.binOp .lss t x y u,ty,pos,af,g⟩ w (.bool c):=by subst h;exact Y.lt hx d
theorem Y.So{x y:Operand}{t u:TypeId}{k:IntKind}{a b:Int}{c:Bool}{dst:Option Tmp}{ty:TypeId}{pos:String}{af:Array Edge}{g:Option (Nat×Bool)}(hx:ev e x=.int k a)(d:ev e y=.int k b)(h:decide (a≤b)=c):Y P e ⟨dst,.binOp .leq t x y u,ty,pos,af,g⟩ w (.bool c):=by subst h;exact Y.le hx d
theorem Y.Le{x y:Operand}{t u:TypeId}{k:IntKind}{a b:Int}{c:Bool}{dst:Option Tmp}{ty:TypeId}{pos:String}{af:Array Edge}{g:Option (Nat×Bool)}(hx:ev e x=.int k a)(d:ev e y=.int k b)(h:decide (b≤a)=c):Y P e ⟨dst,.binOp .geq t x y u,ty,pos,af,g⟩ w (.bool c):=by subst h;exact Y.ge hx d
theorem Y.my{x y:Operand}{t u:TypeId}{a b:ByteArray}{c:Bool}{dst:Option Tmp}{ty:TypeId}{pos:String}{af:Array Edge}{g:Option (Nat×Bool)}(hx:ev e x=.string a)(d:ev e y=.string b)(h:(!decide (a=b))=c):Y P e ⟨dst,.binOp .neq t x y u,ty,pos,af,g⟩ w (.bool c):=by subst h;exact Y.vK hx d
theorem kR{a b:ByteArray}(h:a≠b):(!decide (a=b))=true:=by simp[h]
end
theorem DC.pH{P:Program}{n:Nat}{e:Env}{w:World}{f:Exit→Env→World→Prop}{id k m b c o p:Nat}{q r:String}{t u:Array Edge}{x:Operand}{a g:ByteArray}{y j:Code}{s:List Fm}(d:(Nat.blt b n&&Nat.blt c n))(hx:ev e x=.string a)(h:decide (a=g)=false)
  (z:DC P n j (jZ (jZ e b (.bool false)) c (.bool false)) w (jr P n s f)):
  DC P n (.seq (.region id #[⟨some b,.binOp .eql k x (.const (.string g)) m,o,q,t,none⟩,⟨some c,.assign (.tmp b),p,r,u,none⟩] false) (.cond (.tmp c) y j)) e w (jr P n s f):=by
 simp only[Tx]at d
 exact DC.seq<|DC.region (l:=[_,_])<|DL.y rfl d.1 (Y.rG hx rfl h)<|DL.y rfl d.2 (Y.Hu (v:=.bool false) (jF _ _ _))<|DL.nil<|DC.zY (jF _ _ _) z
def sub:List Nat→Code→Code
 |0::r,.seq x _=>sub r x
 |1::r,.seq _ y=>sub r y
 |_::r,.block _ y=>sub r y
 |_,c=>c
def J3(f:Func):Code:=match f.body with|some c=>c|none=>.skip
section
variable{P:Program}{n:Nat}{e:Env}{w:World}{ops rest:List Oper}{K:Env→World→Prop}{dst:Option Tmp}{ty:TypeId}{pos:String}{af:Array Edge}{g:Option (Nat×Bool)}
theorem cX{f:FuncId}{l:List Operand}{m:Array TypeId}{S:List Nat}{j:Value→World→Prop}[r:hG P f](hc:Calls P f (K9 e l).toArray w (hH w S j))
  (k:∀v c,Sp S w c→w.heap.size≤c.heap.size→j v c→DL P n ops rest (put e dst v) c K) (A:hU ops e g=true:=by rfl) (B:nE n dst=true:=by rfl):
  DL P n ops (⟨dst,.call ⟨.value (.func f),l.toArray,m⟩,ty,pos,af,g⟩::rest) e w K:=DL.call A B r rfl hc fun v c h=>k v c ⟨h⟩ h.size
theorem lD{x:Operand}{t u b o d:Nat}{cs:Array Value}{fr:Nat×Nat}{v:Value}(c:w.heap[b]? =some (.cells cs u fr))(hx:ev e x=.pointer (some ⟨b,o,none⟩))(f:cs[o]? =some v)(k:DL P n ops rest (jZ e d v) w K)
  (ht:iM P t=true:=by kernel_rfl) (j:hU ops e g=true:=by rfl) (m:Nat.blt d n=true:=by rfl):DL P n ops (⟨some d,.load t x,ty,pos,af,g⟩::rest) e w K:=DL.y j m (Y.hY ht hx c f) k
theorem lw{x:Operand}{t u b d c:Nat}{cs:Array Value}{fr:Nat×Nat}(f:w.heap[b]? =some (.cells cs u fr))(hx:ev e x=Pt b)(hs:cs.size=c)(k:DL P n ops rest (jZ e d (.agg cs)) w K)
  (ht:l9 P t c=true:=by kernel_rfl) (j:hU ops e g=true:=by rfl) (m:Nat.blt d n=true:=by rfl):DL P n ops (⟨some d,.load t x,ty,pos,af,g⟩::rest) e w K:=DL.y j m (Y.jl hx f (by rw[hs];exact ht)) k
theorem lA{x:Operand}{t b o d c:Nat}{cs:Array Value}(hc:hB w b o cs)(hs:cs.size=c)(hx:ev e x=.pointer (some ⟨b,o,none⟩))(k:DL P n ops rest (jZ e d (.agg cs)) w K)
  (ht:l9 P t c=true:=by kernel_rfl) (f:hU ops e g=true:=by rfl) (j:Nat.blt d n=true:=by rfl):DL P n ops (⟨some d,.load t x,ty,pos,af,g⟩::rest) e w K:=DL.y f j (Y.iU hs ht hx hc) k
theorem lC{x:Operand}{t d:Nat}{a:Addr}{v:Value}(hc:w.cell? a=some v)(hx:ev e x=.pointer (some a))(k:DL P n ops rest (jZ e d v) w K)
  (ht:iM P t=true:=by kernel_rfl) (c:hU ops e g=true:=by rfl) (f:Nat.blt d n=true:=by rfl):DL P n ops (⟨some d,.load t x,ty,pos,af,g⟩::rest) e w K:=DL.y c f (Y.load ht hx hc) k
theorem bD{t d:Nat}{c:List (Nat×Operand)}(cs:Array Value)(k:DL P n ops rest (jZ e d (.agg cs)) w K)(h:vS P t (GJ e c)=some cs:=by kernel_rfl)(f:hU ops e g=true:=by rfl)(j:Nat.blt d n=true:=by rfl):
  DL P n ops (⟨some d,.build t c.toArray,ty,pos,af,g⟩::rest) e w K:=DL.y f j (Y.build h) k
theorem ai{x y:Operand}{t u d:Nat}{a b:Int}(c:Int)(hx:ev e x=.int .i64 a)(f:ev e y=.int .i64 b)(k:DL P n ops rest (jZ e d (.int .i64 c)) w K)(hc:a+b=c:=by omega)(h1: -9223372036854775808≤a+b:=by omega)(h2:a+b≤9223372036854775807:=by omega)
  (j:hU ops e g=true:=by rfl) (m:Nat.blt d n=true:=by rfl):DL P n ops (⟨some d,.binOp .add t x y u,ty,pos,af,g⟩::rest) e w K:=DL.y j m (Y.mm hx f hc h1 h2) k
theorem si{x y:Operand}{t u d:Nat}{a b:Int}(c:Int)(hx:ev e x=.int .i64 a)(f:ev e y=.int .i64 b)(k:DL P n ops rest (jZ e d (.int .i64 c)) w K)(hc:a - b=c:=by omega)(h1: -9223372036854775808≤a - b:=by omega)(h2:a - b≤9223372036854775807:=by omega)
  (j:hU ops e g=true:=by rfl) (m:Nat.blt d n=true:=by rfl):DL P n ops (⟨some d,.binOp .sub t x y u,ty,pos,af,g⟩::rest) e w K:=DL.y j m (Y.n8 hx f hc h1 h2) k
theorem iT{x y:Operand}{t u d:Nat}{k:IntKind}{a b:Int}(h:a=b)(hx:ev e x=.int k a)(c:ev e y=.int k b)(q:DL P n ops rest (jZ e d (.bool true)) w K)(f:hU ops e g=true:=by rfl)(j:Nat.blt d n=true:=by rfl):
  DL P n ops (⟨some d,.binOp .eql t x y u,ty,pos,af,g⟩::rest) e w K:=DL.y f j (Y.E1 hx c (Th h)) q
theorem iF{x y:Operand}{t u d:Nat}{k:IntKind}{a b:Int}(h:¬a=b)(hx:ev e x=.int k a)(c:ev e y=.int k b)(q:DL P n ops rest (jZ e d (.bool false)) w K)(f:hU ops e g=true:=by rfl)(j:Nat.blt d n=true:=by rfl):
  DL P n ops (⟨some d,.binOp .eql t x y u,ty,pos,af,g⟩::rest) e w K:=DL.y f j (Y.E1 hx c (Ti h)) q
theorem sT{x y:Operand}{t u d:Nat}{a b:ByteArray}(h:a=b)(hx:ev e x=.string a)(c:ev e y=.string b)(q:DL P n ops rest (jZ e d (.bool true)) w K)(f:hU ops e g=true:=by rfl)(j:Nat.blt d n=true:=by rfl):
  DL P n ops (⟨some d,.binOp .eql t x y u,ty,pos,af,g⟩::rest) e w K:=DL.y f j (Y.rG hx c (Th h)) q
theorem sX{x y:Operand}{t u d:Nat}{a b:ByteArray}(h:¬a=b)(hx:ev e x=.string a)(c:ev e y=.string b)(q:DL P n ops rest (jZ e d (.bool false)) w K)(f:hU ops e g=true:=by rfl)(j:Nat.blt d n=true:=by rfl):
  DL P n ops (⟨some d,.binOp .eql t x y u,ty,pos,af,g⟩::rest) e w K:=DL.y f j (Y.rG hx c (Ti h)) q
section
variable{x y:Operand}{t u d:Nat}{k:IntKind}{a b:Int}{p q:ByteArray}
theorem jE(hx:ev e x=.int k a)(c:ev e y=.int k b)(ht:a=b→DL P n ops rest (jZ e d (.bool true)) w K)(f:¬a=b→DL P n ops rest (jZ e d (.bool false)) w K)(j:hU ops e g=true:=by rfl)(m:Nat.blt d n=true:=by rfl):
  DL P n ops (⟨some d,.binOp .eql t x y u,ty,pos,af,g⟩::rest) e w K:=DL.if j m (Y.eq hx c) ht f
theorem jN(hx:ev e x=.int k a)(c:ev e y=.int k b)(ht:¬a=b→DL P n ops rest (jZ e d (.bool true)) w K)(f:¬¬a=b→DL P n ops rest (jZ e d (.bool false)) w K)(j:hU ops e g=true:=by rfl)(m:Nat.blt d n=true:=by rfl):
  DL P n ops (⟨some d,.binOp .neq t x y u,ty,pos,af,g⟩::rest) e w K:=DL.if j m (Y.ne hx c) ht f
theorem jX(hx:ev e x=.int k a)(c:ev e y=.int k b)(ht:a<b→DL P n ops rest (jZ e d (.bool true)) w K)(f:¬a<b→DL P n ops rest (jZ e d (.bool false)) w K)(j:hU ops e g=true:=by rfl)(m:Nat.blt d n=true:=by rfl):
  DL P n ops (⟨some d,.binOp .lss t x y u,ty,pos,af,g⟩::rest) e w K:=DL.if j m (Y.lt hx c) ht f
theorem jM(hx:ev e x=.int k a)(c:ev e y=.int k b)(ht:a≤b→DL P n ops rest (jZ e d (.bool true)) w K)(f:¬a≤b→DL P n ops rest (jZ e d (.bool false)) w K)(j:hU ops e g=true:=by rfl)(m:Nat.blt d n=true:=by rfl):
  DL P n ops (⟨some d,.binOp .leq t x y u,ty,pos,af,g⟩::rest) e w K:=DL.if j m (Y.le hx c) ht f
theorem jG(hx:ev e x=.int k a)(c:ev e y=.int k b)(ht:b<a→DL P n ops rest (jZ e d (.bool true)) w K)(f:¬b<a→DL P n ops rest (jZ e d (.bool false)) w K)(j:hU ops e g=true:=by rfl)(m:Nat.blt d n=true:=by rfl):
  DL P n ops (⟨some d,.binOp .gtr t x y u,ty,pos,af,g⟩::rest) e w K:=DL.if j m (Y.gt hx c) ht f
theorem jH(hx:ev e x=.int k a)(c:ev e y=.int k b)(ht:b≤a→DL P n ops rest (jZ e d (.bool true)) w K)(f:¬b≤a→DL P n ops rest (jZ e d (.bool false)) w K)(j:hU ops e g=true:=by rfl)(m:Nat.blt d n=true:=by rfl):
  DL P n ops (⟨some d,.binOp .geq t x y u,ty,pos,af,g⟩::rest) e w K:=DL.if j m (Y.ge hx c) ht f
theorem jS(hx:ev e x=.string p)(c:ev e y=.string q)(ht:p=q→DL P n ops rest (jZ e d (.bool true)) w K)(f:¬p=q→DL P n ops rest (jZ e d (.bool false)) w K)(j:hU ops e g=true:=by rfl)(m:Nat.blt d n=true:=by rfl):
  DL P n ops (⟨some d,.binOp .eql t x y u,ty,pos,af,g⟩::rest) e w K:=DL.if j m (Y.seq hx c) ht f
end
theorem iX{x i:Operand}{t m f b o j r c d:Nat}{k:IntKind}{z:Int}(ht:jT P t m f)(A:c<j)(hx:ev e x=.slice (some ⟨b,o,none⟩) j r)(hi:ev e i=.int k z)(B:z=(c:Int))(q:DL P n ops rest (jZ e d (.pointer (some ⟨b,o+c*f,none⟩))) w K)
  (C:hU ops e g=true:=by rfl) (D:Nat.blt d n=true:=by rfl):DL P n ops (⟨some d,.indexAddr t x i,ty,pos,af,g⟩::rest) e w K:=DL.y C D (Y.index ht hx hi B A) q
theorem sA{x y:Operand}{t u:TypeId}{b f:Nat}{j cs:Array Value}(m:w.heap[b]? =some (.cells j u (0,0)))(hx:ev e x=Pt b)(r:ev e y=.agg cs)(A:j.size=f)(hs:cs.size=f)(h1:cs.all (·.oneCell'))
  (k:∀c,Sp [b] w c→c.heap.size=w.heap.size→c.heap[b]? =some (.cells cs u (0,0))→DL P n ops rest e c K) (ht:l9 P t f=true:=by kernel_rfl) (B:hU ops e g=true:=by rfl):
  DL P n ops (⟨none,.store t x y,ty,pos,af,g⟩::rest) e w K:=DL.J4 B ht hx r hs h1 m A fun c C=>k c ⟨C⟩
theorem sc{x y:Operand}{t u:TypeId}{b o:Nat}{cs:Array Value}{v:Value}(f:w.heap[b]? =some (.cells cs u (0,0)))(hx:ev e x=.pointer (some ⟨b,o,none⟩))(j:ev e y=v)(m:v.oneCell')(r:Nat.blt o cs.size)
  (k:∀c,Sp [b] w c→c.heap.size=w.heap.size→c.heap[b]? =some (.cells (cs.setIfInBounds o v) u (0,0))→DL P n ops rest e c K) (ht:P.cellsOf t=1:=by kernel_rfl) (hi:(P.info? t).isSome=true:=by kernel_rfl) (A:hU ops e g=true:=by rfl):
  DL P n ops (⟨none,.store t x y,ty,pos,af,g⟩::rest) e w K:=DL.store A ht hi hx j m f r fun c B=>k c ⟨B⟩
theorem al{t d:Nat}{z:Value}{cs:Array Value}(f:jh P t=some z)(hc:z.cells=cs)
  (k:∀b c,Sp [] w c→w.heap.size≤b→b<c.heap.size→c.heap[b]? =some (.cells cs t (0,0))→DL P n ops rest (jZ e d (Pt b)) c K) (j:hU ops e g=true:=by rfl) (m:Nat.blt d n=true:=by rfl):
  DL P n ops (⟨some d,.alloc t,ty,pos,af,g⟩::rest) e w K:=DL.alloc j m f hc fun b c r=>k b c ⟨r⟩
theorem bX{x:Operand}{t d:Nat}{cs:Array Value}(hx:ev e x=.agg cs)
  (k:∀b c,Sp [] w c→w.heap.size≤b→b<c.heap.size→c.heap[b]? =some (.cells cs t (0,0))→DL P n ops rest (jZ e d (Pt b)) c K) (f:hU ops e g=true:=by rfl) (j:Nat.blt d n=true:=by rfl):
  DL P n ops (⟨some d,.box t x,ty,pos,af,g⟩::rest) e w K:=DL.Pw f j hx fun b c m=>k b c ⟨m⟩
theorem mf{x:Operand}{c f d3 j r A B b u C D E F:Nat}{G H I J:String}{L M O Q:Array Edge}{cs:Array Value}{fr:Nat×Nat}{v:Value}(m:Nat)(R:w.heap[b]? =some (.cells cs u fr))(T:cs[m]? =some v)(hx:ev e x=Pt b)
  (k:DL P n ops rest (jZ (jZ (jZ (jZ e c (Pt b)) f (Pt b)) d3 (.pointer (some ⟨b,0+m,none⟩))) j v) w K)
  (U:(Nat.blt c n&&Nat.blt f n&&Nat.blt d3 n&&Nat.blt j n)=true:=by rfl) (W:iq P r A m=true:=by kernel_rfl) (ht:iM P B=true:=by kernel_rfl):
  DL P n ops (⟨some c,.move x,C,G,L,none⟩::⟨some f,.nilCheck (.tmp c),D,H,M,none⟩::⟨some d3,.fieldAddr r (.tmp f) A,E,I,O,none⟩::⟨some j,.load B (.tmp d3),F,J,Q,none⟩::rest) e w K:=
 DL.N4 U W ht hx R T k
end
section
variable{n:Nat}{e:Env}{w:World}{l:List Oper}{S:World→Prop}{z fuel:Nat}{listed:Array Bool}{K:Env→World→Prop}
noncomputable def JH(l:List Oper)(z:Option Nat):List Nat→Nat→Array Bool→Bool
 |[],_,_=>true
 |i::is,fuel,listed=>cond (Nat.beq fuel 0) false (cond (Region.free .any l.toArray listed i) (cond ((Region.ready .any l.toArray listed).contains i) (cond (match z with|some z=>Nat.beq z i|none=>false) false (JH l z is (Nat.pred fuel) (listed.setIfInBounds i true))) false) false)
def runK(n:Nat)(l:List Oper)(G:Nat→Array Bool→Env→Prop):List Nat→Nat→Array Bool→Env→Prop
 |[],fuel,listed,e=>G fuel listed e
 |i::is,fuel,listed,e=>match kW l i with
  |some ⟨some d,op,_,_,_,g⟩=>cond (Nat.blt d n) (cond (hU l e g) (oU e (fun v=>runK n l G is (Nat.pred fuel) (listed.setIfInBounds i true) (List.cons (d,v) e)) op) (runK n l G is (Nat.pred fuel) (listed.setIfInBounds i true) (List.cons (d,undef) e))) False
  |_=>False
theorem vW(hs:Region.noSelect l.toArray):∀(f:List Nat)(fuel:Nat)(listed:Array Bool)(e:Env),JH l none f fuel listed=true→runK n l (fun fuel listed e=>DK Tryz.prog n l S fuel listed e w K) f fuel listed e→DK Tryz.prog n l S fuel listed e w K
 |[],_,_,_,_,h=>h
 |i::f,0,_,_,c,_=>by cases c
 |i::f,fuel+1,listed,e,c,h=>by
  unfold JH at c
  unfold runK at h
  cases h1:Region.free .any l.toArray listed i with
  |false=>rw[h1]at c;cases c
  |true=>
   cases h2:(Region.ready .any l.toArray listed).contains i with
   |false=>rw[h1,h2]at c;cases c
   |true=>
    rw[h1,h2]at c
    split at h
    ·rename_i d j ty pos af g hi
     cases hd:Nat.blt d n with
     |false=>rw[hd]at h;exact h.elim
     |true=>
      rw[hd]at h
      cases hg:hU l e g with
      |false=>rw[hg]at h;exact DK.skip i hi hs h1 h2 hg hd (vW hs f fuel _ _ c h)
      |true=>
       rw[hg]at h
       obtain⟨v,m,r⟩:=pf (dst:=some d) (ty:=ty) (pos:=pos) (af:=af) (g:=g) j h
       exact DK.take i hi hs h1 h2 hg hd (fun A _=>r A) (vW hs f fuel _ _ c m)
    ·exact h.elim
theorem vg(hs:Region.noSelect l.toArray):∀(f:List Nat)(fuel:Nat)(listed:Array Bool)(e:Env),JH l (some z) f fuel listed=true→runK n l (fun fuel listed e=>DG Tryz.prog n l S z fuel listed e w K) f fuel listed e→DG Tryz.prog n l S z fuel listed e w K
 |[],_,_,_,_,h=>h
 |i::f,0,_,_,c,_=>by cases c
 |i::f,fuel+1,listed,e,c,h=>by
  unfold JH at c
  unfold runK at h
  cases h1:Region.free .any l.toArray listed i with
  |false=>rw[h1]at c;cases c
  |true=>
   cases h2:(Region.ready .any l.toArray listed).contains i with
   |false=>rw[h1,h2]at c;cases c
   |true=>
    cases h3:Nat.beq z i with
    |true=>simp only[h1,h2,h3]at c;cases c
    |false=>
     simp only[h1,h2,h3]at c
     split at h
     ·rename_i d j ty pos af g hi
      cases hd:Nat.blt d n with
      |false=>rw[hd]at h;exact h.elim
      |true=>
       rw[hd]at h
       cases hg:hU l e g with
       |false=>rw[hg]at h;exact DG.Ef i hi hs h1 h2 h3 hg hd (vg hs f fuel _ _ c h)
       |true=>
        rw[hg]at h
        obtain⟨v,m,r⟩:=pf (dst:=some d) (ty:=ty) (pos:=pos) (af:=af) (g:=g) j h
        exact DG.free i hi hs h1 h2 h3 hg hd (fun A=>r A) (vg hs f fuel _ _ c m)
     ·exact h.elim
theorem aK(c:List Nat)(h:runK n l (fun fuel listed e=>DK Tryz.prog n l S fuel listed e w K) c fuel listed e)(hs:Region.noSelect l.toArray=true:=by kernel_rfl)(f:JH l none c fuel listed=true:=by kernel_rfl):DK Tryz.prog n l S fuel listed e w K:=vW hs c fuel listed e f h
theorem aG(c:List Nat)(h:runK n l (fun fuel listed e=>DG Tryz.prog n l S z fuel listed e w K) c fuel listed e)(hs:Region.noSelect l.toArray=true:=by kernel_rfl)(f:JH l (some z) c fuel listed=true:=by kernel_rfl):DG Tryz.prog n l S z fuel listed e w K:=vg hs c fuel listed e f h
end
section
variable{P:Program}{n:Nat}{e:Env}{w:World}{l:List Oper}{S:World→Prop}{z fuel:Nat}{listed:Array Bool}{K:Env→World→Prop}
def rK(P:Program)(n:Nat)(l:List Oper)(S:World→Prop)(z fuel:Nat)(listed:Array Bool)(e:Env)(w:World)(K:Env→World→Prop)(i:Nat):Prop:=
 match kW l i with
 |some o=>DL P n l [o] e w (fun e' w'=>jr P n [] (fun _ e' w'=>((listed.setIfInBounds i true).getD z false=true∨S w')∧DG P n l S z fuel (listed.setIfInBounds i true) e' w' K) .normal e' w')
 |none=>False
def se(P:Program)(n:Nat)(l:List Oper)(S:World→Prop)(fuel:Nat)(listed:Array Bool)(e:Env)(w:World)(K:Env→World→Prop)(i:Nat):Prop:=
 match kW l i with
 |some o=>DL P n l [o] e w (fun e' w'=>jr P n [] (fun _ e' w'=>S w'∧DK P n l S fuel (listed.setIfInBounds i true) e' w' K) .normal e' w')
 |none=>False
theorem gp(i:Nat)(h:rK P n l S z fuel listed e w K i)(c:Region.ready .any l.toArray listed=[i]:=by kernel_rfl):DG P n l S z (fuel+1) listed e w K:=
 DG.pick [i] c Al (fun j hj=>by
  obtain rfl:=Tt.1 hj
  unfold rK at h
  split at h
  ·rename_i o f;exact⟨o,f,h⟩
  ·exact h.elim)
theorem kP(i:Nat)(h:se P n l S fuel listed e w K i)(c:Region.ready .any l.toArray listed=[i]:=by kernel_rfl):DK P n l S (fuel+1) listed e w K:=
 DK.pick [i] c Al (fun j hj=>by
  obtain rfl:=Tt.1 hj
  unfold se at h
  split at h
  ·rename_i o f;exact⟨o,f,h⟩
  ·exact h.elim)
theorem gQ(i f:Nat)(h:rK P n l S z fuel listed e w K i)(c:rK P n l S z fuel listed e w K f)(m:Region.ready .any l.toArray listed=[i,f]:=by kernel_rfl):DG P n l S z (fuel+1) listed e w K:=
 DG.pick [i,f] m Al (fun k hk=>by
  simp only[Tr,Tp,TD]at hk
  rcases hk with rfl|rfl
  ·unfold rK at h;split at h
   ·rename_i o j;exact⟨o,j,h⟩
   ·exact h.elim
  ·unfold rK at c;split at c
   ·rename_i o j;exact⟨o,j,c⟩
   ·exact c.elim)
theorem kQ(i f:Nat)(h:se P n l S fuel listed e w K i)(c:se P n l S fuel listed e w K f)(m:Region.ready .any l.toArray listed=[i,f]:=by kernel_rfl):DK P n l S (fuel+1) listed e w K:=
 DK.pick [i,f] m Al (fun k hk=>by
  simp only[Tr,Tp,TD]at hk
  rcases hk with rfl|rfl
  ·unfold se at h;split at h
   ·rename_i o j;exact⟨o,j,h⟩
   ·exact h.elim
  ·unfold se at c;split at c
   ·rename_i o j;exact⟨o,j,c⟩
   ·exact c.elim)
theorem gn(j:S w)(h:DG P n l S z fuel listed e w K):DL P n l [] e w (fun f c=>jr P n [] (fun _ f c=>(listed.getD z false=true∨S c)∧DG P n l S z fuel listed f c K) .normal f c):=DL.nil ⟨Tk j,h⟩
theorem gl(h:DG P n l S z fuel listed e w K)(j:listed.getD z false=true:=by kernel_rfl):DL P n l [] e w (fun f c=>jr P n [] (fun _ f c=>(listed.getD z false=true∨S c)∧DG P n l S z fuel listed f c K) .normal f c):=DL.nil ⟨Ts j,h⟩
theorem kN(j:S w)(h:DK P n l S fuel listed e w K):DL P n l [] e w (fun f c=>jr P n [] (fun _ f c=>S c∧DK P n l S fuel listed f c K) .normal f c):=DL.nil ⟨j,h⟩
theorem gD(h:K e w)(c:Region.ready .any l.toArray listed=[]:=by kernel_rfl):DG P n l S z fuel listed e w K:=DG.done c h
theorem kD(h:K e w)(c:Region.ready .any l.toArray listed=[]:=by kernel_rfl):DK P n l S fuel listed e w K:=DK.done c h
theorem kT{o:Oper}{v:Value}(i:Nat)(hi:kW l i=some o)(h:∀w,S w→Y P e o w v)(k:DK P n l S fuel (listed.setIfInBounds i true) (put e o.dst v) w K)(hs:Region.noSelect l.toArray=true:=by kernel_rfl)(c:Region.free .any l.toArray listed i=true:=by kernel_rfl)
  (f:(Region.ready .any l.toArray listed).contains i=true:=by kernel_rfl) (j:hU l e o.guard=true:=by rfl) (m:nE n o.dst=true:=by rfl):DK P n l S (fuel+1) listed e w K:=DK.take i hi hs c f j m h k
theorem gT{o:Oper}{v:Value}(i:Nat)(hi:kW l i=some o)(h:∀w,S w→Y P e o w v)(k:DG P n l S z fuel (listed.setIfInBounds i true) (put e o.dst v) w K)(hs:Region.noSelect l.toArray=true:=by kernel_rfl)(c:Region.free .any l.toArray listed i=true:=by kernel_rfl)
  (f:(Region.ready .any l.toArray listed).contains i=true:=by kernel_rfl) (j:qy l z i listed=true:=by kernel_rfl) (m:hU l e o.guard=true:=by rfl) (r:nE n o.dst=true:=by rfl):DG P n l S z (fuel+1) listed e w K:=DG.zo i hi hs c f j m r h k
theorem gf{o:Oper}{v:Value}(i:Nat)(hi:kW l i=some o)(h:∀w,Y P e o w v)(k:DG P n l S z fuel (listed.setIfInBounds i true) (put e o.dst v) w K)(hs:Region.noSelect l.toArray=true:=by kernel_rfl)(c:Region.free .any l.toArray listed i=true:=by kernel_rfl)
  (f:(Region.ready .any l.toArray listed).contains i=true:=by kernel_rfl) (j:Nat.beq z i=false:=by rfl) (m:hU l e o.guard=true:=by rfl) (r:nE n o.dst=true:=by rfl):DG P n l S z (fuel+1) listed e w K:=DG.free i hi hs c f j m r h k
end
section
variable{P:Program}{e:Env}{w:World}
def Ou(fn:Func):Code:=match fn.body with|some c=>c|none=>.skip
theorem cY{j:FuncId}{c:Func}{f:List Value}{S:List Nat}{m:Value→World→Prop}(r:P.funcs[j]? =some c)(k:Fr S w w→DC P c.ntmps (Ou c) (G6 f) w (jr P c.ntmps [] (hD P c.results.toList (hH w S m))))
  (A:c.body.isSome=true:=by rfl) (B:Nat.ble f.length c.ntmps=true:=by rfl):Calls P j f.toArray w (hH w S m):=by
 refine DW (body:=Ou c) (res:=c.results.toList) r ?_ rfl rfl B (k (Fr.refl S w))
 obtain⟨C,hc⟩:=UO.1 A
 simp[Ou,hc]
theorem rX{w0:World}{S:List Nat}{c:Value→World→Prop}{t:Nat}(fr:Fr S w0 w)(f:c (e t) w):hD P [.tmp t] (hH w0 S c) .ret e w:=hD.jR rfl (hH.mk fr f)
theorem rE{w0:World}{S:List Nat}{c:Value→World→Prop}(fr:Fr S w0 w)(f:c (.tuple #[]) w):hD P [] (hH w0 S c) .normal e w:=hD.nf (hH.mk fr f)
theorem rY{w0:World}{S:List Nat}{c:Value→World→Prop}(fr:Fr S w0 w)(f:c (.tuple #[]) w):hD P [] (hH w0 S c) .ret e w:=hD.Hp (hH.mk fr f)
end
section
variable{P:Program}{n:Nat}{e:Env}{w:World}{l:List Oper}{z fuel:Nat}{listed:Array Bool}{K:Env→World→Prop}{ty:TypeId}{pos:String}{af:Array Edge}{g:Option (Nat×Bool)}{x:Operand}{t u b o d:Nat}{cs:Array Value}{fr:Nat×Nat}{v:Value}{w0:World}{S:List Nat}
theorem kL(i:Nat)(c:w0.heap[b]? =some (.cells cs u fr))(hi:kW l i=some ⟨some d,.load t x,ty,pos,af,g⟩)(hx:ev e x=.pointer (some ⟨b,o,none⟩))(f:cs[o]? =some v)(k:DK P n l (Fr [] w0) fuel (listed.setIfInBounds i true) (jZ e d v) w K)
  (ht:iM P t=true:=by kernel_rfl) (hs:Region.noSelect l.toArray=true:=by kernel_rfl) (j:Region.free .any l.toArray listed i=true:=by kernel_rfl) (m:(Region.ready .any l.toArray listed).contains i=true:=by kernel_rfl) (r:hU l e g=true:=by rfl) (A:Nat.blt d n=true:=by rfl):
  DK P n l (Fr [] w0) (fuel+1) listed e w K:=DK.take i hi hs j m r A (fun w B=>Y.hY ht hx (B.il c) f) k
theorem gL(i:Nat)(c:w0.heap[b]? =some (.cells cs u fr))(hi:kW l i=some ⟨some d,.load t x,ty,pos,af,g⟩)(hx:ev e x=.pointer (some ⟨b,o,none⟩))(f:cs[o]? =some v)(k:DG P n l (Fr [] w0) z fuel (listed.setIfInBounds i true) (jZ e d v) w K)
  (ht:iM P t=true:=by kernel_rfl) (hs:Region.noSelect l.toArray=true:=by kernel_rfl) (j:Region.free .any l.toArray listed i=true:=by kernel_rfl) (m:(Region.ready .any l.toArray listed).contains i=true:=by kernel_rfl) (r:qy l z i listed=true:=by kernel_rfl) (A:hU l e g=true:=by rfl) (B:Nat.blt d n=true:=by rfl):
  DG P n l (Fr [] w0) z (fuel+1) listed e w K:=DG.zo i hi hs j m r A B (fun w C=>Y.hY ht hx (C.il c) f) k
theorem gM(i:Nat)(c:w0.heap[b]? =some (.cells cs u fr))(hi:kW l i=some ⟨some d,.load t x,ty,pos,af,g⟩)(hx:ev e x=.pointer (some ⟨b,o,none⟩))(f:cs[o]? =some v)(k:DG P n l (Fr S w0) z fuel (listed.setIfInBounds i true) (jZ e d v) w K)
  (j:b∉S:=by simp only[Tr,Tp,TD];omega)
  (ht:iM P t=true:=by kernel_rfl) (hs:Region.noSelect l.toArray=true:=by kernel_rfl) (m:Region.free .any l.toArray listed i=true:=by kernel_rfl) (r:(Region.ready .any l.toArray listed).contains i=true:=by kernel_rfl) (A:qy l z i listed=true:=by kernel_rfl) (B:hU l e g=true:=by rfl) (C:Nat.blt d n=true:=by rfl):
  DG P n l (Fr S w0) z (fuel+1) listed e w K:=DG.zo i hi hs m r A B C (fun w D=>Y.hY ht hx (D.hO c j) f) k
end
theorem rZ{P:Program}{e:Env}{w w0:World}{S:List Nat}{c:Value→World→Prop}{t u:Nat}(f:Fr S w0 w)(j:c (.tuple #[e t,e u]) w):hD P [.tmp t,.tmp u] (hH w0 S c) .ret e w:=hD.ia rfl rfl (hH.mk f j)
theorem dR{P:Program}{n:Nat}{e:Env}{w:World}{l:List Oper}{id:Nat}{f:Exit→Env→World→Prop}(S:List Nat)(z:Nat)
  (h:∀c,Sp [] w c→c.heap.size=w.heap.size→Fr S c c→DG P n l (Fr S c) z l.length (Array.replicate l.length false) e c (fun j m=>f .normal j m)) (r:P.follows .mixedOrders=true:=by kernel_rfl):DC P n (.region id l.toArray true) e w f:=
 DC.drawn (fun w0=>Fr S w0) z r fun c A hs=>⟨Fr.refl _ _,h c ⟨A⟩ hs (Fr.refl _ _)⟩
theorem dF{P:Program}{n:Nat}{e:Env}{w:World}{l:List Oper}{id:Nat}{f:Exit→Env→World→Prop}
  (h:∀c,Sp [] w c→c.heap.size=w.heap.size→Fr [] c c→DK P n l (Fr [] c) l.length (Array.replicate l.length false) e c (fun j m=>f .normal j m)) (r:P.follows .mixedOrders=true:=by kernel_rfl):DC P n (.region id l.toArray true) e w f:=
 DC.JL r fun c A hs=>h c ⟨A⟩ hs (Fr.refl _ _)
theorem lE{P:Program}{n:Nat}{e:Env}{w:World}{j:Code}{E:Exit→Env→World→Prop}{σ:Type}(S:List Nat)(w0:World)(m:List (Nat×Nat))(r:List (Nat×Value))(c:σ→List (Nat×Value))(f:σ→World→Prop)(A:σ→Nat)(B:σ)
  (G:Fr S w0 w∧f B w) (H:∀(I:Env)(s:σ)(J:Env)(C:World),Fr S w0 C∧f s C→DC P n j (oT (mix m J (oT I r)) (c s)) C (jr P n [] (uE (fun L F=>∃D,(Fr S w0 F∧f D F)∧A D<A s∧j5 L (c D)) E)))
  (M:j5 e r:=by first|trivial|rfl|(repeat' (first|rfl|apply And.intro))) (h0:j5 e (c B):=by first|trivial|rfl|(repeat' (first|rfl|apply And.intro))) (O:(ji j).all (pE m)=true:=by kernel_rfl):
  DC P n (.loop j) e w E:=DC.jC m r c (fun s w=>Fr S w0 w∧f s w) A B O M h0 G H
theorem nm(w:World):∃z,z=w.heap.size:=⟨_,rfl⟩
theorem nl(w:World):∃z,z=w.heap.size∧z≤w.heap.size:=⟨_,rfl,Tv _⟩
theorem Fr.le{S:List Nat}{a b:World}{y:Nat}(c:Fr S a b)(h:y=b.heap.size):a.heap.size≤y:=by rw[h];exact c.size
theorem Fr.l2{S:List Nat}{a b:World}{y z:Nat}(c:Fr S a b)(h:y=a.heap.size)(f:z=b.heap.size):y≤z:=by rw[h,f];exact c.size
theorem GO{w:World}{c e f n:Nat}{d:Value}{j:List Value}(h:w.ownsRowF c e f d n j):∀b∈hX d,c≤b∧b<w.heap.size:=fun b k=>h.lt b (hF.1 k)
theorem kk{c:List Nat}{w d:World}{f e j n:Nat}{b:Value}{k:List Value}(h:w.ownsRowF f e j b n k)(l:Fr c w d)(hs:∀m∈c,b.ownBlock≠some m):d.ownsRowF f e j b n k:=by
 refine⟨h.1,?_⟩
 rcases h.2 with o|⟨g,p,q,r,rfl,t,u,rest⟩
 ·exact .inl o
 exact .inr ⟨g,p,q,r,rfl,t,l.hO u (fun v=>hs g v rfl),rest⟩
theorem uP{w:World}{c e d n:Nat}{b:Value}{f:List Value}(h:w.ownsRowF c e d b n f):b.oneCell'=true:=by
 rcases h.2 with⟨rfl,_⟩|⟨g,j,k,l,rfl,_⟩<;>rfl
theorem qO{P:Program}{w:World}(m:Nat)(c d ty e:TypeId)(i:TypeInfo)(ht:P.underlying c=some (.slice e))(hu:P.underlying d=some .string)(hi:P.info? e=some i)(q:i.zero=some (.int .u8 0))
  (hsize:i.size=1) (hby:i.bytes=1) (j:Value) (n:Nat) (k:List Value) (o:w.ownsRowF m e 1 j n k) (s:ByteArray) (t:n+s.size≤maxLen) (u:n+s.size≤140737488355328) (v:m≤w.heap.size):
  ∃f l,(Builtin.append_ #[c,d] ty #[j,.string s]).run P w=.ok f l∧l.ownsRowF m e 1 f (n+s.size) (k++Lib.strCells s)∧w.grownBy l j.ownBlock∧(f.ownBlock=j.ownBlock∨f.ownBlock=some w.heap.size):=by
 obtain⟨f,l,hrun,y,z,A⟩:=Lib.run_append_own_stringF (P:=P) w m c d ty e i ht hu hi q hsize hby j n k o s t u v
 refine⟨f,l,hrun,y,z,?_⟩
 have hxl:k.length=n:=by simpa using o.1
 have H:maxLen=9223372036854775807:=rfl
 rcases o.2 with⟨rfl,rfl⟩|⟨g,p,r,B,rfl,I,C,D,J,L,E,M⟩
 ·by_cases F:s.size=0
  ·left;rw[(A.2 ⟨rfl,F⟩)]
  have b:=run_append_nil_string (P:=P) w c d ty e i (.int .u8 0) ht hu hi q s Ac Ac (by rw[hby];omega)
  rw[hrun]at b
  right
  have:=(Result.ok.inj b).1
  rw[this];rfl
 by_cases G:n+s.size≤p
 ·have O:r.size=p:=by simpa using E
  have b:=Lib.run_append_room_stringF (P:=P) w c d ty e i ht hu hi hsize g n p r B C (by simpa using D) s G Ac
  rw[hrun]at b
  left
  have:=(Result.ok.inj b).1
  rw[this];rfl
 have b:=Lib.run_append_grow_string (P:=P) w c d ty e i (.int .u8 0) ht hu hi q ⟨g,0,none⟩ n p k Ca (o.cells (g:=g) rfl) s Ac Ac Bz
 rw[hrun]at b
 right
 have:=(Result.ok.inj b).1
 rw[this];rfl
theorem tM{P:Program}{w:World}(r:Nat)(c ty e:TypeId)(i:TypeInfo)(j x:Value)(ht:P.underlying c=some (.slice e))(hi:P.info? e=some i)(v:i.zero=some j)(E:j.cells.size=1)
  (hsize:i.size=1) (hby:i.bytes=1) (k:Value) (n:Nat) (l:List Value) (t:w.ownsRowF r e 1 k n l) (a:Addr) (m:Nat) (F:w.cell? a=some x) (hx:x.oneCell') (G:n+1≤maxLen) (S:n+1≤140737488355328) (H:r≤w.heap.size):
  ∃d o,(Builtin.append_ #[c,c] ty #[k,.slice (some a) 1 m]).run P w=.ok d o∧o.ownsRowF r e 1 d (n+1) (l++[x])∧w.grownBy o k.ownBlock∧(d.ownBlock=k.ownBlock∨d.ownBlock=some w.heap.size):=by
 have u:∀p f,([x]:List Value)[p]? =some f→w.cell? (a.add p)=some f:=by
  intro p f hj
  cases p with
  |zero=>simp at hj;subst hj;simpa[Addr.add]using F
  |succ p=>simp at hj
 have h1:∀f∈[x],f.oneCell'=true:=by intro f hu;simp at hu;subst hu;exact hx
 obtain⟨d,o,hrun,z,I,J⟩:=run_append_ownF (P:=P) w r c ty e i j 1 1 ht hi v hsize hby E Ah k n l t a 1 m [x] rfl u h1 G Ac H
 refine⟨d,o,hrun,z,I,?_⟩
 have hxl:l.length=n:=by simpa using t.1
 have T:maxLen=9223372036854775807:=rfl
 rcases t.2 with⟨rfl,rfl⟩|⟨g,q,y,A,rfl,L,B,C,M,O,D,Q⟩
 ·have h0:¬d=Zl:=fun h=>by have:=(J.1 h).2;omega
  rcases z.2 with⟨h,_⟩|⟨g,q,y,A,rfl,L,B,C,M,O,D,Q⟩
  ·exact Tu h h0
  right
  have b:=run_append_nil (P:=P) w c ty e i j ht hi v a 1 m [x] (by rw[hsize];rfl) u Ac Ac (by rw[hby];omega)
  rw[hrun]at b
  have:=(Result.ok.inj b).1
  rw[this];rfl
 by_cases R:n+1≤q
 ·have U:y.size=q:=by simpa using D
  have b:=run_append_roomF (P:=P) w c ty e i ht hi g n q y A B (by rw[hsize];simpa using C) a 1 m [x] (by rw[hsize];rfl) u h1 R (by rw[hsize];simp;omega)
  rw[hrun]at b
  left
  have:=(Result.ok.inj b).1
  rw[this];rfl
 have b:=run_append_grow (P:=P) w c ty e i j ht hi v ⟨g,0,none⟩ n q l Ca (t.cells (g:=g) rfl) a 1 m [x] (by rw[hsize];rfl) u Ac Ac Bz
 rw[hrun]at b
 right
 have:=(Result.ok.inj b).1
 rw[this];rfl
section
variable{P:Program}{n:Nat}{e:Env}{w:World}{ops rest:List Oper}{K:Env→World→Prop}{dst:Option Tmp}{ty:TypeId}{pos:String}{af:Array Edge}{g:Option (Nat×Bool)}
theorem DL.yo{s x:Operand}{j k d l f N:Nat}{v:Value}{m:List Value}{b:ByteArray}(q:hU ops e g)(r:Nat.blt l n)(ht:lR P j d 1 1)(hu:P.underlying k=some .string)(o:jh P d=some (.int .u8 0))(hs:ev e s=v)(hx:ev e x=.string b)
  (t:w.ownsRowF f d 1 v N m) (hby:N+b.size≤140737488355328) (u:f≤w.heap.size)
  (y:∀c w',Fr (hX v) w w'→w'.ownsRowF f d 1 c (N+b.size) (m++Lib.strCells b)→(c.ownBlock=v.ownBlock∨c.ownBlock=some w.heap.size)→DL P n ops rest (jZ e l c) w' K):
  DL P n ops (⟨some l,.call ⟨.builtin .append,#[s,x],#[j,k]⟩,ty,pos,af,g⟩::rest) e w K:=by
 obtain⟨i,G,z,p,A,B,H,I,J,L⟩:=kj ht
 have C:i.zero=some (.int .u8 0):=by
  unfold jh at o
  rw[p]at o
  exact o
 obtain⟨c,w',hrun,D,E,F⟩:=qO (P:=P) (w:=w) f j k ty d i z hu p C A B v N m t b Bx hby u
 refine DL.run q r (v:=c) ?_ (y c w' (mo E) D F)
 simp[execOp,resolve,Go.invoke,builtin,hs,hx,hrun]
theorem DL.yt{s x:Operand}{d f k j N m b:Nat}{v y:Value}{l:List Value}(o:hU ops e g)(p:Nat.blt k n)(ht:lR P d f 1 1)(hs:ev e s=v)(hx:ev e x=.slice (some ⟨b,0,none⟩) 1 m)(q:w.cell? ⟨b,0,none⟩=some y)(r:y.oneCell')
  (t:w.ownsRowF j f 1 v N l) (hby:N+1≤140737488355328) (u:j≤w.heap.size)
  (z:∀c w',Fr (hX v) w w'→w'.ownsRowF j f 1 c (N+1) (l++[y])→(c.ownBlock=v.ownBlock∨c.ownBlock=some w.heap.size)→DL P n ops rest (jZ e k c) w' K):
  DL P n ops (⟨some k,.call ⟨.builtin .append,#[s,x],#[d,d]⟩,ty,pos,af,g⟩::rest) e w K:=by
 obtain⟨i,A,B,C,D,E,F,G,L,M⟩:=kj ht
 obtain⟨c,w',hrun,H,I,J⟩:=tM (P:=P) (w:=w) j d ty f i A y B C F G D E v N l t ⟨b,0,none⟩ m q r Bx hby u
 refine DL.run o p (v:=c) ?_ (z c w' (mo I) H J)
 simp[execOp,resolve,Go.invoke,builtin,hs,hx,hrun]
end
end Go.Proofs.YtlojelcoibpphaaGreatDoor.D
namespace Go.Proofs.YtlojelcoibpphaaGreatDoor
open Go Go.RowKit D Go.Deep
variable{L:List UInt8}{m k:Nat}{w W:World}{c:Array Value}{v u:Value}{R rA rB:List Nat}{vL:List Value}{uA:UInt8}
def bv(l:List UInt8):List Value:=l.map fun c=>.int .u8 (c.toNat:Int)
theorem sq(a b:List UInt8):bv (a++b)=bv a++bv b:=by simp[bv]
def Sub(X S:List Nat)(w:World):Prop:=∀i∈X,i∈S∨w.heap.size≤i
theorem Sub.refl(b:List Nat)(c:World):Sub b b c:=fun i h=>Ts h
theorem Sub.step(h:Sub R rB w)(hs:w.heap.size≤W.heap.size)(b:Sub rA R W):Sub rA rB w:=fun i hi=>(b i hi).elim (h i) (fun h2=>Tk (Tq hs h2))
theorem Sub.not(b:Sub rA R w)(h:m∉R)(hc:m<w.heap.size):m∉rA:=fun hi=>(b m hi).elim h (fun h2=>by omega)
theorem Sub.cons(c:Sub rA R w)(b:Nat):Sub (b::rA) (b::R) w:=fun i hi=>by
 rcases Tr.1 hi with rfl|h
 ·exact Ts Al
 ·exact(c i h).imp (fun h=>by simp[h]) id
theorem Fr.mono(h:Fr R w W)(hs:∀i∈R,i∈rA):Fr rA w W:=⟨h.os,h.tape,h.output,h.size,fun i hi ht=>h.block i hi (fun h2=>ht (hs i h2))⟩
theorem hH.Fi{d f:Value→World→Prop}(hs:∀i∈R,i∈rA)(h:∀c b,Fr R w b→d c b→f c b):∀x b,hH w R d x b→hH w rA f x b:=by
 intro x b hx
 cases x with
 |returned c=>exact⟨Fr.mono hx.1 hs,h c b hx.1 hx.2⟩
 |_=>exact hx.elim
structure uK(w:World)(B b:Nat)(X:List Nat)(l:List UInt8):Prop where
 out:∃p v,w.heap[b]? =some (.cells #[p,v] 88 (0,0))∧(p=Zp∨p=Pt b)∧w.ownsRowF B 5 1 v l.length (bv l)∧X=b::hX v
 lo:B≤b
theorem uK.ge(h:uK w m k R L):∀i∈R,m≤i∧i<w.heap.size:=by
 obtain⟨d,f,b,g,c,rfl⟩:=h.out
 intro i hi
 rcases Tr.1 hi with rfl|hi
 ·exact⟨h.lo,hC b⟩
 exact GO c i hi
theorem uK.fr(h:uK w k m R L)(b:Fr rA w W)(hs:∀i∈rA,i∉R):uK W k m R L:=by
 obtain⟨c,d,f,g,j,rfl⟩:=h.out
 exact⟨⟨c,d,b.hO f (fun hi=>hs m hi Al),g,kk j b (fun i hi l=>hs i hi (by simp[hF.2 l])),rfl⟩,h.lo⟩
theorem uK.g{X:List Nat}{b:List UInt8}(h:uK w m k X b)(c:uK w m k X b→uK W m k X b:=by exact Gq):uK W m k X b:=c h
theorem lQ{n:Nat}(b:w.ownsRowF k 5 1 v n vL)(d:w.heap[m]? =some (.cells c 88 (0,0))):m∉hX v:=fun h=>Lib.ownBlock_neF b d Ah (hF.1 h)
theorem rq(c:Nat)(f:Value)(d:World)(b:d.heap[c]? =some (.cells #[Zp,f] 88 (0,0))):Calls Tryz.prog 102 #[(Pt c)] d (hH d [c] fun g k=>g=.tuple #[]∧k.heap[c]? =some (.cells #[(Pt c),f] 88 (0,0))):=cY Tryz.func102 fun l=>ac 5<|lD b rfl rfl<|au 6<|DL.y rfl rfl (Y.M3 (t:=88) (el:=88) (cells:=2) (j:=(Tryz.prog.info? 88).get!) Au Au Au (by have:(Tryz.prog.info? 88).get!.size=2:=by{kernel_rfl};rw[this];decide) rfl (by simp[World.shape?,b]) (by show 0<2;omega))<|DL.y rfl rfl (Y.HG (fn:=Tryz.f122) Tryz.func122 Au Au Au Au rfl (Lib.run_noEscape _ _))<|DL.y rfl rfl (Y.FQ (u:=88) (el:=88) (cells:=2) (j:=(Tryz.prog.info? 88).get!) Au Au Au rfl (by simp[World.shape?,b]) Au)<|au 2<|sc b rfl rfl rfl rfl fun m o p b=>au 1<|rE l.g ⟨rfl,b⟩
theorem qg(b:Nat)(f:Value)(c:World)(d:c.heap[b]? =some (.cells #[Pt b,f] 88 (0,0))):Calls Tryz.prog 102 #[(Pt b)] c (hH c [b] fun g k=>g=.tuple #[]∧k.heap[b]? =some (.cells #[(Pt b),f] 88 (0,0))):=cY Tryz.func102 fun l=>ac 5<|lD d rfl rfl<|au 8<|lD d rfl rfl<|au 1<|DL.y rfl rfl (Y.Mz (te:=88) (j:=(Tryz.prog.info? 88).get!) Au Au rfl rfl)<|au 3<|rE l ⟨rfl,d⟩
theorem nT(b:w.heap[m]? =some (.cells #[u,v] 88 (0,0)))(c:u=Zp∨u=Pt m):Calls Tryz.prog 102 #[(Pt m)] w (hH w [m] fun d f=>d=.tuple #[]∧f.heap[m]? =some (.cells #[(Pt m),v] 88 (0,0))):=by
 rcases c with rfl|rfl
 ·exact rq m v w b
 exact qg m v w b
theorem mG{s:ByteArray}(h:uK w k m R L)(hlen:L.length+s.size≤140737488355328):Calls Tryz.prog 72 #[(Pt m),.string s] w (hH w R fun G q=>∃l,uK q k m l (L++s.data.toList)∧Sub l R w):=by
 obtain⟨H,f,b,r,c,rfl⟩:=h.out
 have t:=h.lo
 have I:=hC b
 refine cY Tryz.func72 fun d=>ac 8<|cX (nT b r) ?_
 rintro _ J u K ⟨rfl,v⟩
 have c:=kk c u.f (fun i hi g=>by rcases Tt.1 hi with rfl;exact lQ c b (hF.2 g))
 have b:=v
 refine au 7<|lD b rfl rfl<|au 1<|DL.yo (v:=f) rfl rfl F.Jb Tryz.underlying9 F.z5 rfl rfl c Ac (by have:=d.g.size;omega) ?_
 intro o M p y z
 have A:Sub (m::hX o) (m::hX f) w:=fun i hi=>by
  rcases Tr.1 hi with rfl|hi
  ·exact Ts Al
  rcases z with h|h
  ·exact Ts BK
  have j:=hF.1 hi;rw[h]at j;injection j with j;right;have:=d.g.size;omega
 have B:m∉hX f:=lQ c b
 have d:=d.g.put p (fun i hi=>Ts (by simp[hi]))
 have b:=p.hO b B
 have c:=y
 have C:m∉hX o:=lQ c b
 refine au 2<|sc b rfl rfl (uP c) rfl fun O D P b=>have c:=kk c D.f (fun i hi g=>by rcases Tt.1 hi with rfl;exact C (hF.2 g));au 9<|hD.ia rfl rfl (hH.mk d.g ⟨_,⟨⟨_,_,b,Tk rfl,?_,rfl⟩,t⟩,A⟩)
 have E:=hK s
 rw[Tl,←E,sq];exact c
theorem nV(h:uK w k m R L)(hlen:L.length+1≤140737488355328):Calls Tryz.prog 76 #[(Pt m),.int .u8 (uA.toNat:Int)] w (hH w R fun K r=>∃o,uK r k m o (L++[uA])∧Sub o R w):=by
 obtain⟨M,f,c,t,b,rfl⟩:=h.out
 have u:=h.lo
 have O:=hC c
 refine cY Tryz.func76 fun d=>ac 7<|cX (nT c t) ?_
 rintro _ P v Q ⟨rfl,z⟩
 have b:=kk b v.f (fun i hi g=>by rcases Tt.1 hi with rfl;exact lQ b c (hF.2 g))
 have c:=z
 refine au 7<|lD c rfl rfl<|au 1<|DL.iu (cs:=#[.int .u8 (uA.toNat:Int)]) rfl rfl F.Jb rfl rfl rfl fun A B j S T C=>have j:=Sp.mk j;have b:=kk b j.f Al;have U:_≤B.heap.size:=d.g.size;DL.yt (v:=f) (y:=.int .u8 (uA.toNat:Int)) (b:=A) rfl rfl F.Jb rfl rfl (jm C rfl) rfl b Ac (by have:=d.g.size;omega) ?_
 intro p W q D E
 have G:Sub (m::hX p) (m::hX f) w:=fun i hi=>by
  rcases Tr.1 hi with rfl|hi
  ·exact Ts Al
  rcases E with h|h
  ·exact Ts BK
  have l:=hF.1 hi;rw[h]at l;injection l with l;right;have:=d.g.size;omega
 have H:m∉hX f:=lQ b (Gb c)
 have d:=d.g.put q (fun i hi=>Ts (by simp[hi]))
 have c:=q.hO (Gb c) H
 have b:=D
 have I:m∉hX p:=lQ b c
 refine au 2<|sc c rfl rfl (uP b) rfl fun X J Y c=>have b:=kk b J.f (fun i hi g=>by rcases Tt.1 hi with rfl;exact I (hF.2 g));au 6<|rX d.g ⟨_,⟨⟨_,_,c,Tk rfl,?_,rfl⟩,u⟩,G⟩
 rw[Tl,sq];exact b
end Go.Proofs.YtlojelcoibpphaaGreatDoor
namespace Go.Proofs
open Go.Shelf
def Tryz.ux:Go.Shelf.Ren:=⟨fun|197=>133|260=>137|n=>n,fun|9=>9|21=>21|3=>3|4=>4|5=>5|105=>222|119=>150|0=>0|46=>154|139=>153|138=>152|n=>n,fun|3=>0|4=>1|n=>n⟩
theorem Tryz.Hf:Go.Proofs.Lays.n197 Tryz.prog Tryz.ux:={
 mixed:=by kernel_rfl
 f197:=Tryz.func133.trans (TR some (by kernel_rfl))
 f260:=Tryz.func137.trans (TR some (by kernel_rfl))
 t0:=Tryz.underlying0
 a0:=Tryz.isAgg0
 z0:=Tryz.sizeOf0
 v0:=Tryz.zeroValue0
 t3:=Tryz.underlying3
 a3:=Tryz.isAgg3
 z3:=Tryz.sizeOf3
 v3:=Tryz.zeroValue3
 t4:=Tryz.underlying4
 a4:=Tryz.isAgg4
 z4:=Tryz.sizeOf4
 v4:=Tryz.zeroValue4
 t5:=Tryz.underlying5
 a5:=Tryz.isAgg5
 z5:=Tryz.sizeOf5
 v5:=Tryz.zeroValue5
 t9:=Tryz.underlying9
 a9:=Tryz.isAgg9
 z9:=Tryz.sizeOf9
 v9:=Tryz.zeroValue9
 t21:=Tryz.underlying21
 a21:=Tryz.isAgg21
 z21:=Tryz.sizeOf21
 v21:=Tryz.zeroValue21
 t46:=Tryz.underlying154
 a46:=Tryz.isAgg154
 z46:=Tryz.sizeOf154
 v46:=Tryz.zeroValue154
 t105:=Tryz.underlying222
 a105:=Tryz.isAgg222
 z105:=Tryz.sizeOf222
 v105:=Tryz.zeroValue222
 t119:=Tryz.underlying150
 a119:=Tryz.isAgg150
 z119:=Tryz.sizeOf150
 t138:=Tryz.underlying152
 a138:=Tryz.isAgg152
 z138:=Tryz.sizeOf152
 v138:=Tryz.zeroValue152
 t139:=Tryz.underlying153
 a139:=Tryz.isAgg153
 z139:=Tryz.sizeOf153
 v139:=Tryz.zeroValue153
 g3:=by kernel_rfl
 g4:=by kernel_rfl}
end Go.Proofs
namespace Go.Proofs.YtlojelcoibpphaaGreatDoor
open Go Go.RowKit D Go.Deep
variable{L M:List UInt8}{m k nA nB nC:Nat}{w W:World}{c:Array Value}{R rA:List Nat}{uA:UInt8}
theorem nQ{n:Nat}(b:n<256)(h:(uA.toNat:Int)=(n:Int)):uA=UInt8.ofNat n:=by
 apply TV.1
 rw[UG];omega
theorem lO{n:Nat}(b:n<256)(h:¬(uA.toNat:Int)=(n:Int)):¬uA=UInt8.ofNat n:=by
 intro hc;subst hc
 exact h (by rw[UG];omega)
theorem rn(x a : Value)(b : World) : (callMethod (.iface 85 x) "WriteString" [a].toArray).run Tryz.prog b = .ok (.enter 72 (x :: [a]).toArray) b := by kernel_rfl
theorem zN(x a : Value)(b : World) : (callMethod (.iface 85 x) "WriteByte" [a].toArray).run Tryz.prog b = .ok (.enter 76 (x :: [a]).toArray) b := by kernel_rfl
structure ES(w:World)(B be b:Nat)(X:List Nat)(l:List UInt8):Prop where
 cell:w.cell? ⟨be,0,none⟩=some (.iface 85 (Pt b))
 row:∃buf,w.heap[be]? =some (.cells buf 214 (0,0))∧buf.size=65
 JN:∃Xb,uK w B b Xb l∧X=be::Xb∧be∉Xb
 lo:B≤be
 two:2≤B
theorem ES.ge(h:ES w m k nA R L):∀i∈R,m≤i∧i<w.heap.size:=by
 obtain⟨d,b,rfl,f⟩:=h.JN
 obtain⟨g,c,_⟩:=h.row
 intro i hi
 rcases Tr.1 hi with rfl|hi
 ·exact⟨h.lo,hC c⟩
 exact b.ge i hi
theorem ES.fr(h:ES w k m nA rA L)(b:Fr R w W)(hs:∀i∈R,i∉rA):ES W k m nA rA L:=by
 obtain⟨d,f,rfl,g⟩:=h.JN
 obtain⟨j,l,o⟩:=h.row
 have c:m∉R:=fun hi=>hs m hi Al
 exact⟨b.cell h.cell c,⟨j,b.hO l c,o⟩,⟨d,f.fr b (fun i hi hx=>hs i hi Ci),rfl,g⟩,h.lo,h.two⟩
theorem ES.g(h:ES w m k nA R L)(b:ES w m k nA R L→ES W m k nA R L:=by exact Gq):ES W m k nA R L:=b h
theorem ES.k9(h:ES w m k nA R L)(b:Fr [] w W):ES W m k nA R L:=h.fr b Al
theorem ES.put{X:List Nat}(h:ES w k m nA (m::R) M)(b:m∉R)(c:Fr R w W)(f:uK W k nA rA L)(hs:Sub rA R w):ES W k m nA (m::rA) L:=by
 obtain⟨g,d,j⟩:=h.row
 exact⟨c.cell h.cell b,⟨g,c.hO d b,j⟩,⟨rA,f,rfl,hs.not b (hC d)⟩,h.lo,h.two⟩
theorem ES.rD{X:List Nat}{s:ByteArray}(h:ES w nA m k X L)(hlen:L.length+s.data.toList.length≤140737488355328):Calls Tryz.prog 72 #[Pt k,.string s] w (hH w X fun j c=>∃b,ES c nA m k b (L++s.data.toList)∧Sub b X w):=by
 obtain⟨l,d,rfl,f⟩:=h.JN
 refine(mG d (by rw[hK];exact hlen)).mono (hH.Fi (fun i hi=>by simp[hi]) ?_)
 rintro o c g ⟨b,h1,h2⟩
 exact⟨m::b,h.put (X:=[]) f g h1 h2,h2.cons m⟩
theorem ES.uu{X:List Nat}{c:UInt8}(h:ES w nA m k X L)(hlen:L.length+1≤140737488355328):Calls Tryz.prog 76 #[Pt k,.int .u8 (c.toNat:Int)] w (hH w X fun l d=>∃b,ES d nA m k b (L++[c])∧Sub b X w):=by
 obtain⟨o,f,rfl,g⟩:=h.JN
 refine(nV f hlen).mono (hH.Fi (fun i hi=>by simp[hi]) ?_)
 rintro p d j ⟨b,h1,h2⟩
 exact⟨m::b,h.put (X:=[]) g j h1 h2,h2.cons m⟩
theorem ES.buf(h:ES W nA m k R L)(f:Fr [m] W w)(b:w.heap[m]? =some (.cells c 214 (0,0)))(g:c.size=65)(hc:c[0]? =some (.iface 85 (Pt k))):ES w nA m k R L:=by
 obtain⟨j,l,rfl,d⟩:=h.JN
 exact⟨jm b hc,⟨c,b,g⟩,⟨j,l.fr f (fun i hi hx=>by rcases Tt.1 hi with rfl;exact d hx),rfl,d⟩,h.lo,h.two⟩
theorem ES.mem(h:ES w k m nA R L):m∈R:=by
 obtain⟨b,c,rfl,d⟩:=h.JN
 simp
theorem ES.cast{l':List UInt8}(h:ES w m k nA R L)(e:L=l'):ES w m k nA R l':=e▸h
theorem ij.es(h:ij w)(b:ES w m k nA R L)(c:Fr R w W):ij W:=h.fr c (fun d hc f=>by have:=(b.ge d f).1;have:=b.two;omega)
theorem vq{n b1 b2 b3:Nat}(h0:128≤m)(b:¬((Lib.decodeN n m b1 b2 b3).1=65533∧(Lib.decodeN n m b1 b2 b3).2=1)):
  ((Lib.decodeN n m b1 b2 b3).2=2∧1<n∧128≤b1)∨((Lib.decodeN n m b1 b2 b3).2=3∧2<n∧128≤b1∧128≤b2)∨((Lib.decodeN n m b1 b2 b3).2=4∧3<n∧128≤b1∧128≤b2∧128≤b3):=by
 unfold Lib.decodeN at b⊢
 rw[TI Ac]at b⊢
 split at b
 ·rename_i h
  rw[TU h]
  split at b
  ·rename_i h2;rw[TU h2];exact Ts ⟨rfl,h.2.1,Ac⟩
  exact Tu ⟨rfl,rfl⟩ b
 rename_i h
 rw[TI h]
 split at b
 ·rename_i h
  rw[TU h]
  split at b
  ·rename_i h2;rw[TU h2];exact Tk (Ts ⟨rfl,h.2.2.1,Ac,Ac⟩)
  exact Tu ⟨rfl,rfl⟩ b
 rename_i h
 rw[TI h]
 split at b
 ·rename_i h
  rw[TU h]
  split at b
  ·rename_i h2;rw[TU h2];exact Tk (Tk ⟨rfl,h.2.2.2.1,Ac,Ac,Ac⟩)
  exact Tu ⟨rfl,rfl⟩ b
 exact Tu ⟨rfl,rfl⟩ b
theorem HH(h:128≤uA.toNat):kK uA=[uA]:=by
 have b (d:UInt8) (hd:¬128≤d.toNat):¬uA=d:=fun hc=>hd (hc▸h)
 unfold kK
 rw[TI (b 34 Ah),TI (b 92 Ah),TI (b 10 Ah),TI (b 9 Ah),TI (b 13 Ah),TI (b 8 Ah),TI (b 12 Ah),TI]
 rintro(h1|h1)
 ·omega
 exact b 127 Ah h1
theorem ug(a b:List UInt8):iS (a++b)=iS a++iS b:=by simp[iS]
theorem xN:∀(b:List UInt8),(∀c∈b,128≤c.toNat)→iS b=b
 |[],_=>rfl
 |c::b,h=>by
  have h1:=xN b (fun x hx=>h x Ci)
  simp only[iS,US]at h1⊢
  rw[h1,HH (h c Al)];rfl
theorem F0(g:L≠[])(c:Lib.validD L)(h0:128≤(L.getD 0 0).toNat):
  ¬((Lib.decodeL L).1=65533∧(Lib.decodeL L).2=1)∧1≤(Lib.decodeL L).2∧(Lib.decodeL L).2≤L.length∧iS (L.take (Lib.decodeL L).2)=L.take (Lib.decodeL L).2∧Lib.validD (L.drop (Lib.decodeL L).2)=true:=by
 rw[Lib.validD_step L g]at c
 have d:¬((Lib.decodeL L).1=65533∧(Lib.decodeL L).2=1):=fun h=>by rw[TU h]at c;cases c
 rw[TI d]at c
 refine⟨d,?_⟩
 have f:=Lib.decodeL_N L
 have hc:=vq (n:=L.length) (b1:=(L.getD 1 0).toNat) (b2:=(L.getD 2 0).toNat) (b3:=(L.getD 3 0).toNat) h0 (by rw[←f];exact d)
 rw[←f]at hc
 have l:∀b,b<L.length→L.getD b 0=L[b]! :=fun b hj=>by simp[TL,hj]
 refine⟨Ac,Ac,xN _ (fun m j=>?_),c⟩
 obtain⟨b,hj,rfl⟩:=T0 j
 rw[List.getElem_take]
 have k:b<L.length:=by rw[Ud]at hj;omega
 have o:b<(Lib.decodeL L).2:=by rw[Ud]at hj;omega
 have e:L[b]=L.getD b 0:=by simp[TL,k]
 rw[e]
 rcases hc with h|h|h
 ·rcases(by omega:b=0∨b=1)with rfl|rfl<;>omega
 ·rcases(by omega:b=0∨b=1∨b=2)with rfl|rfl|rfl<;>omega
 rcases(by omega:b=0∨b=1∨b=2∨b=3)with rfl|rfl|rfl|rfl<;>omega
theorem tO(h:uA.toNat<128)(b:Lib.validD (uA::L)):Lib.validD L=true:=by
 rw[Lib.validD_step _ Al,Lib.decodeL_ascii uA L h]at b
 split at b
 ·cases b
 simpa using b
theorem ru{s:ByteArray}{i:Nat}(h:i<s.size):Lib.decodeGo (s.extract i s.size)=Lib.decodeL (s.data.toList.drop i):=by
 unfold Lib.decodeGo
 rw[TI (by rw[Lib.tail_size];omega),Lib.tail_decode,Va,Lib.decodeL_drop]
theorem HA{s:ByteArray}{i:Nat}(h:i<s.size)(b:ij w):Calls Tryz.prog 133 #[.string (s.extract i s.size)] w (hH w [] fun c _=>c=.tuple #[.int .i32 ((Lib.decodeL (s.data.toList.drop i)).1:Int),.int .i64 ((Lib.decodeL (s.data.toList.drop i)).2:Int)]):=by
 refine(Any.utf8_DecodeRuneInString Tryz.Hf (s.extract i s.size) w b).mono fun e g d=>?_
 obtain⟨rfl,f⟩:=d
 exact hH.mk (Fr.wS f) (by rw[ru h])
theorem qI{s:ByteArray}{i:Nat}(h:i<s.size)(hs:m≤i):(s.data.toList.take (i+1)).drop m=(s.data.toList.take i).drop m++[s[i]]:=by
 have hl:i<s.data.toList.length:=by simpa using h
 rw[Ul hl,U7 BF]
 rfl
theorem qt{s:ByteArray}{a:Nat}:(s.extract ((a:Int).toNat) ((m:Int).toNat)).data.toList=(s.data.toList.take m).drop a:=by
 rw[Vh,Vh,UI,UQ,UL,←List.drop_take]
theorem uX{s:ByteArray}{a:Nat}:(s.extract ((a:Int).toNat) s.size).data.toList=s.data.toList.drop a:=by
 rw[Vh,UI,UQ,UL]
 have:s.size=s.data.toList.length:=hK s
 rw[this,TK Al]
theorem drop_cons{s:ByteArray}{i:Nat}(h:i<s.size):s.data.toList.drop i=s[i]::s.data.toList.drop (i+1):=by
 have hl:i<s.data.toList.length:=by simpa using h
 rw[T6 hl];rfl
theorem EX:∀b:Nat,b<16→(CZ:ByteArray).data.toList[b]? =some (mU b):=by
 intro b c
 have:∀b:Fin 16,(CZ:ByteArray).data.toList[b.val]? =some (mU b.val):=by decide+kernel
 exact this ⟨b,c⟩
theorem LR(b:UInt8):IntKind.u8.wrap ((b.toNat&&& 15:Nat):Int)=((b.toNat%16:Nat):Int):=by
 have e:b.toNat&&& 15=b.toNat%16:=Nat.and_two_pow_sub_one_eq_mod b.toNat 4
 rw[e];exact wrap_u8 Ac
set_option maxHeartbeats 1000000 in
theorem oY{s:ByteArray}(b:ES w nC nA nB R L)(d:ij w)(aW:Lib.validD s.data.toList)(hlen:L.length+6*s.size+100≤140737488355328):Calls Tryz.prog 124 #[(Pt nA),.string s] w (hH w R fun aX aY=>aX=.tuple #[]∧∃aI,ES aY nC nA nB aI (L++qL s.data.toList)∧Sub aI R w):=by
 have f:=Sub.refl R w
 have aZ:=hK s
 have c1:=lS s.data.toList
 refine cY Tryz.func124 fun g=>ac 5<|lC b.cell rfl<|DL.invoke rfl rfl rfl rfl (zN _ _) (b.uu (c:=34) AG) ?_
 rintro _ ab ad ⟨ae,ba,bb⟩
 have o:=f.step g.size bb
 have g:=g.put ad f
 have f:=o
 have d:ij ab:=by first|exact d.es b ad|exact d.fr ad AV
 have b:=ba
 refine au 11<|DC.jC (σ:=Nat×Nat×List Nat) [(4,8),(14,169)] [(0,(Pt nA)),(1,.string s)] (fun(t,i,_)=>[(4,.int .i64 (t:Int)),(5,.int .i64 (i:Int))]) (fun E u=>Fr ae ab u∧(fun(t,i,z) u=>t≤i∧i≤s.size∧ES u nC nA nB z (L++(34::iS (s.data.toList.take t)))∧Sub z ae ab∧iS (s.data.toList.take i)=iS (s.data.toList.take t)++(s.data.toList.take i).drop t∧Lib.validD (s.data.toList.drop i)=true∧ij u) E u) (fun(_,i,_)=>s.size - i) ((0,0,ae)) Au ?_ ?_ ?_ ?_
 ·exact⟨rfl,rfl⟩
 ·exact⟨rfl,rfl⟩
 ·exact⟨Fr.refl _ _,Tv _,TE _,b,Sub.refl _ _,by simp[iS],by simpa using aW,d⟩
 rintro af ⟨t,i,z⟩ c2 T ⟨aJ,bc,c3,bd,aL,K,ag,be⟩
 have o:=f.step g.size aL
 have g:=g.put aJ f
 have f:=o
 have q:=aJ
 have p:=aL
 have b:=bd
 have d:=be
 have c4:=lS (s.data.toList.take t)
 have c5:(iS (s.data.toList.take t)).length≤6*t:=by{have h1:(s.data.toList.take t).length≤t:=by{rw[Ud];omega};omega}
 have c6:=lS (s.data.toList.take i)
 have c7:(iS (s.data.toList.take i)).length≤6*i:=by{have h1:(s.data.toList.take i).length≤i:=by{rw[Ud];omega};omega}
 refine ac 6<|jX rfl rfl (fun bf=>?_) (fun bf=>?_)
 ·have hi:i<s.size:=by omega
  have bg:s[i].toNat<2^IntKind.u8.bits:=s[i].toNat_lt
  have hu:=s[i].toNat_lt
  refine au 9<|DL.y rfl rfl (Y.jb (i:=i) Tryz.underlying9 rfl rfl rfl hi)<|au 5<|jX rfl rfl (fun bh=>?_) (fun bh=>?_)
  ·have aM:Lib.validD (s.data.toList.drop (i+1))=true:=by rw[drop_cons hi]at ag;exact tO Ac ag
   refine au 2 ?_
   have U:=Fr.refl z T
   have W:=Sub.refl z T
   refine DC.lG (σ:=List Nat) (fun _=>[(0,(Pt nA)),(1,.string s),(4,.int .i64 (t:Int)),(5,.int .i64 (i:Int)),(6,.int .u8 (s[i].toNat:Int))]) (fun E u=>Fr z T u∧(fun C u=>ES u nC nA nB C (L++(34::iS (s.data.toList.take t)))∧Sub C z T∧ij u∧(s[i].toNat<32∨s[i]=34∨s[i]=92∨s[i]=127)) E u) ?_ ?_
   ·refine ac 3<|jM rfl rfl (fun bi=>?_) (fun bi=>?_)
    ·refine au 2<|jM rfl rfl (fun bj=>?_) (fun bj=>?_)
     ·refine au 3<|jN rfl rfl (fun ah=>?_) (fun ah=>?_)
      ·refine au 3<|jN rfl rfl (fun aj=>?_) (fun aj=>?_)
       ·have bk:kK s[i]=[s[i]]:=by
         have bl:¬s[i]=34:=lO (n:=34) Ah ah
         have bm:¬s[i]=92:=lO (n:=92) Ah aj
         have bn:¬s[i]=10:=lO (n:=10) Ah Ac
         have bo:¬s[i]=9:=lO (n:=9) Ah Ac
         have bp:¬s[i]=13:=lO (n:=13) Ah Ac
         have bq:¬s[i]=8:=lO (n:=8) Ah Ac
         have br:¬s[i]=12:=lO (n:=12) Ah Ac
         have bs:¬s[i]=127:=lO (n:=127) Ah Ac
         unfold kK
         rw[TI bl,TI bm,TI bn,TI bo,TI bp,TI bq,TI br,TI (by rintro(h|h);omega;exact bs h)]
        refine au 6<|ai ((i+1:Nat):Int) rfl rfl<|au 3 ?_
        have aN:=j1 hi
        rw[bk]at aN
        exact⟨(t,i+1,z),⟨q,Ac,hi,b,p,by rw[qI hi bc,aN,K,Ty],aM,d⟩,by show s.size - (i+1)<s.size - i;omega,rfl,rfl⟩
       refine au 4 ?_
       refine⟨z,⟨rfl,rfl,rfl,rfl,rfl⟩,U,b,W,d,?_⟩
       right;right;left;exact nQ (n:=92) Ah (Classical.not_not.1 aj)
      refine au 8 ?_
      refine⟨z,⟨rfl,rfl,rfl,rfl,rfl⟩,U,b,W,d,?_⟩
      right;left;exact nQ (n:=34) Ah (Classical.not_not.1 ah)
     refine au 12 ?_
     refine⟨z,⟨rfl,rfl,rfl,rfl,rfl⟩,U,b,W,d,?_⟩
     right;right;right;exact nQ (n:=127) Ah Ac
    refine au 15 ?_
    refine⟨z,⟨rfl,rfl,rfl,rfl,rfl⟩,U,b,W,d,?_⟩
    left;omega
   rintro M af X ⟨aO,bt,aP,bu,bv⟩
   have o:=f.step g.size aP
   have g:=g.put aO f
   have f:=o
   have r:=p.step q.size aP
   have q:=q.put aO p
   have p:=r
   have b:=bt
   have d:=bu
   have G:=Fr.refl M X
   have O:=Sub.refl M X
   refine DC.lG (σ:=List Nat) (fun _=>[(0,(Pt nA)),(1,.string s),(4,.int .i64 (t:Int)),(5,.int .i64 (i:Int)),(6,.int .u8 (s[i].toNat:Int))]) (fun E u=>Fr M X u∧(fun C u=>ES u nC nA nB C (L++(34::iS (s.data.toList.take i)))∧Sub C M X∧ij u) E u) ?_ ?_
   ·refine ac 4<|jX rfl rfl (fun bw=>?_) (fun bw=>?_)
    ·refine au 2<|DC.wY (fun w=>w.cell? ⟨nA,0,none⟩=some (.iface 85 (Pt nB))) F.mixed ?_
     intro bx H c8
     have g:=g.jP H
     have q:=q.jP H
     have G:=G.jP H
     have c9:=H.size
     have b:=b.k9 H
     have d:ij bx:=by first|exact d.es b H|exact d.fr H AV
     refine⟨b.cell,?_⟩
     refine aK [0,1,2]<|kT 3 rfl (fun B A=>Y.load F.wO rfl A)<|aK [4,5,6]<|kT 7 rfl (fun B A=>Y.nh Tryz.underlying9 rfl rfl rfl Ac Ac Ac)<|aK [8,9]<|kP 10<|DL.invoke rfl rfl rfl rfl (rn _ _) (b.rD (by rw[qt,Vt,Ud];simp only[Tl,To];omega)) ?_
     rintro _ bz ak ⟨b0,b1,al⟩
     have o:=f.step g.size al
     have f:=o
     have r:=p.step q.size al
     have p:=r
     have b2:=O.step G.size al
     have G:=G.put ak O
     have O:=b2
     have d:ij bz:=by first|exact d.es b ak|exact d.fr ak AV
     have b:=b1
     have b:=b.cast (l':=L++(34::iS (s.data.toList.take i))) (by rw[K,qt];simp)
     refine DL.nil ⟨b.cell,?_⟩
     exact kD ⟨b0,⟨rfl,rfl,rfl,rfl,rfl⟩,G,b,O,d⟩
    have b3:t=i:=by omega
    have b:=b.cast (l':=L++(34::iS (s.data.toList.take i))) (by rw[b3])
    exact au 3 ⟨M,⟨rfl,rfl,rfl,rfl,rfl⟩,G,b,O,d⟩
   rintro Z af aa ⟨aQ,b4,aR,b5⟩
   have o:=f.step g.size aR
   have g:=g.put aQ f
   have f:=o
   have r:=p.step q.size aR
   have q:=q.put aQ p
   have p:=r
   have b:=b4
   have d:=b5
   have j:=Fr.refl Z aa
   have l:=Sub.refl Z aa
   refine DC.lG (σ:=List Nat) (fun _=>[(0,(Pt nA)),(1,.string s),(4,.int .i64 (t:Int)),(5,.int .i64 (i:Int)),(6,.int .u8 (s[i].toNat:Int))]) (fun E u=>Fr Z aa u∧(fun C u=>ES u nC nA nB C (L++(34::iS (s.data.toList.take (i+1))))∧Sub C Z aa∧ij u) E u) ?_ ?_
   ·refine ac 7<|jE rfl rfl (fun am=>?_) (fun am=>?_)
    ·refine au 7<|lC b.cell rfl<|DL.invoke rfl rfl rfl rfl (rn _ _) (b.rD (Tq (UC (TM rfl:_≤8) _) AG)) ?_
     rintro _ b6 an ⟨b7,b8,ao⟩
     have o:=f.step g.size ao
     have f:=o
     have r:=p.step q.size ao
     have p:=r
     have y:=l.step j.size ao
     have j:=j.put an l
     have l:=y
     have d:ij b6:=by first|exact d.es b an|exact d.fr an AV
     have b:=b8
     refine au 1 ?_
     have hc:s[i]=34:=nQ (n:=34) Ah am
     refine⟨b7,⟨rfl,rfl,rfl,rfl,rfl⟩,j,b.cast ?_,l,d⟩
     rw[j1 hi,hc];simp only[Ty,TH,TN];rfl
    refine au 5<|jE rfl rfl (fun ap=>?_) (fun ap=>?_)
    ·refine au 7<|lC b.cell rfl<|DL.invoke rfl rfl rfl rfl (rn _ _) (b.rD (Tq (UC (TM rfl:_≤8) _) AG)) ?_
     rintro _ b9 aq ⟨bA,bB,ar⟩
     have o:=f.step g.size ar
     have f:=o
     have r:=p.step q.size ar
     have p:=r
     have y:=l.step j.size ar
     have j:=j.put aq l
     have l:=y
     have d:ij b9:=by first|exact d.es b aq|exact d.fr aq AV
     have b:=bB
     refine au 1 ?_
     have hc:s[i]=92:=nQ (n:=92) Ah ap
     refine⟨bA,⟨rfl,rfl,rfl,rfl,rfl⟩,j,b.cast ?_,l,d⟩
     rw[j1 hi,hc];simp only[Ty,TH,TN];rfl
    refine au 5<|jE rfl rfl (fun av=>?_) (fun av=>?_)
    ·refine au 7<|lC b.cell rfl<|DL.invoke rfl rfl rfl rfl (rn _ _) (b.rD (Tq (UC (TM rfl:_≤8) _) AG)) ?_
     rintro _ bC aw ⟨bD,bE,ax⟩
     have o:=f.step g.size ax
     have f:=o
     have r:=p.step q.size ax
     have p:=r
     have y:=l.step j.size ax
     have j:=j.put aw l
     have l:=y
     have d:ij bC:=by first|exact d.es b aw|exact d.fr aw AV
     have b:=bE
     refine au 1 ?_
     have hc:s[i]=8:=nQ (n:=8) Ah av
     refine⟨bD,⟨rfl,rfl,rfl,rfl,rfl⟩,j,b.cast ?_,l,d⟩
     rw[j1 hi,hc];simp only[Ty,TH,TN];rfl
    refine au 5<|jE rfl rfl (fun ay=>?_) (fun ay=>?_)
    ·refine au 7<|lC b.cell rfl<|DL.invoke rfl rfl rfl rfl (rn _ _) (b.rD (Tq (UC (TM rfl:_≤8) _) AG)) ?_
     rintro _ bF az ⟨bG,bH,a0⟩
     have o:=f.step g.size a0
     have f:=o
     have r:=p.step q.size a0
     have p:=r
     have y:=l.step j.size a0
     have j:=j.put az l
     have l:=y
     have d:ij bF:=by first|exact d.es b az|exact d.fr az AV
     have b:=bH
     refine au 1 ?_
     have hc:s[i]=12:=nQ (n:=12) Ah ay
     refine⟨bG,⟨rfl,rfl,rfl,rfl,rfl⟩,j,b.cast ?_,l,d⟩
     rw[j1 hi,hc];simp only[Ty,TH,TN];rfl
    refine au 5<|jE rfl rfl (fun a1=>?_) (fun a1=>?_)
    ·refine au 7<|lC b.cell rfl<|DL.invoke rfl rfl rfl rfl (rn _ _) (b.rD (Tq (UC (TM rfl:_≤8) _) AG)) ?_
     rintro _ bI a2 ⟨bJ,bK,a3⟩
     have o:=f.step g.size a3
     have f:=o
     have r:=p.step q.size a3
     have p:=r
     have y:=l.step j.size a3
     have j:=j.put a2 l
     have l:=y
     have d:ij bI:=by first|exact d.es b a2|exact d.fr a2 AV
     have b:=bK
     refine au 1 ?_
     have hc:s[i]=10:=nQ (n:=10) Ah a1
     refine⟨bJ,⟨rfl,rfl,rfl,rfl,rfl⟩,j,b.cast ?_,l,d⟩
     rw[j1 hi,hc];simp only[Ty,TH,TN];rfl
    refine au 5<|jE rfl rfl (fun a4=>?_) (fun a4=>?_)
    ·refine au 7<|lC b.cell rfl<|DL.invoke rfl rfl rfl rfl (rn _ _) (b.rD (Tq (UC (TM rfl:_≤8) _) AG)) ?_
     rintro _ bL a5 ⟨bM,bN,a6⟩
     have o:=f.step g.size a6
     have f:=o
     have r:=p.step q.size a6
     have p:=r
     have y:=l.step j.size a6
     have j:=j.put a5 l
     have l:=y
     have d:ij bL:=by first|exact d.es b a5|exact d.fr a5 AV
     have b:=bN
     refine au 1 ?_
     have hc:s[i]=13:=nQ (n:=13) Ah a4
     refine⟨bM,⟨rfl,rfl,rfl,rfl,rfl⟩,j,b.cast ?_,l,d⟩
     rw[j1 hi,hc];simp only[Ty,TH,TN];rfl
    refine au 5<|jE rfl rfl (fun a7=>?_) (fun a7=>?_)
    ·refine au 7<|lC b.cell rfl<|DL.invoke rfl rfl rfl rfl (rn _ _) (b.rD (Tq (UC (TM rfl:_≤8) _) AG)) ?_
     rintro _ bO a8 ⟨bP,bQ,a9⟩
     have o:=f.step g.size a9
     have f:=o
     have r:=p.step q.size a9
     have p:=r
     have y:=l.step j.size a9
     have j:=j.put a8 l
     have l:=y
     have d:ij bO:=by first|exact d.es b a8|exact d.fr a8 AV
     have b:=bQ
     refine au 1 ?_
     have hc:s[i]=9:=nQ (n:=9) Ah a7
     refine⟨bP,⟨rfl,rfl,rfl,rfl,rfl⟩,j,b.cast ?_,l,d⟩
     rw[j1 hi,hc];simp only[Ty,TH,TN];rfl
    refine au 8<|lC b.cell rfl<|DL.invoke rfl rfl rfl rfl (rn _ _) (b.rD (Tq (UC (TM rfl:_≤8) _) AG)) ?_
    rintro _ bR P ⟨cA,bS,aA⟩
    have o:=f.step g.size aA
    have g:=g.put P f
    have f:=o
    have r:=p.step q.size aA
    have q:=q.put P p
    have p:=r
    have y:=l.step j.size aA
    have j:=j.put P l
    have l:=y
    have d:ij bR:=by first|exact d.es b P|exact d.fr P AV
    have b:=bS
    refine au 2<|DC.wY (fun w=>w.cell? ⟨nA,0,none⟩=some (.iface 85 (Pt nB))) F.mixed ?_
    intro bT I cB
    have g:=g.jP I
    have q:=q.jP I
    have j:=j.jP I
    have cC:=I.size
    have d:ij bT:=by first|exact d.es b I|exact d.fr I AV
    have b:=b.k9 I
    refine⟨b.cell,?_⟩
    refine aK [0,1,2]<|kT 3 rfl (fun B A=>Y.load F.wO rfl A)<|aK [4]<|kT 5 rfl (fun B A=>Y.N3 (k:=.u8) (k':=.u64) (m:=4) (a:=s[i].toNat) (c:=s[i].toNat/16) rfl rfl Ah rfl)<|kT 6 rfl (fun B A=>Y.ma (i:=s[i].toNat/16) Tryz.underlying9 rfl rfl rfl (EX (s[i].toNat/16) Ac))<|aK [7,8]<|kP 9<|DL.invoke rfl rfl rfl rfl (zN _ _) (b.uu (c:=mU (s[i].toNat/16)) AG) ?_
    rintro _ bU Q ⟨cD,bV,aB⟩
    have o:=f.step g.size aB
    have g:=g.put Q f
    have f:=o
    have r:=p.step q.size aB
    have q:=q.put Q p
    have p:=r
    have y:=l.step j.size aB
    have j:=j.put Q l
    have l:=y
    have d:ij bU:=by first|exact d.es b Q|exact d.fr Q AV
    have b:=bV
    refine DL.nil ⟨b.cell,?_⟩
    refine kD<|DC.wY (fun w=>w.cell? ⟨nA,0,none⟩=some (.iface 85 (Pt nB))) F.mixed ?_
    intro bW J cE
    have g:=g.jP J
    have q:=q.jP J
    have j:=j.jP J
    have cF:=J.size
    have d:ij bW:=by first|exact d.es b J|exact d.fr J AV
    have b:=b.k9 J
    refine⟨b.cell,?_⟩
    refine aK [0,1,2]<|kT 3 rfl (fun B A=>Y.load F.wO rfl A)<|aK [4]<|kT 5 rfl (fun B A=>Y.Oc (k:=.u8) (a:=s[i].toNat) (b:=15) rfl rfl bg Ah (LR s[i]))<|kT 6 rfl (fun B A=>Y.ma (i:=s[i].toNat%16) Tryz.underlying9 rfl rfl rfl (EX (s[i].toNat%16) Ac))<|aK [7,8]<|kP 9<|DL.invoke rfl rfl rfl rfl (zN _ _) (b.uu (c:=mU (s[i].toNat%16)) AG) ?_
    rintro _ bX aC ⟨bY,bZ,aD⟩
    have o:=f.step g.size aD
    have f:=o
    have r:=p.step q.size aD
    have p:=r
    have y:=l.step j.size aD
    have j:=j.put aC l
    have l:=y
    have d:ij bX:=by first|exact d.es b aC|exact d.fr aC AV
    have b:=bZ
    refine DL.nil ⟨b.cell,?_⟩
    refine kD ?_
    have aS:¬s[i]=34:=lO (n:=34) Ah am
    have aT:¬s[i]=92:=lO (n:=92) Ah ap
    have ca:¬s[i]=8:=lO (n:=8) Ah av
    have cb:¬s[i]=12:=lO (n:=12) Ah ay
    have cc:¬s[i]=10:=lO (n:=10) Ah a1
    have cd:¬s[i]=13:=lO (n:=13) Ah a4
    have ce:¬s[i]=9:=lO (n:=9) Ah a7
    have cf:kK s[i]=[92,117,48,48,mU (s[i].toNat/16),mU (s[i].toNat%16)]:=by
     unfold kK
     rw[TI aS,TI aT,TI cc,TI ce,TI cd,TI ca,TI cb,TU]
     rcases bv with h|h|h|h
     ·exact Ts h
     ·exact Tu h aS
     ·exact Tu h aT
     exact Tk h
    refine⟨bY,⟨rfl,rfl,rfl,rfl,rfl⟩,j,b.cast ?_,l,d⟩
    rw[j1 hi,cf];simp only[Ty,TH,TN]
   rintro cg af cG ⟨ch,ci,aU,cj⟩
   have o:=f.step g.size aU
   have f:=o
   have r:=p.step q.size aU
   have q:=q.put ch p
   have p:=r
   have b:=ci
   have d:=cj
   exact ac 3<|ai ((i+1:Nat):Int) rfl rfl<|au 8 ⟨(i+1,i+1,cg),⟨q,Tv _,hi,b,p,by rw[Um BF,T3],aM,d⟩,by show s.size - (i+1)<s.size - i;omega,rfl,rfl⟩
  have ck:s.data.toList.drop i≠[]:=by rw[drop_cons hi];simp
  have D:=F0 ck ag (by rw[drop_cons hi];show 128≤s[i].toNat;omega)
  have hw:i+(Lib.decodeL (s.data.toList.drop i)).2≤s.size:=by have:=D.2.2.1;rw[Vt]at this;omega
  refine au 7<|DL.y rfl rfl (v:=.string (s.extract i s.size)) (by rw[show s.extract i s.size=s.extract ((i:Int).toNat) s.size by rw[Vh]];exact Y.vw Tryz.underlying9 rfl rfl Ac Ac)<|cX (HA hi d) ?_
  rintro _ cl aV cH rfl
  have d:ij cl:=by first|exact d.es b.g aV.f|exact d.fr aV.f AV
  refine au 10<|jE rfl rfl (fun cm=>?_) (fun cm=>?_)
  ·refine au 2<|jE rfl rfl (fun cn=>?_) (fun cn=>?_)
   ·exact Tu ⟨Ac,Ac⟩ D.1
   refine au 7<|ai ((i+(Lib.decodeL (s.data.toList.drop i)).2:Nat):Int) rfl rfl<|au 2 ?_
   have aE:s.data.toList.take (i+(Lib.decodeL (s.data.toList.drop i)).2)=s.data.toList.take i++(s.data.toList.drop i).take (Lib.decodeL (s.data.toList.drop i)).2:=List.take_add
   exact⟨(t,i+(Lib.decodeL (s.data.toList.drop i)).2,z),⟨q.g,Ac,hw,b.g,p,by rw[aE,ug,D.2.2.2.1,K,U7 BF,Ty],by rw[←Vk];exact D.2.2.2.2,d⟩,by have:=D.2.1;show s.size - (i+(Lib.decodeL (s.data.toList.drop i)).2)<s.size - i;omega,rfl,rfl⟩
  refine au 10<|ai ((i+(Lib.decodeL (s.data.toList.drop i)).2:Nat):Int) rfl rfl<|au 2 ?_
  have aE:s.data.toList.take (i+(Lib.decodeL (s.data.toList.drop i)).2)=s.data.toList.take i++(s.data.toList.drop i).take (Lib.decodeL (s.data.toList.drop i)).2:=List.take_add
  exact⟨(t,i+(Lib.decodeL (s.data.toList.drop i)).2,z),⟨q.g,Ac,hw,b.g,p,by rw[aE,ug,D.2.2.2.1,K,U7 BF,Ty],by rw[←Vk];exact D.2.2.2.2,d⟩,by have:=D.2.1;show s.size - (i+(Lib.decodeL (s.data.toList.drop i)).2)<s.size - i;omega,rfl,rfl⟩
 have co:i=s.size:=by omega
 have cp:iS s.data.toList=iS (s.data.toList.take t)++s.data.toList.drop t:=by rw[co,aZ,U6]at K;exact K
 refine au 3<|ac 6<|jX rfl rfl (fun cq=>?_) (fun cq=>?_)
 ·refine au 2<|DC.wY (fun w=>w.cell? ⟨nA,0,none⟩=some (.iface 85 (Pt nB))) F.mixed ?_
  intro cr S cI
  have g:=g.jP S
  have cJ:=S.size
  have b:=b.k9 S
  have d:ij cr:=by first|exact d.es b S|exact d.fr S AV
  refine⟨b.cell,?_⟩
  refine aK [0,1,2]<|kT 3 rfl (fun B A=>Y.load F.wO rfl A)<|aK [4,5]<|kT 6 rfl (fun B A=>Y.vw Tryz.underlying9 rfl rfl Ac Ac)<|aK [7,8]<|kP 9<|DL.invoke rfl rfl rfl rfl (rn _ _) (b.rD (by rw[uX,Vt];simp only[Tl,To];omega)) ?_
  rintro _ cs aF ⟨cK,ct,cu⟩
  have o:=f.step g.size cu
  have g:=g.put aF f
  have f:=o
  have d:ij cs:=by first|exact d.es b aF|exact d.fr aF AV
  have b:=ct
  have b:=b.cast (l':=L++(34::iS s.data.toList)) (by rw[uX,cp];simp)
  refine DL.nil ⟨b.cell,?_⟩
  refine kD<|ac 4<|lC b.cell rfl<|DL.invoke rfl rfl rfl rfl (zN _ _) (b.uu (c:=34) AG) ?_
  rintro _ cv aG ⟨cL,cw,cx⟩
  have o:=f.step g.size cx
  have g:=g.put aG f
  have f:=o
  have d:ij cv:=by first|exact d.es b aG|exact d.fr aG AV
  have b:=cw
  exact au 1<|rE g ⟨rfl,_,b.cast (by simp[qL]),f⟩
 have b:=b.cast (l':=L++(34::iS s.data.toList)) (by rw[show t=s.data.toList.length by omega,U6])
 refine au 7<|lC b.cell rfl<|DL.invoke rfl rfl rfl rfl (zN _ _) (b.uu (c:=34) AG) ?_
 rintro _ cy aH ⟨cM,cz,c0⟩
 have o:=f.step g.size c0
 have g:=g.put aH f
 have f:=o
 have d:ij cy:=by first|exact d.es b aH|exact d.fr aH AV
 have b:=cz
 exact au 1<|rE g ⟨rfl,_,b.cast (by simp[qL]),f⟩
end Go.Proofs.YtlojelcoibpphaaGreatDoor
namespace Go.Proofs.YtlojelcoibpphaaGreatDoor
open Go Go.RowKit D
mutual
inductive G where
 |mk (fs:List Fd)
inductive Fd where
 |v (x:Value)
 |p (g:G)
 |l (gs:List G)
 |s (ks:List ByteArray)
end
mutual
def HR(w:World)(D:Nat→Prop):G→Array Value→Prop
 | .mk fs,cs=>jV w D fs cs.toList
def jV(w:World)(D:Nat→Prop):List Fd→List Value→Prop
 |[],ys=>ys=[]
 |f::fs,ys=>∃y r,ys=y::r∧HF w D f y∧jV w D fs r
def HF(w:World)(D:Nat→Prop):Fd→Value→Prop
 | .v x,y=>y=x
 | .p g,y=>∃b T cs,y=.pointer (some ⟨b,0,none⟩)∧D b∧w.heap[b]? =some (.cells cs T (0,0))∧HR w D g cs
 | .l gs,y=>∃a c,y=.slice a gs.length c∧HL w D a 0 gs
 | .s ks,y=>∃a c,y=.slice a ks.length c∧hT w D a ks.length 1 (strCells ks)
def HL(w:World)(D:Nat→Prop)(a:Option Addr):Nat→List G→Prop
 |_,[]=>True
 |i,g::gs=>(∃b o p T cs,a=some ⟨b,o,none⟩∧D b∧w.cell? ⟨b,o+i,none⟩=some (.pointer (some ⟨p,0,none⟩))∧D p∧w.heap[p]? =some (.cells cs T (0,0))∧HR w D g cs)∧HL w D a (i+1) gs
end
def Kp(D:Nat→Prop)(w w':World):Prop:=∀b,D b→b<w.heap.size→w'.heap[b]? =w.heap[b]?
theorem Kp.hO{D:Nat→Prop}{w w':World}(f:Kp D w w'){b:Nat}{c:Obj}(d:w.heap[b]? =some c)(g:D b):w'.heap[b]? =some c:=by rw[f b g (hC d)];exact d
theorem Kp.cell{D:Nat→Prop}{w w':World}(d:Kp D w w'){b c:Nat}{v:Value}(hc:w.cell? ⟨b,c,none⟩=some v)(f:D b):w'.cell? ⟨b,c,none⟩=some v:=by
 rw[←hc];simp only[World.cell?];rw[d b f (World.block_lt_of_cell? w _ hc)]
theorem Kp.refl(D:Nat→Prop)(w:World):Kp D w w:=fun _ _ _=>rfl
theorem Kp.of{D:Nat→Prop}{c:List Nat}{w w':World}(d:Fr c w w')(hs:∀b,D b→b∉c):Kp D w w':=fun b f g=>d.block b g (hs b f)
theorem Kp.step{D:Nat→Prop}{d:List Nat}{w c f:World}(j:Kp D w c)(m:w.heap.size≤c.heap.size)(k:Fr d c f)(hs:∀b,D b→b∉d):Kp D w f:=fun b g l=>by
 rw[k.block b Ac (hs b g),j b g l]
theorem hT.kp{D:Nat→Prop}{w w':World}{a:Option Addr}{n c:Nat}{d:Nat→Array Value}(h:hT w D a n c d)(f:Kp D w w'):hT w' D a n c d:=
 fun i hi=>let⟨b,o,h1,h2,h3,h4⟩:=h i hi;⟨b,o,h1,h2,fun g hj=>by rw[←h3 g hj];simp only[World.cell?];rw[f b h2 (h3.lt Ac)],h4⟩
mutual
theorem HR.kp{w w':World}{D:Nat→Prop}(d:Kp D w w'):∀(c:G)(b:Array Value),HR w D c b→HR w' D c b
 | .mk f,b,h=>by unfold HR at h⊢;exact jV.kp d f _ h
theorem jV.kp{w w':World}{D:Nat→Prop}(d:Kp D w w'):∀(b:List Fd)(c:List Value),jV w D b c→jV w' D b c
 |[],c,h=>by unfold jV at h⊢;exact h
 |j::b,c,h=>by
  unfold jV at h⊢
  obtain⟨f,g,e,h1,h2⟩:=h
  exact⟨f,g,e,HF.kp d j f h1,jV.kp d b g h2⟩
theorem HF.kp{w w':World}{D:Nat→Prop}(c:Kp D w w'):∀(f:Fd)(b:Value),HF w D f b→HF w' D f b
 | .v x,b,h=>by unfold HF at h⊢;exact h
 | .p k,b,h=>by
  unfold HF at h⊢
  obtain⟨l,m,g,e,j,o,p⟩:=h
  exact⟨l,m,g,e,j,c.hO o j,HR.kp c k g p⟩
 | .l q,b,h=>by
  unfold HF at h⊢
  obtain⟨a,d,e,hl⟩:=h
  exact⟨a,d,e,HL.kp c a 0 q hl⟩
 | .s ks,b,h=>by
  unfold HF at h⊢
  obtain⟨a,d,e,hl⟩:=h
  exact⟨a,d,e,hl.kp c⟩
theorem HL.kp{w w':World}{D:Nat→Prop}(b:Kp D w w')(a:Option Addr):∀(i:Nat)(c:List G),HL w D a i c→HL w' D a i c
 |_,[],h=>by unfold HL;trivial
 |i,j::c,h=>by
  unfold HL at h⊢
  obtain⟨⟨k,l,m,o,d,e,f,hc,g,p,q⟩,r⟩:=h
  exact⟨⟨k,l,m,o,d,e,f,b.cell hc f,g,b.hO p g,HR.kp b j d q⟩,HL.kp b a (i+1) c r⟩
end
mutual
theorem HR.mono{w:World}{D D':Nat→Prop}(f:∀c,D c→D' c):∀(d:G)(b:Array Value),HR w D d b→HR w D' d b
 | .mk g,b,h=>by unfold HR at h⊢;exact jV.mono f g _ h
theorem jV.mono{w:World}{D D':Nat→Prop}(d:∀f,D f→D' f):∀(b:List Fd)(c:List Value),jV w D b c→jV w D' b c
 |[],c,h=>by unfold jV at h⊢;exact h
 |k::b,c,h=>by
  unfold jV at h⊢
  obtain⟨g,j,e,h1,h2⟩:=h
  exact⟨g,j,e,HF.mono d k g h1,jV.mono d b j h2⟩
theorem HF.mono{w:World}{D D':Nat→Prop}(d:∀c,D c→D' c):∀(g:Fd)(b:Value),HF w D g b→HF w D' g b
 | .v x,b,h=>by unfold HF at h⊢;exact h
 | .p k,b,h=>by
  unfold HF at h⊢
  obtain⟨c,l,j,e,m,o,p⟩:=h
  exact⟨c,l,j,e,d c m,o,HR.mono d k j p⟩
 | .l q,b,h=>by
  unfold HF at h⊢
  obtain⟨a,f,e,hl⟩:=h
  exact⟨a,f,e,HL.mono d a 0 q hl⟩
 | .s ks,b,h=>by
  unfold HF at h⊢
  obtain⟨a,f,e,hl⟩:=h
  exact⟨a,f,e,hl.mono d⟩
theorem HL.mono{w:World}{D D':Nat→Prop}(c:∀b,D b→D' b)(a:Option Addr):∀(i:Nat)(d:List G),HL w D a i d→HL w D' a i d
 |_,[],h=>by unfold HL;trivial
 |i,j::d,h=>by
  unfold HL at h⊢
  obtain⟨⟨b,k,f,l,g,e,m,hc,o,p,q⟩,r⟩:=h
  exact⟨⟨b,k,f,l,g,e,c b m,hc,c f o,p,HR.mono c j g q⟩,HL.mono c a (i+1) d r⟩
end
section
variable{w w':World}{D:Nat→Prop}
theorem HR.fr{d:List Nat}{b:G}{c:Array Value}(h:HR w D b c)(g:Fr d w w')(hs:∀f,D f→f∉d):HR w' D b c:=HR.kp (Kp.of g hs) b c h
theorem HR.g{b:G}{c:Array Value}(h:HR w D b c)(d:HR w D b c→HR w' D b c:=by exact Gq):HR w' D b c:=d h
theorem HF.fr{d:List Nat}{b:Fd}{c:Value}(h:HF w D b c)(g:Fr d w w')(hs:∀f,D f→f∉d):HF w' D b c:=HF.kp (Kp.of g hs) b c h
theorem HF.g{b:Fd}{c:Value}(h:HF w D b c)(d:HF w D b c→HF w' D b c:=by exact Gq):HF w' D b c:=d h
theorem jV.at:∀{c:List Fd}{d:List Value}(i:Nat){f:Fd},jV w D c d→c[i]? =some f→∃b,d[i]? =some b∧HF w D f b
 |[],_,i,f,_,h=>by simp at h
 |j::c,d,0,f,h,g=>by
  unfold jV at h
  obtain⟨b,k,rfl,h1,h2⟩:=h
  obtain rfl:j=f:=by simpa using g
  exact⟨b,rfl,h1⟩
 |j::c,d,i+1,f,h,g=>by
  unfold jV at h
  obtain⟨b,k,rfl,h1,h2⟩:=h
  obtain⟨l,m,o⟩:=jV.at i h2 (by simpa using g)
  exact⟨l,by simpa using m,o⟩
theorem jV.len:∀{b:List Fd}{c:List Value},jV w D b c→c.length=b.length
 |[],_,h=>by unfold jV at h;simp[h]
 |d::b,c,h=>by
  unfold jV at h
  obtain⟨f,g,rfl,h1,h2⟩:=h
  simp[jV.len h2]
theorem HR.size{b:List Fd}{c:Array Value}(h:HR w D (.mk b) c):c.size=b.length:=by
 unfold HR at h
 have:=jV.len h
 simpa using this
theorem HR.at{c:List Fd}{d:Array Value}(h:HR w D (.mk c) d)(i:Nat){f:Fd}(g:c[i]? =some f):∃b,d[i]? =some b∧HF w D f b:=by
 unfold HR at h
 obtain⟨b,h1,h2⟩:=jV.at i h g
 exact⟨b,by simpa using h1,h2⟩
theorem HR.v{b:List Fd}{c:Array Value}(h:HR w D (.mk b) c)(i:Nat){x:Value}(d:b[i]? =some (.v x)):c[i]? =some x:=by
 obtain⟨f,h1,h2⟩:=h.at i d
 unfold HF at h2
 rw[h1,h2]
theorem HR.p{f:List Fd}{g:Array Value}(h:HR w D (.mk f) g)(i:Nat){j:G}(k:f[i]? =some (.p j)):∃b d c,g[i]? =some (Pt b)∧D b∧w.heap[b]? =some (.cells c d (0,0))∧HR w D j c:=by
 obtain⟨m,h1,h2⟩:=h.at i k
 unfold HF at h2
 obtain⟨b,d,c,rfl,l⟩:=h2
 exact⟨b,d,c,h1,l⟩
theorem HR.l{c:List Fd}{d:Array Value}(h:HR w D (.mk c) d)(i:Nat){gs:List G}(f:c[i]? =some (.l gs)):∃a b,d[i]? =some (.slice a gs.length b)∧HL w D a 0 gs:=by
 obtain⟨j,h1,h2⟩:=h.at i f
 unfold HF at h2
 obtain⟨a,b,rfl,g⟩:=h2
 exact⟨a,b,h1,g⟩
theorem HR.s{c:List Fd}{d:Array Value}(h:HR w D (.mk c) d)(i:Nat){ks:List ByteArray}(f:c[i]? =some (.s ks)):∃a b,d[i]? =some (.slice a ks.length b)∧hT w D a ks.length 1 (strCells ks):=by
 obtain⟨j,h1,h2⟩:=h.at i f
 unfold HF at h2
 obtain⟨a,b,rfl,g⟩:=h2
 exact⟨a,b,h1,g⟩
theorem HL.get{a:Option Addr}:∀{b:Nat}{c:List G},HL w D a b c→∀(i:Nat)(hi:i<c.length),∃d g f k j,a=some ⟨d,g,none⟩∧D d∧w.cell? ⟨d,g+(b+i),none⟩=some (Pt f)∧D f∧w.heap[f]? =some (.cells j k (0,0))∧HR w D c[i] j
 |_,[],_,i,hi=>by simp at hi
 |b,l::c,h,0,_=>by
  unfold HL at h
  exact h.1
 |b,l::c,h,i+1,hi=>by
  unfold HL at h
  have:=HL.get h.2 i A3
  rw[show b+1+i=b+(i+1) by omega]at this
  exact this
theorem HL.kH{a:Option Addr}{g:List G}(h:HL w D a 0 g){i:Nat}(hi:i<g.length):∃b d c j f,a=some ⟨b,d,none⟩∧D b∧w.cell? ⟨b,d+i*1,none⟩=some (Pt c)∧D c∧w.heap[c]? =some (.cells f j (0,0))∧HR w D g[i] f:=by
 obtain⟨b,d,c,j,f,h1,h2,k,l⟩:=HL.get h i hi
 rw[T9]at k
 exact⟨b,d,c,j,f,h1,h2,by rw[Vl];exact k,l⟩
theorem HL.of{a:Option Addr}:∀(b:Nat)(c:List G),(∀(i:Nat)(hi:i<c.length),∃d g f k j,a=some ⟨d,g,none⟩∧D d∧w.cell? ⟨d,g+(b+i),none⟩=some (Pt f)∧D f∧w.heap[f]? =some (.cells j k (0,0))∧HR w D c[i] j)→HL w D a b c
 |_,[],_=>by unfold HL;trivial
 |b,l::c,h=>by
  unfold HL
  refine⟨h 0 Al,HL.of (b+1) c (fun i hi=>?_)⟩
  have:=h (i+1) A3
  rw[show b+(i+1)=b+1+i by omega]at this
  exact this
end
theorem jV.app{w:World}{D:Nat→Prop}:∀{j f:List Fd}{d:List Value},jV w D (j++f) d↔∃c b,d=c++b∧jV w D j c∧jV w D f b
 |[],f,d=>by
  constructor
  ·intro h;exact⟨[],d,rfl,by unfold jV;rfl,h⟩
  ·rintro⟨c,b,rfl,h1,h2⟩;unfold jV at h1;subst h1;exact h2
 |o::j,f,d=>by
  constructor
  ·intro h
   rw[TH]at h
   unfold jV at h
   obtain⟨g,k,rfl,h1,h2⟩:=h
   obtain⟨c,b,rfl,l,m⟩:=jV.app.1 h2
   exact⟨g::c,b,rfl,by unfold jV;exact⟨g,c,rfl,h1,l⟩,m⟩
  ·rintro⟨c,b,rfl,h1,h2⟩
   unfold jV at h1
   obtain⟨g,k,rfl,l,m⟩:=h1
   rw[TH]
   unfold jV
   exact⟨g,k++b,rfl,l,jV.app.2 ⟨k,b,rfl,m,h2⟩⟩
end Go.Proofs.YtlojelcoibpphaaGreatDoor
namespace Go.Proofs
open Go.Shelf
def Tryz.pK:Go.Shelf.Ren:=⟨fun|169=>41|n=>n,fun|70=>85|9=>9|0=>0|72=>88|37=>86|127=>143|3=>3|5=>5|n=>n,fun|n=>n⟩
theorem Tryz.FI:Go.Proofs.Lays.n169 Tryz.prog Tryz.pK:={
 mixed:=by kernel_rfl
 f169:=Tryz.func41.trans (TR some (by kernel_rfl))
 t0:=Tryz.underlying0
 a0:=Tryz.isAgg0
 z0:=Tryz.sizeOf0
 v0:=Tryz.zeroValue0
 t3:=Tryz.underlying3
 a3:=Tryz.isAgg3
 z3:=Tryz.sizeOf3
 v3:=Tryz.zeroValue3
 t9:=Tryz.underlying9
 a9:=Tryz.isAgg9
 z9:=Tryz.sizeOf9
 v9:=Tryz.zeroValue9
 t37:=Tryz.underlying86
 a37:=Tryz.isAgg86
 z37:=Tryz.sizeOf86
 v37:=Tryz.zeroValue86
 t70:=Tryz.underlying85
 a70:=Tryz.isAgg85
 z70:=Tryz.sizeOf85
 v70:=Tryz.zeroValue85
 t72:=Tryz.underlying88
 a72:=Tryz.isAgg88
 z72:=Tryz.sizeOf88
 v72:=Tryz.zeroValue88
 t127:=Tryz.underlying143
 a127:=Tryz.isAgg143
 z127:=Tryz.sizeOf143
 v127:=Tryz.zeroValue143}
end Go.Proofs
