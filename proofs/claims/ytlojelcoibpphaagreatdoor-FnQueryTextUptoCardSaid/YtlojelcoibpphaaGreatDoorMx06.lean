/- FnQueryText, second form: own texts, joined and made short by a program (part 6): for every argument of bulk at most 1048576 the law answers true. -/
import Derived.Test.YtlojelcoibpphaaGreatDoorMx01
import Derived.Test.YtlojelcoibpphaaGreatDoorMx05
import Derived.Lib.ItoaNum
import Derived.Lib.AppendIntMem
import Derived.Test.YtlojelcoibpphaaGreatDoorMx03
import Derived.Test.YtlojelcoibpphaaGreatDoorMx02
set_option maxRecDepth 100000
set_option maxHeartbeats 2000000
set_option linter.unusedVariables false
set_option linter.unusedSimpArgs false
set_option linter.unusedSectionVars false
set_option linter.defProp false
namespace Go.Proofs.YtlojelcoibpphaaGreatDoor
open Go Go.RowKit D Go.Deep Go.Proofs
variable{L M lA:List UInt8}{m k:Nat}{w:World}{t sA sB sC:ByteArray}{q p:N}{bA:Bool}{uA:UInt8}
def Dm(D0:Nat→Prop)(lo hi:Nat)(x:Nat):Prop:=D0 x∨(lo≤x∧x<hi)
theorem Dm.mono{D0:Nat→Prop}{b hi lo' hi':Nat}(h1:lo'≤b)(h2:hi≤hi'):∀x,Dm D0 b hi x→Dm D0 lo' hi' x:=fun x h=>h.imp id (fun h=>⟨Ac,Ac⟩)
theorem Dm.not{D0:Nat→Prop}{c f hi b:Nat}(h0:∀d,D0 d→d<c)(j:c≤b)(k:hi≤b):∀x,Dm D0 f hi x→x∉[b]:=fun x h g=>by
 rcases Tt.1 g with rfl
 rcases h with h|h
 ·have:=h0 _ h;omega
 ·omega
theorem jV.nil{w:World}{b:Nat→Prop}:jV w b [] []:=by unfold jV;rfl
theorem jV.cons{w:World}{b:Nat→Prop}{f:Fd}{g:List Fd}{c:Value}{d:List Value}(h:HF w b f c)(hs:jV w b g d):jV w b (f::g) (c::d):=by unfold jV;exact⟨c,d,rfl,h,hs⟩
theorem HR.c{w:World}{b:Nat→Prop}{c:List Fd}{d:List Value}(h:jV w b c d):HR w b (.mk c) d.toArray:=by unfold HR;simpa using h
theorem HR.Ko{w:World}{b:Nat→Prop}{c:List Fd}{d:Array Value}(h:HR w b (.mk c) d):jV w b c d.toList:=by unfold HR at h;exact h
theorem HF.vv{w:World}{D:Nat→Prop}{x:Value}:HF w D (.v x) x:=by unfold HF;rfl
theorem HF.l0{w:World}{D:Nat→Prop}{a:Option Addr}{b:Nat}:HF w D (.l []) (.slice a 0 b):=by unfold HF;exact⟨a,b,rfl,by unfold HL;trivial⟩
theorem HF.lh{w:World}{D:Nat→Prop}{a:Option Addr}{b:Nat}{gs:List G}(h:HL w D a 0 gs):HF w D (.l gs) (.slice a gs.length b):=by unfold HF;exact⟨a,b,rfl,h⟩
theorem HF.sh{w:World}{D:Nat→Prop}{a:Option Addr}{b:Nat}{ks:List ByteArray}(h:hT w D a ks.length 1 (strCells ks)):HF w D (.s ks) (.slice a ks.length b):=by unfold HF;exact⟨a,b,rfl,h⟩
theorem HF.ph{w:World}{D:Nat→Prop}{d:G}{b T:Nat}{c:Array Value}(f:D b)(g:w.heap[b]? =some (.cells c T (0,0)))(h:HR w D d c):HF w D (.p d) (Pt b):=by unfold HF;exact⟨b,T,c,rfl,f,g,h⟩
theorem HF.up{w:World}{D D':Nat→Prop}{b:Fd}{c:Value}(h:HF w D b c)(f:∀d,D d→D' d):HF w D' b c:=HF.mono f b c h
theorem HR.up{w:World}{d D':Nat→Prop}{b:G}{c:Array Value}(h:HR w d b c)(g:∀f,d f→D' f):HR w D' b c:=HR.mono g b c h
theorem HL.up{w:World}{b D':Nat→Prop}{a:Option Addr}{i:Nat}{gs:List G}(h:HL w b a i gs)(d:∀c,b c→D' c):HL w D' a i gs:=HL.mono d a i gs h
theorem HL.fr{S:List Nat}{w w':World}{b:Nat→Prop}{a:Option Addr}{i:Nat}{gs:List G}(h:HL w b a i gs)(d:Fr S w w')(hs:∀c,b c→c∉S):HL w' b a i gs:=HL.kp (Kp.of d hs) a i gs h
theorem HL.g{w w':World}{b:Nat→Prop}{a:Option Addr}{i:Nat}{gs:List G}(h:HL w b a i gs)(c:HL w b a i gs→HL w' b a i gs:=by exact Gq):HL w' b a i gs:=c h
theorem HF.ptr{w:World}{D:Nat→Prop}{c:G}{d:Value}(h:HF w D (.p c) d):∃b T f,d=Pt b∧D b∧w.heap[b]? =some (.cells f T (0,0))∧HR w D c f:=by unfold HF at h;exact h
def E9(tm lf rt pt op:Fd)(t0:List UInt8):Prop:=∀(fds:List G)(ds:List (List UInt8)),fds.length=ds.length→(∀(i:Nat)(h1:i<fds.length)(h2:i<ds.length),Pr 2 fds[i] ds[i])→Pr 0 (qG fds tm lf rt pt op) ((ds.map (· ++[32])).flatten++t0)
def Tm(w:World)(D:Nat→Prop)(t:List UInt8)(b:Nat)(C:Int→Fd→Prop):Prop:=
 D b∧∃fs gs ct ty un,w.heap[b]? =some (.cells ct 125 (0,0))∧HR w D (.mk (fs++[.l gs])) ct∧fs.length=16∧fs[0]? =some (.v (.int .i64 ty))∧fs[6]? =some un∧Pr 1 (.mk (fs++[.l gs])) t∧C ty un
theorem Tm.fr{S:List Nat}{w w':World}{c:Nat→Prop}{d:List UInt8}{b:Nat}{f:Int→Fd→Prop}(h:Tm w c d b f)(g:Fr S w w')(hs:∀b,c b→b∉S):Tm w' c d b f:=by
 obtain⟨j,k,gs,l,m,o,h1,h2,p⟩:=h
 exact⟨j,k,gs,l,m,o,g.hO h1 (hs b j),h2.fr g hs,p⟩
theorem Tm.g{w w':World}{b:Nat→Prop}{c:List UInt8}{d:Nat}{f:Int→Fd→Prop}(h:Tm w b c d f)(g:Tm w b c d f→Tm w' b c d f:=by exact Gq):Tm w' b c d f:=g h
theorem Tm.up{w:World}{c D':Nat→Prop}{d:List UInt8}{b:Nat}{f g:Int→Fd→Prop}(h:Tm w c d b f)(j:∀b,c b→D' b)(hc:∀x k,f x k→g x k):Tm w D' d b g:=by
 obtain⟨l,m,gs,o,p,q,h1,h2,r,t,u,v,y⟩:=h
 exact⟨j _ l,m,gs,o,p,q,h1,h2.up j,r,t,u,v,hc _ _ y⟩
theorem Tm.hf{w:World}{D:Nat→Prop}{b:List UInt8}{c:Nat}{f:Int→Fd→Prop}(h:Tm w D b c f):∃d,HF w D (.p d) (Pt c)∧Pr 1 d b:=by
 obtain⟨g,k,gs,l,m,o,h1,h2,p,q,r,j,t⟩:=h
 exact⟨_,.ph g h1 h2,j⟩
abbrev iL:ByteArray:=Cr
abbrev jn:ByteArray:=Cp
def kr(n:N)(ty:Int)(un:Fd):Prop:=(iz n=iL→isNeg n=true→∃g,un=.p g)∧(iz n=iL→isNeg n=false→un=nP∧ty≠20)∧(iz n=jn→ty≠20)
def S2(n:N)(ty:Int)(un:Fd):Prop:=(nN n=true→(iz n=iL∨iz n=jn)→ty≠20)∧(nN n=false→ty=20)
def Ig(n:N):Bool:=nL.any (fun x=>decide (iz n=x))||decide (iz n=iL)
def H4(bt:Nat):Array Value:=#[Zp,Zl,Zl,Pt bt,Zp,Zp,Zl,Zi]
def Qy(w:World)(D:Nat→Prop)(n:N)(t:List UInt8)(b:Nat):Prop:=
 ∃cq,w.heap[b]? =some (.cells cq 105 (0,0))∧(∃(fds:List G)(tm lf rt pt op:Fd)(ds:List (List UInt8))(t0:List UInt8),HR w D (qG fds tm lf rt pt op) cq∧fds.length=ds.length∧(∀(i:Nat)(h1:i<fds.length)(h2:i<ds.length),Pr 2 fds[i] ds[i])∧E9 tm lf rt pt op t0∧t=(ds.map (· ++[32])).flatten++t0)∧(Ig n=true→∃bt,cq=H4 bt∧Tm w D t bt (kr n))
theorem Qy.fr{S:List Nat}{w w':World}{D:Nat→Prop}{n:N}{d:List UInt8}{b:Nat}(h:Qy w D n d b)(c:Fr S w w')(hs:∀b,D b→b∉S)(f:b∉S):Qy w' D n d b:=by
 obtain⟨g,h1,⟨j,k,l,m,o,p,q,r,h2,t⟩,u⟩:=h
 exact⟨g,c.hO h1 f,⟨j,k,l,m,o,p,q,r,h2.fr c hs,t⟩,fun ht=>let⟨bt,e,h5⟩:=u ht;⟨bt,e,h5.fr c hs⟩⟩
theorem Qy.g{w w':World}{D:Nat→Prop}{n:N}{b:List UInt8}{c:Nat}(h:Qy w D n b c)(d:Qy w D n b c→Qy w' D n b c:=by exact Gq):Qy w' D n b c:=d h
theorem Qy.k9{w w':World}{D:Nat→Prop}{n:N}{b:List UInt8}{c:Nat}(h:Qy w D n b c)(d:Fr [] w w'):Qy w' D n b c:=h.fr d Al Al
theorem Qy.up{w:World}{D D':Nat→Prop}{n:N}{c:List UInt8}{b:Nat}(h:Qy w D n c b)(d:∀b,D b→D' b):Qy w D' n c b:=by
 obtain⟨f,h1,⟨g,j,k,l,m,o,p,q,h2,r⟩,t⟩:=h
 exact⟨f,h1,⟨g,j,k,l,m,o,p,q,h2.up d,r⟩,fun ht=>let⟨bt,e,h5⟩:=t ht;⟨bt,e,h5.up d (fun _ _ h=>h)⟩⟩
theorem Qy.hf{w:World}{D:Nat→Prop}{n:N}{c:List UInt8}{b:Nat}(h:Qy w (fun d=>D d∧d≠b) n c b)(g:D b):∃f,HF w D (.p f) (Pt b)∧Pr 0 f c:=by
 obtain⟨p,h1,⟨j,q,r,t,u,v,k,y,h2,l,m,o,rfl⟩,_⟩:=h
 exact⟨_,.ph g h1 (h2.up (fun _ h=>h.1)),o j k l m⟩
theorem E9.tm{b:G}{c:List UInt8}(h:Pr 1 b c):E9 (.p b) nP nP nS (.v Zi) c:=fun f g hl d=>.qT hl d h
theorem s8{w:World}{b:Nat→Prop}{c:G}{d:Nat}(h:HF w b (.p c) (Pt d)):HR w b (ui c) (H4 d):=
 HR.c (.cons .vv (.cons .vv (.cons .l0 (.cons h (.cons .vv (.cons .vv (.cons .vv (.cons .vv .nil))))))))
theorem Qy.Py{w:World}{D:Nat→Prop}{n:N}{b:List UInt8}{d c:Nat}(h:Tm w D b c (kr n))(f:w.heap[d]? =some (.cells (H4 c) 105 (0,0))):Qy w D n b d:=by
 obtain⟨g,h1,h2⟩:=h.hf
 exact⟨_,f,⟨[],_,_,_,_,_,[],b,s8 h1,rfl,fun i h=>by simp at h,.tm h2,by simp⟩,fun _=>⟨c,rfl,h⟩⟩
theorem ng{w:World}{D:Nat→Prop}{b:G}{d:List UInt8}{c f:Nat}(h:HF w D (.p b) (Pt f))(g:Pr 1 b d)(j:D c)(k:w.heap[c]? =some (.cells (H4 f) 105 (0,0))):HF w D (.p (ui b)) (Pt c)∧Pr 0 (ui b) d:=
 ⟨.ph j k (s8 h),by have:=E9.tm g [] [] rfl oW;simpa using this⟩
structure js(w:World)(D0:Nat→Prop)(T B H:Nat)(gs:List G)(sl:Value)(ps:List Value):Prop where
 own:w.ownsRow B T 1 sl gs.length ps
 lt:∀b,sl.ownBlock=some b→b<H
 len:ps.length=gs.length
 el:∀(i:Nat)(h1:i<ps.length)(h2:i<gs.length),HF w (fun c=>D0 c∨(B≤c∧c<H∧sl.ownBlock≠some c)) (.p gs[i]) ps[i]
section
variable{S:List Nat}{w w':World}{D0:Nat→Prop}{T B H:Nat}{gs:List G}{sl:Value}{ps:List Value}
theorem js.nil(w:World)(D0:Nat→Prop)(T B H:Nat):js w D0 T B H [] Zl []:=
 ⟨World.ownsRow_nil _ _ _ _,(fun b h=>by simp[Value.ownBlock]at h),rfl,fun i h=>by simp at h⟩
theorem js.fr(h:js w D0 T B H gs sl ps)(d:Fr S w w')(hs:∀b∈S,¬D0 b∧(b<B∨H≤b)):js w' D0 T B H gs sl ps:=by
 refine⟨kX h.own d (fun b c f=>?_),h.lt,h.len,fun i h1 h2=>(h.el i h1 h2).fr d (fun b c g=>?_)⟩
 ·have h1:=h.lt b f
  have h2:=(ik h.own b (hF.2 f)).1
  rcases(hs b c).2 with h|h<;>omega
 rcases c with c|c
 ·exact(hs b g).1 c
 rcases(hs b g).2 with h|h<;>omega
theorem js.g(h:js w D0 T B H gs sl ps)(b:js w D0 T B H gs sl ps→js w' D0 T B H gs sl ps:=by exact Gq):js w' D0 T B H gs sl ps:=b h
theorem js.k9(h:js w D0 T B H gs sl ps)(b:Fr [] w w'):js w' D0 T B H gs sl ps:=h.fr b (fun d c=>by cases c)
theorem js.up{c:Nat}(h:js w D0 T B H gs sl ps)(d:H≤c):js w D0 T B c gs sl ps:=
 ⟨h.own,fun f b=>Tj (h.lt f b) d,h.len,fun i h1 h2=>(h.el i h1 h2).up (fun f b=>b.imp id (fun b=>⟨b.1,Tj b.2.1 d,b.2.2⟩))⟩
theorem js.snoc{f j:Value}{l:G}(h:js w D0 T B H gs sl ps)(v:H≤w.heap.size)(y:B≤H)(hD0:∀d,D0 d→d<B)(q:HF w (fun d=>D0 d∨(H≤d∧d<w.heap.size)) (.p l) j)(k:Fr (hX sl) w w')(m:w'.ownsRow B T 1 f (gs.length+1) (ps++[j]))(r:f.ownBlock=sl.ownBlock∨f.ownBlock=some w.heap.size):
  js w' D0 T B w'.heap.size (gs++[l]) f (ps++[j]):=by
 have z:=k.size
 have o:∀c,c<w.heap.size→sl.ownBlock≠some c→f.ownBlock≠some c:=fun c b t=>by
  rcases r with h1|h1
  ·rw[h1];exact t
  rw[h1];intro h2;cases h2;omega
 have hge:∀c,c∈hX sl→B≤c∧c<H:=fun c b=>⟨(ik h.own c b).1,h.lt c (hF.1 b)⟩
 refine⟨by simpa using m,fun c b=>(ik m c (hF.2 b)).2,by simp[h.len],fun i h1 h2=>?_⟩
 by_cases hi:i<gs.length
 ·have p:i<ps.length:=by rw[h.len];exact hi
  rw[TC hi,TC p]
  refine((h.el i p hi).fr k (fun c b g=>?_)).up (fun c b=>?_)
  ·have:=hge c g
   rcases b with b|b
   ·have:=hD0 c b;omega
   exact b.2.2 (hF.1 g)
  rcases b with b|b
  ·exact Ts b
  exact Tk ⟨b.1,Ac,o c Ac b.2.2⟩
 have u:i=gs.length:=by simp only[Tl,TG]at h2;omega
 subst u
 rw[Tz Ac,Tz (by rw[h.len];omega)]
 simp only[UF,h.len,TF]
 refine(q.fr k (fun c b g=>?_)).up (fun c b=>?_)
 ·have:=hge c g
  rcases b with b|b
  ·have:=hD0 c b;omega
  omega
 rcases b with b|b
 ·exact Ts b
 exact Tk ⟨Ac,Ac,o c Ac (fun e=>by have:=h.lt c e;omega)⟩
theorem js.done(h:js w D0 T B H gs sl ps):∃a b,sl=.slice a gs.length b∧HL w (fun b=>D0 b∨(B≤b∧b<H)) a 0 gs:=by
 obtain⟨a,f,rfl,hl,hc⟩:=kg h.own
 refine⟨a,f,rfl,HL.of 0 gs (fun i hi=>?_)⟩
 obtain⟨c,rfl,g,r,j⟩:=hc i hi
 have d:i<ps.length:=by rw[h.len];exact hi
 have h1:=j 0 Ac
 rw[Vl,Va,TP d]at h1
 obtain⟨k,l,m,e,o,p,q⟩:=(h.el i d hi).ptr
 refine⟨c,0,k,l,m,rfl,Tk ⟨g,h.lt c rfl⟩,?_,o.imp id (fun h=>⟨h.1,h.2.1⟩),p,q.up (fun b hc=>hc.imp id (fun h=>⟨h.1,h.2.1⟩))⟩
 rw[T9,T9,h1,e]
theorem js.one(h:js w D0 T B H gs sl ps):sl.oneCell'=true:=by
 obtain⟨a,b,rfl,_⟩:=kg h.own;rfl
end
def TB(w : World) : Prop := Lib.TabIs Tryz.prog w "internal/strconv.uint64pow10" .u64 Lib.pow10Tab
theorem TB.at{w w':World}(h:TB w)(f:Fr [] w w'):TB w':=Lib.tabBelow_of_tabIs h w' f.below
theorem Dm.y7{D0:Nat→Prop}{c d hi lo' hi' b:Nat}(h0:∀f,D0 f→f<c)(g:c≤b)(j:hi≤b)(h1:lo'≤d)(h2:hi≤hi'):∀x,Dm D0 d hi x→Dm D0 lo' hi' x∧x≠b:=fun x h=>⟨Dm.mono h1 h2 x h,by rcases h with h|h;(have:=h0 _ h;omega);omega⟩
def KO(fn:Nat)(n:N)(t:List UInt8):Prop:=∀(w:World)(D0:Nat→Prop)(cs:Array Value),RN w D0 0 n cs→(∀c,D0 c→c<w.heap.size)→TB w→n.wt≤1048576→
 Calls Tryz.prog fn #[.agg cs] w (hH w [] fun r w'=>∃b,r=.tuple #[Pt b,.bool true]∧w.heap.size≤b∧b<w'.heap.size∧Qy w' (fun c=>Dm D0 w.heap.size w'.heap.size c∧c≠b) n t b)
abbrev CQ(n:N)(t:List UInt8):Prop:=KO 12 n t
def km(fn:Nat)(n:N)(t:List UInt8)(C:Int→Fd→Prop):Prop:=∀(w:World)(D0:Nat→Prop)(cs:Array Value),RN w D0 0 n cs→(∀c,D0 c→c<w.heap.size)→TB w→n.wt≤1048576→
 Calls Tryz.prog fn #[.agg cs] w (hH w [] fun r w'=>∃b,r=.tuple #[Pt b,.bool true]∧True∧Tm w' (Dm D0 w.heap.size w'.heap.size) t b C)
def NO(n:N)(t:List UInt8):Prop:=∀(w:World)(D0:Nat→Prop)(cs:Array Value),RN w D0 0 n cs→(∀c,D0 c→c<w.heap.size)→TB w→n.wt≤1048576→
 Calls Tryz.prog 61 #[.agg cs] w (hH w [] fun r w'=>∃b,r=.tuple #[Pt b,.bool true]∧w.heap.size≤b∧∃g,HF w' (Dm D0 w.heap.size w'.heap.size) (.p g) (Pt b)∧Pr 0 g t)
theorem DT{b:UInt8→Bool}(h:∀i (hi:i<L.length),b L[i]=true):L.all b=true:=by
 rw[Uk];intro x hx;obtain⟨i,hi,rfl⟩:=T0 hx;exact h i hi
theorem KR{s:ByteArray}(h0:0<s.size)(h:∀i (hi:i<s.size),jt (decide (i=0)) s[i]=true):jI s.data.toList=true:=by
 have hl:=hK s
 cases hs:s.data.toList with
 |nil=>rw[hs]at hl;simp only[Tw]at hl;omega
 |cons c d=>
  rw[hs]at hl
  have b:∀i (hi:i<s.size),s[i]=(c::d)[i]'(by rw[←hl];exact hi):=fun i hi=>by
   have:s[i]=s.data.toList[i]'(by rw[hs,←hl];exact hi):=by simp[U0]
   rw[this];congr 1
  simp only[jI,Tx]
  refine⟨by have:=h 0 h0;rw[b 0 h0]at this;simpa using this,DT (fun i hi=>?_)⟩
  have h1:i+1<s.size:=by rw[hl];simpa using hi
  have:=h (i+1) h1
  rw[b _ h1]at this
  simpa using this
theorem j7{s:ByteArray}{i:Nat}(hi:i<s.size)(h:jt (decide (i=0)) s[i]=false):jI s.data.toList=false:=by
 have hl:=hK s
 cases hs:s.data.toList with
 |nil=>rfl
 |cons c b=>
  rw[hs]at hl
  have d:s[i]=(c::b)[i]'(by rw[←hl];exact hi):=by
   have:s[i]=s.data.toList[i]'(by rw[hs,←hl];exact hi):=by simp[U0]
   rw[this];congr 1
  rw[d]at h
  simp only[jI,Bool.and_eq_false_iff]
  cases i with
  |zero=>left;simpa using h
  |succ i=>
   right
   rw[List.all_eq_false]
   refine⟨b[i]'(by simp at hl;omega),T2 _,?_⟩
   simpa using h
theorem iv(c:Bool)(b:UInt8):jt c b=true↔(97≤b.toNat∧b.toNat≤122)∨(65≤b.toNat∧b.toNat≤90)∨b.toNat=95∨(c=false∧48≤b.toNat∧b.toNat≤57):=by
 simp only[jt,TO,Tx,TA,Uh,UR,T1,←TV]
 simp only[UInt8.reduceToNat]
 cases c<;>simp<;>omega
theorem ig(s:ByteArray)(hs:s.size≤140737488351232)(p:World):Calls Tryz.prog 63 #[.string s] p (hH p [] fun u _=>u=.bool (jI s.data.toList)):=by
 refine cY Tryz.func63 fun d=>ac 12<|lE [] p (σ:=Nat) [(2,4),(7,43)] [(0,.string s),(6,.int .i64 (s.size:Int))] (fun i=>[(7,.int .i64 (i:Int))]) (fun i D=>i≤s.size∧∀b (hj:b<s.size),b<i→jt (decide (b=0)) s[b]=true) (fun i=>s.size - i) (0) ?_ ?_
 ·exact⟨Fr.refl _ _,TE _,fun b hj h=>by omega⟩
 rintro E i b w ⟨q,F,j⟩
 have d:=d.jP q
 have G:=q.size
 have k:=q
 have H:=Fr.refl [] w
 refine ac 2<|jX rfl rfl (fun y=>?_) (fun y=>?_)
 ·have hi:i<s.size:=by omega
  have hu:=s[i].toNat_lt
  refine au 15<|DL.y rfl rfl (Y.jb (i:=i) Tryz.underlying9 rfl rfl rfl hi)<|au 5<|jN rfl rfl (fun z=>?_) (fun z=>?_)
  ·refine au 2<|jX rfl rfl (fun A=>?_) (fun A=>?_)
   ·refine au 7<|jX rfl rfl (fun r=>?_) (fun r=>?_)
    ·refine au 7<|jE rfl rfl (fun l=>?_) (fun l=>?_)
     ·refine au 10 ?_
      have c:jt (decide (i=0)) s[i]=false:=by rw[←TQ,iv];simp only[TJ];omega
      refine ac 6<|hD.jR (v:=.bool false) rfl (hH.mk d ?_)
      rw[j7 hi c]
     refine au 2<|jX rfl rfl (fun m=>?_) (fun m=>?_)
     ·refine au 7 ?_
      have c:jt (decide (i=0)) s[i]=false:=by rw[←TQ,iv];simp only[TJ];omega
      refine ac 6<|hD.jR (v:=.bool false) rfl (hH.mk d ?_)
      rw[j7 hi c]
     refine au 3<|jG rfl rfl (fun o=>?_) (fun o=>?_)
     ·refine au 3 ?_
      have c:jt (decide (i=0)) s[i]=false:=by rw[←TQ,iv];simp only[TJ];omega
      refine ac 6<|hD.jR (v:=.bool false) rfl (hH.mk d ?_)
      rw[j7 hi c]
     refine au 3 ?_
     have f:jt (decide (i=0)) s[i]=true:=by rw[iv];simp only[TJ];omega
     refine ac 3<|ai ((i+1:Nat):Int) rfl rfl<|au 2 ?_
     refine⟨i+1,⟨k,hi,fun b hj h=>?_⟩,by show s.size - (i+1)<s.size - i;omega,rfl⟩
     by_cases g:b=i
     ·subst g;exact f
     exact j b hj Ac
    refine au 2<|jG rfl rfl (fun t=>?_) (fun t=>?_)
    ·refine au 4<|jE rfl rfl (fun l=>?_) (fun l=>?_)
     ·refine au 10 ?_
      have c:jt (decide (i=0)) s[i]=false:=by rw[←TQ,iv];simp only[TJ];omega
      refine ac 6<|hD.jR (v:=.bool false) rfl (hH.mk d ?_)
      rw[j7 hi c]
     refine au 2<|jX rfl rfl (fun m=>?_) (fun m=>?_)
     ·refine au 7 ?_
      have c:jt (decide (i=0)) s[i]=false:=by rw[←TQ,iv];simp only[TJ];omega
      refine ac 6<|hD.jR (v:=.bool false) rfl (hH.mk d ?_)
      rw[j7 hi c]
     refine au 3<|jG rfl rfl (fun o=>?_) (fun o=>?_)
     ·refine au 3 ?_
      have c:jt (decide (i=0)) s[i]=false:=by rw[←TQ,iv];simp only[TJ];omega
      refine ac 6<|hD.jR (v:=.bool false) rfl (hH.mk d ?_)
      rw[j7 hi c]
     refine au 3 ?_
     have f:jt (decide (i=0)) s[i]=true:=by rw[iv];simp only[TJ];omega
     refine ac 3<|ai ((i+1:Nat):Int) rfl rfl<|au 2 ?_
     refine⟨i+1,⟨k,hi,fun b hj h=>?_⟩,by show s.size - (i+1)<s.size - i;omega,rfl⟩
     by_cases g:b=i
     ·subst g;exact f
     exact j b hj Ac
    refine au 15 ?_
    have f:jt (decide (i=0)) s[i]=true:=by rw[iv];simp only[TJ];omega
    refine ac 3<|ai ((i+1:Nat):Int) rfl rfl<|au 2 ?_
    refine⟨i+1,⟨k,hi,fun b hj h=>?_⟩,by show s.size - (i+1)<s.size - i;omega,rfl⟩
    by_cases g:b=i
    ·subst g;exact f
    exact j b hj Ac
   refine au 2<|jG rfl rfl (fun B=>?_) (fun B=>?_)
   ·refine au 4<|jX rfl rfl (fun r=>?_) (fun r=>?_)
    ·refine au 7<|jE rfl rfl (fun l=>?_) (fun l=>?_)
     ·refine au 10 ?_
      have c:jt (decide (i=0)) s[i]=false:=by rw[←TQ,iv];simp only[TJ];omega
      refine ac 6<|hD.jR (v:=.bool false) rfl (hH.mk d ?_)
      rw[j7 hi c]
     refine au 2<|jX rfl rfl (fun m=>?_) (fun m=>?_)
     ·refine au 7 ?_
      have c:jt (decide (i=0)) s[i]=false:=by rw[←TQ,iv];simp only[TJ];omega
      refine ac 6<|hD.jR (v:=.bool false) rfl (hH.mk d ?_)
      rw[j7 hi c]
     refine au 3<|jG rfl rfl (fun o=>?_) (fun o=>?_)
     ·refine au 3 ?_
      have c:jt (decide (i=0)) s[i]=false:=by rw[←TQ,iv];simp only[TJ];omega
      refine ac 6<|hD.jR (v:=.bool false) rfl (hH.mk d ?_)
      rw[j7 hi c]
     refine au 3 ?_
     have f:jt (decide (i=0)) s[i]=true:=by rw[iv];simp only[TJ];omega
     refine ac 3<|ai ((i+1:Nat):Int) rfl rfl<|au 2 ?_
     refine⟨i+1,⟨k,hi,fun b hj h=>?_⟩,by show s.size - (i+1)<s.size - i;omega,rfl⟩
     by_cases g:b=i
     ·subst g;exact f
     exact j b hj Ac
    refine au 2<|jG rfl rfl (fun t=>?_) (fun t=>?_)
    ·refine au 4<|jE rfl rfl (fun l=>?_) (fun l=>?_)
     ·refine au 10 ?_
      have c:jt (decide (i=0)) s[i]=false:=by rw[←TQ,iv];simp only[TJ];omega
      refine ac 6<|hD.jR (v:=.bool false) rfl (hH.mk d ?_)
      rw[j7 hi c]
     refine au 2<|jX rfl rfl (fun m=>?_) (fun m=>?_)
     ·refine au 7 ?_
      have c:jt (decide (i=0)) s[i]=false:=by rw[←TQ,iv];simp only[TJ];omega
      refine ac 6<|hD.jR (v:=.bool false) rfl (hH.mk d ?_)
      rw[j7 hi c]
     refine au 3<|jG rfl rfl (fun o=>?_) (fun o=>?_)
     ·refine au 3 ?_
      have c:jt (decide (i=0)) s[i]=false:=by rw[←TQ,iv];simp only[TJ];omega
      refine ac 6<|hD.jR (v:=.bool false) rfl (hH.mk d ?_)
      rw[j7 hi c]
     refine au 3 ?_
     have f:jt (decide (i=0)) s[i]=true:=by rw[iv];simp only[TJ];omega
     refine ac 3<|ai ((i+1:Nat):Int) rfl rfl<|au 2 ?_
     refine⟨i+1,⟨k,hi,fun b hj h=>?_⟩,by show s.size - (i+1)<s.size - i;omega,rfl⟩
     by_cases g:b=i
     ·subst g;exact f
     exact j b hj Ac
    refine au 15 ?_
    have f:jt (decide (i=0)) s[i]=true:=by rw[iv];simp only[TJ];omega
    refine ac 3<|ai ((i+1:Nat):Int) rfl rfl<|au 2 ?_
    refine⟨i+1,⟨k,hi,fun b hj h=>?_⟩,by show s.size - (i+1)<s.size - i;omega,rfl⟩
    by_cases g:b=i
    ·subst g;exact f
    exact j b hj Ac
   refine au 23 ?_
   have f:jt (decide (i=0)) s[i]=true:=by rw[iv];simp only[TJ];omega
   refine ac 3<|ai ((i+1:Nat):Int) rfl rfl<|au 2 ?_
   refine⟨i+1,⟨k,hi,fun b hj h=>?_⟩,by show s.size - (i+1)<s.size - i;omega,rfl⟩
   by_cases g:b=i
   ·subst g;exact f
   exact j b hj Ac
  refine au 29 ?_
  have f:jt (decide (i=0)) s[i]=true:=by rw[iv];simp only[TJ];omega
  refine ac 3<|ai ((i+1:Nat):Int) rfl rfl<|au 2 ?_
  refine⟨i+1,⟨k,hi,fun b hj h=>?_⟩,by show s.size - (i+1)<s.size - i;omega,rfl⟩
  by_cases g:b=i
  ·subst g;exact f
  exact j b hj Ac
 refine au 4<|ac 3<|DL.y rfl rfl (Y.vK rfl rfl)<|au 3 ?_
 have I:i=s.size:=by omega
 by_cases h0:s.size=0
 ·have e:s=⟨#[]⟩:=by{obtain⟨⟨C⟩⟩:=s;cases C with|nil=>rfl|cons a u=>simp only[hK]at h0;simp at h0}
  refine rX d ?_
  rw[e];rfl
 refine rX d ?_
 rw[KR Ac (fun b hj=>j b hj Ac)];show Value.bool _=_;rw[kR (fun e=>h0 (by rw[e];rfl))]
theorem tu:∀b∈ri,b.size≤20∧1<b.size∧b.data.toList[0]? =some 64∧jI ((b.extract ((1:Int).toNat) b.size).data.toList)=true∧(b.extract ((1:Int).toNat) b.size).size≤20∧b≠⟨#[]⟩:=by decide+kernel
theorem mw(s:ByteArray)(hs:s∈ri)(d:World):Calls Tryz.prog 67 #[.string s] d (hH d [] fun f _=>f=.bool true):=by
 obtain⟨m,h1,g,j,o,_⟩:=tu s hs
 refine cY Tryz.func67 fun k=>ac 8<|DL.y rfl rfl (Y.Hb (c:=true) rfl rfl (Th Ac))<|au 2<|DL.y rfl rfl (Y.ma (i:=0) (b:=64) Tryz.underlying9 rfl rfl rfl g)<|DL.y rfl rfl (Y.E1 (c:=true) rfl rfl (rfl))<|au 3<|DL.y rfl rfl (Y.vw (l:=1) Tryz.underlying9 rfl rfl Ah Ac)<|cX (ig _ Ac _) ?_
 rintro _ p q r rfl
 rw[j]
 exact au 4<|rX k.g rfl
theorem mC(s:ByteArray)(c:World):Calls Tryz.prog 95 #[.string s] c (hH c [] fun f d=>∃b,f=Pt b∧c.heap.size≤b∧b<d.heap.size∧d.heap[b]? =some (.cells #[.string s,Zl] 166 (0,0))):=cY Tryz.func95 fun g=>ac 7<|bD #[.string s,Zl]<|bX rfl fun k l m o p j=>au 3<|rX g.g ⟨_,rfl,Ac,Ac,j⟩
theorem kb(c:Nat)(d:World):Calls Tryz.prog 39 #[Pt c] d (hH d [] fun g f=>∃b,g=Pt b∧d.heap.size≤b∧b<f.heap.size∧f.heap[b]? =some (.cells (H4 c) 105 (0,0))):=cY Tryz.func39 fun j=>ac 7<|bD (H4 c)<|bX rfl fun l m o p q k=>au 3<|rX j.g ⟨_,rfl,Ac,Ac,k⟩
theorem yq(s:ByteArray)(t:World):Calls Tryz.prog 60 #[.string s] t (hH t [] fun u _=>(∃b:Nat,(1≤b∧b≤24)∧s=jQ b∧u=.tuple #[.int .i64 (b:Int),.bool true])∨((∀b,14≤b∧b≤24→¬s=jQ b)∧u=.tuple #[Zi,.bool false])):=by
 refine cY Tryz.func60 fun c=>ac 13<|jS rfl rfl (fun d=>?_) (fun d=>?_)
 ·exact au 9<|rZ c (Ts ⟨14,by decide,d,rfl⟩)
 refine au 5<|jS rfl rfl (fun f=>?_) (fun f=>?_)
 ·exact au 9<|rZ c (Ts ⟨15,by decide,f,rfl⟩)
 refine au 5<|jS rfl rfl (fun g=>?_) (fun g=>?_)
 ·exact au 9<|rZ c (Ts ⟨16,by decide,g,rfl⟩)
 refine au 5<|jS rfl rfl (fun j=>?_) (fun j=>?_)
 ·exact au 9<|rZ c (Ts ⟨17,by decide,j,rfl⟩)
 refine au 5<|jS rfl rfl (fun k=>?_) (fun k=>?_)
 ·exact au 9<|rZ c (Ts ⟨18,by decide,k,rfl⟩)
 refine au 5<|jS rfl rfl (fun l=>?_) (fun l=>?_)
 ·exact au 9<|rZ c (Ts ⟨19,by decide,l,rfl⟩)
 refine au 5<|jS rfl rfl (fun m=>?_) (fun m=>?_)
 ·exact au 9<|rZ c (Ts ⟨20,by decide,m,rfl⟩)
 refine au 5<|jS rfl rfl (fun o=>?_) (fun o=>?_)
 ·exact au 9<|rZ c (Ts ⟨21,by decide,o,rfl⟩)
 refine au 5<|jS rfl rfl (fun p=>?_) (fun p=>?_)
 ·exact au 9<|rZ c (Ts ⟨22,by decide,p,rfl⟩)
 refine au 5<|jS rfl rfl (fun q=>?_) (fun q=>?_)
 ·exact au 9<|rZ c (Ts ⟨23,by decide,q,rfl⟩)
 refine au 5<|jS rfl rfl (fun r=>?_) (fun r=>?_)
 ·exact au 9<|rZ c (Ts ⟨24,by decide,r,rfl⟩)
 refine au 10<|rZ c (Tk ⟨fun b hk=>?_,rfl⟩)
 obtain h|h|h|h|h|h|h|h|h|h|h:b=14∨b=15∨b=16∨b=17∨b=18∨b=19∨b=20∨b=21∨b=22∨b=23∨b=24:=by omega
 ·rw[h];exact d
 ·rw[h];exact f
 ·rw[h];exact g
 ·rw[h];exact j
 ·rw[h];exact k
 ·rw[h];exact l
 ·rw[h];exact m
 ·rw[h];exact o
 ·rw[h];exact p
 ·rw[h];exact q
 rw[h];exact r
theorem lr(s:ByteArray)(v:World):Calls Tryz.prog 34 #[.string s] v (hH v [] fun w _=>(∃b:Nat,(1≤b∧b≤24)∧s=jQ b∧w=.tuple #[.int .i64 (b:Int),.bool true])∨((∀b,1≤b∧b≤24→¬s=jQ b)∧w=.tuple #[Zi,.bool false])):=by
 refine cY Tryz.func34 fun c=>ac 13<|jS rfl rfl (fun d=>?_) (fun d=>?_)
 ·exact au 9<|rZ c (Ts ⟨1,by decide,d,rfl⟩)
 refine au 5<|jS rfl rfl (fun f=>?_) (fun f=>?_)
 ·exact au 9<|rZ c (Ts ⟨2,by decide,f,rfl⟩)
 refine au 5<|jS rfl rfl (fun g=>?_) (fun g=>?_)
 ·exact au 9<|rZ c (Ts ⟨3,by decide,g,rfl⟩)
 refine au 5<|jS rfl rfl (fun j=>?_) (fun j=>?_)
 ·exact au 9<|rZ c (Ts ⟨4,by decide,j,rfl⟩)
 refine au 5<|jS rfl rfl (fun k=>?_) (fun k=>?_)
 ·exact au 9<|rZ c (Ts ⟨5,by decide,k,rfl⟩)
 refine au 5<|jS rfl rfl (fun l=>?_) (fun l=>?_)
 ·exact au 9<|rZ c (Ts ⟨6,by decide,l,rfl⟩)
 refine au 5<|jS rfl rfl (fun m=>?_) (fun m=>?_)
 ·exact au 9<|rZ c (Ts ⟨7,by decide,m,rfl⟩)
 refine au 5<|jS rfl rfl (fun o=>?_) (fun o=>?_)
 ·exact au 9<|rZ c (Ts ⟨8,by decide,o,rfl⟩)
 refine au 5<|jS rfl rfl (fun p=>?_) (fun p=>?_)
 ·exact au 9<|rZ c (Ts ⟨9,by decide,p,rfl⟩)
 refine au 5<|jS rfl rfl (fun q=>?_) (fun q=>?_)
 ·exact au 9<|rZ c (Ts ⟨10,by decide,q,rfl⟩)
 refine au 5<|jS rfl rfl (fun r=>?_) (fun r=>?_)
 ·exact au 9<|rZ c (Ts ⟨11,by decide,r,rfl⟩)
 refine au 5<|jS rfl rfl (fun t=>?_) (fun t=>?_)
 ·exact au 9<|rZ c (Ts ⟨12,by decide,t,rfl⟩)
 refine au 5<|jS rfl rfl (fun u=>?_) (fun u=>?_)
 ·exact au 9<|rZ c (Ts ⟨13,by decide,u,rfl⟩)
 refine au 7<|cX (yq s _) ?_
 rintro _ C y z (⟨b,hk,hs,rfl⟩|⟨A,rfl⟩)
 ·exact au 6<|hD.ia rfl rfl (hH.mk c.g (Ts ⟨b,hk,hs,rfl⟩))
 have z:=y.size
 refine au 6<|hD.ia rfl rfl (hH.mk c.g (Tk ⟨fun b hk=>?_,rfl⟩))
 by_cases B:14≤b
 ·exact A b ⟨B,hk.2⟩
 obtain h|h|h|h|h|h|h|h|h|h|h|h|h:b=1∨b=2∨b=3∨b=4∨b=5∨b=6∨b=7∨b=8∨b=9∨b=10∨b=11∨b=12∨b=13:=by omega
 ·rw[h];exact d
 ·rw[h];exact f
 ·rw[h];exact g
 ·rw[h];exact j
 ·rw[h];exact k
 ·rw[h];exact l
 ·rw[h];exact m
 ·rw[h];exact o
 ·rw[h];exact p
 ·rw[h];exact q
 ·rw[h];exact r
 ·rw[h];exact t
 rw[h];exact u
theorem GB:∀a b:Nat,1≤a∧a≤24→1≤b∧b≤24→jQ a=jQ b→a=b:=by
 have:∀a b:Fin 25,1≤a.val→1≤b.val→jQ a.val=jQ b.val→a.val=b.val:=by decide+kernel
 intro a b c d h
 exact this ⟨a,Ac⟩ ⟨b,Ac⟩ c.1 d.1 h
theorem jA(b:ByteArray)(a:Option Addr)(c d:Nat)(g:World):Calls Tryz.prog 22 #[.string b,.slice a c d] g (hH g [] fun j _=>j=.agg #[.string b,Zs,Zi,Zi,Zs,Zl,Zl,Zl,.slice a c d,Zl,Zl,Zl]):=cY Tryz.func22 fun k=>ac 2<|al F.z31 rfl fun l m o p q f=>au 5<|bD #[.string b,Zs,Zi,Zi,Zs,Zl,Zl,Zl,.slice a c d,Zl,Zl,Zl]<|sA f rfl rfl rfl rfl Au fun r t u f=>au 2<|hD.hZ (cs:=#[.string b,Zs,Zi,Zi,Zs,Zl,Zl,Zl,.slice a c d,Zl,Zl,Zl]) rfl F.hN (hB.hE f) (hH.mk k.g rfl)
theorem tW(c:World):Calls Tryz.prog 46 #[] c (hH c [] fun d _=>d=.agg #[.string CE,Zs,Zi,Zi,Zs,Zl,Zl,Zl,Zl,Zl,Zl,Zl]):=cY Tryz.func46 fun f=>ac 2<|al F.z31 rfl fun g j k l m b=>au 3<|bD #[.string CE,Zs,Zi,Zi,Zs,Zl,Zl,Zl,Zl,Zl,Zl,Zl]<|sA b rfl rfl rfl rfl Au fun o p q b=>au 2<|hD.hZ (cs:=#[.string CE,Zs,Zi,Zi,Zs,Zl,Zl,Zl,Zl,Zl,Zl,Zl]) rfl F.hN (hB.hE b) (hH.mk f.g rfl)
theorem rM(s:ByteArray)(c:World):Calls Tryz.prog 21 #[.string s] c (hH c [] fun d _=>d=.agg #[.int .i64 4,Zi,.string s,Zl,Zl,Zl]):=cY Tryz.func21 fun f=>ac 2<|al F.NX rfl fun g j k l m b=>au 4<|bD #[.int .i64 4,Zi,.string s,Zl,Zl,Zl]<|sA b rfl rfl rfl rfl Au fun o p q b=>au 2<|hD.hZ (cs:=#[.int .i64 4,Zi,.string s,Zl,Zl,Zl]) rfl F.rC (hB.hE b) (hH.mk f.g rfl)
theorem l6(b c d f g j:Value)(h0:(#[b,c,d,f,g,j]:Array Value).all (·.oneCell'))(l:World):Calls Tryz.prog 20 #[.agg #[b,c,d,f,g,j]] l (hH l [] fun p _=>p=.agg #[.string Cr,Zs,b,c,d,f,g,j,Zl,Zl,Zl,Zl]):=by
 refine cY Tryz.func20 fun m=>ac 2<|bX rfl fun q v w o y r=>have o:=Tq m.size o;al F.z31 rfl fun t z A B C k=>have D:q<t:=Ac;au 3<|lw (Gb r) rfl rfl<|bD #[.string Cr,Zs,b,c,d,f,g,j,Zl,Zl,Zl,Zl] ?_
 have u:(#[.string Cr,Zs,b,c,d,f,g,j,Zl,Zl,Zl,Zl]:Array Value).all (·.oneCell')=true:=by simp only[Vp,Vw,VW,VG,Tx]at h0⊢;exact⟨rfl,rfl,h0.1,h0.2.1,h0.2.2.1,h0.2.2.2.1,h0.2.2.2.2.1,h0.2.2.2.2.2,rfl,rfl,rfl,rfl⟩
 exact sA (cs:=#[.string Cr,Zs,b,c,d,f,g,j,Zl,Zl,Zl,Zl]) k rfl rfl rfl rfl u fun E G H k=>au 2<|hD.hZ (cs:=#[.string Cr,Zs,b,c,d,f,g,j,Zl,Zl,Zl,Zl]) rfl F.hN (hB.hE k) (hH.mk m.g rfl)
theorem j9:jt bA uA=false↔¬((97≤uA.toNat∧uA.toNat≤122)∨(65≤uA.toNat∧uA.toNat≤90)∨uA.toNat=95∨(bA=false∧48≤uA.toNat∧uA.toNat≤57)):=by rw[←iv,TQ]
theorem wo(k:UInt8)(first:Bool)(l:World):Calls Tryz.prog 80 #[.int .u8 (k.toNat:Int),.bool first] l (hH l [] fun m _=>m=.bool (jt first k)):=by
 refine cY Tryz.func80 fun b=>ac 7<|jH rfl rfl (fun o=>?_) (fun o=>?_)
 ·refine au 2<|jM rfl rfl (fun p=>?_) (fun p=>?_)
  ·exact au 28<|hD.jR (v:=.bool true) rfl (hH.mk b (TR Value.bool ((iv _ _).2 Ac).symm))
  refine au 3<|jH rfl rfl (fun g=>?_) (fun g=>?_)
  ·refine au 2<|jM rfl rfl (fun j=>?_) (fun j=>?_)
   ·exact au 21<|hD.jR (v:=.bool true) rfl (hH.mk b (TR Value.bool ((iv _ _).2 Ac).symm))
   refine au 4<|jE rfl rfl (fun c=>?_) (fun c=>?_)
   ·exact au 16<|hD.jR (v:=.bool true) rfl (hH.mk b (TR Value.bool ((iv _ _).2 Ac).symm))
   refine au 4 ?_
   cases first
   ·refine au 2<|jH rfl rfl (fun d=>?_) (fun d=>?_)
    ·refine au 3<|jM rfl rfl (fun f=>?_) (fun f=>?_)
     ·exact au 5<|hD.jR (v:=.bool true) rfl (hH.mk b (TR Value.bool ((iv _ _).2 A1).symm))
     exact au 5<|hD.jR (v:=.bool false) rfl (hH.mk b (TR Value.bool (j9.2 A1).symm))
    exact au 9<|hD.jR (v:=.bool false) rfl (hH.mk b (TR Value.bool (j9.2 A1).symm))
   exact au 12<|hD.jR (v:=.bool false) rfl (hH.mk b (TR Value.bool (j9.2 A1).symm))
  refine au 7<|jE rfl rfl (fun c=>?_) (fun c=>?_)
  ·exact au 16<|hD.jR (v:=.bool true) rfl (hH.mk b (TR Value.bool ((iv _ _).2 Ac).symm))
  refine au 4 ?_
  cases first
  ·refine au 2<|jH rfl rfl (fun d=>?_) (fun d=>?_)
   ·refine au 3<|jM rfl rfl (fun f=>?_) (fun f=>?_)
    ·exact au 5<|hD.jR (v:=.bool true) rfl (hH.mk b (TR Value.bool ((iv _ _).2 A1).symm))
    exact au 5<|hD.jR (v:=.bool false) rfl (hH.mk b (TR Value.bool (j9.2 A1).symm))
   exact au 9<|hD.jR (v:=.bool false) rfl (hH.mk b (TR Value.bool (j9.2 A1).symm))
  exact au 12<|hD.jR (v:=.bool false) rfl (hH.mk b (TR Value.bool (j9.2 A1).symm))
 refine au 6<|jH rfl rfl (fun g=>?_) (fun g=>?_)
 ·refine au 2<|jM rfl rfl (fun j=>?_) (fun j=>?_)
  ·exact au 21<|hD.jR (v:=.bool true) rfl (hH.mk b (TR Value.bool ((iv _ _).2 Ac).symm))
  refine au 4<|jE rfl rfl (fun c=>?_) (fun c=>?_)
  ·exact au 16<|hD.jR (v:=.bool true) rfl (hH.mk b (TR Value.bool ((iv _ _).2 Ac).symm))
  refine au 4 ?_
  cases first
  ·refine au 2<|jH rfl rfl (fun d=>?_) (fun d=>?_)
   ·refine au 3<|jM rfl rfl (fun f=>?_) (fun f=>?_)
    ·exact au 5<|hD.jR (v:=.bool true) rfl (hH.mk b (TR Value.bool ((iv _ _).2 A1).symm))
    exact au 5<|hD.jR (v:=.bool false) rfl (hH.mk b (TR Value.bool (j9.2 A1).symm))
   exact au 9<|hD.jR (v:=.bool false) rfl (hH.mk b (TR Value.bool (j9.2 A1).symm))
  exact au 12<|hD.jR (v:=.bool false) rfl (hH.mk b (TR Value.bool (j9.2 A1).symm))
 refine au 7<|jE rfl rfl (fun c=>?_) (fun c=>?_)
 ·exact au 16<|hD.jR (v:=.bool true) rfl (hH.mk b (TR Value.bool ((iv _ _).2 Ac).symm))
 refine au 4 ?_
 cases first
 ·refine au 2<|jH rfl rfl (fun d=>?_) (fun d=>?_)
  ·refine au 3<|jM rfl rfl (fun f=>?_) (fun f=>?_)
   ·exact au 5<|hD.jR (v:=.bool true) rfl (hH.mk b (TR Value.bool ((iv _ _).2 A1).symm))
   exact au 5<|hD.jR (v:=.bool false) rfl (hH.mk b (TR Value.bool (j9.2 A1).symm))
  exact au 9<|hD.jR (v:=.bool false) rfl (hH.mk b (TR Value.bool (j9.2 A1).symm))
 exact au 12<|hD.jR (v:=.bool false) rfl (hH.mk b (TR Value.bool (j9.2 A1).symm))
theorem kx{a:Nat}{s:ByteArray}{n:Nat}(b:w.heap[m]? =some (.cells (pG s a t sA) 54 (0,0)))(k:a+n≤s.size)(hs:s.size≤1099511627776):Calls Tryz.prog 43 #[Pt m,.string sB,.string sC,.int .i64 (n:Int)] w (hH w [m] fun d f=>d=.tuple #[]∧f.heap[m]? =some (.cells (pG s (a+n) sB sC) 54 (0,0))):=cY Tryz.func43 fun g=>ac 5<|bD #[.string sB,.string sC]<|au 2<|DL.mK (new:=pG s a sB sC) rfl F.ME rfl rfl rfl Au b rfl rfl fun l c o j=>have c:=Sp.mk c;have b:=j;au 5<|lD b rfl rfl<|au 1<|ai ((a+n:Nat):Int) rfl rfl<|au 2<|sc b rfl rfl rfl rfl fun p q r b=>au 1<|rE g.g ⟨rfl,b⟩
theorem uo{a:Nat}{s:ByteArray}(c:w.heap[m]? =some (.cells (pG s a t sA) 54 (0,0)))(p:k≤s.size)(hs:s.size≤1099511627776):Calls Tryz.prog 42 #[Pt m,.int .i64 (k:Int)] w (hH w [] fun q _=>q=.string (ba ((s.data.toList.drop k).take (wd (s.data.toList.drop k))))):=by
 refine cY Tryz.func42 fun d=>ac 11<|lE [] w (σ:=Nat) [(5,5),(7,27)] [(0,Pt m),(1,.int .i64 (k:Int))] (fun i=>[(5,.int .i64 ((k+i:Nat):Int))]) (fun i A=>k+i≤s.size∧∀b (hj:k+b<s.size),b<i→jt (decide (b=0)) s[k+b]=true) (fun i=>s.size - (k+i)) (0) ?_ ?_
 ·exact⟨Fr.refl _ _,p,fun b hj h=>by omega⟩
 rintro B i b r ⟨f,C,j⟩
 have d:=d.jP f
 have D:=f.size
 have c:=f.il c
 have u:=f
 have E:=Fr.refl [] r
 refine ac 7<|lD c rfl rfl<|au 1<|jX rfl rfl (fun v=>?_) (fun v=>?_)
 ·have hi:k+i<s.size:=by omega
  refine au 4<|lD c rfl rfl<|au 1<|DL.y rfl rfl (Y.jb (i:=k+i) Tryz.underlying9 rfl rfl rfl hi)<|au 2<|DL.b rfl rfl (Y.eq rfl rfl) ?_
  intro l y
  have o:l=decide (i=0):=by rw[y];exact decide_eq_decide.2 Ac
  refine cX (wo s[k+i] l _) ?_
  rintro _ F G H rfl
  cases hl:jt l s[k+i]
  ·refine au 4<|ac 5<|lD (Gb c) rfl rfl<|au 2<|DL.y rfl rfl (Y.nh Tryz.underlying9 rfl rfl rfl Ac Ac Ac)<|au 3 ?_
   have hw:wd (s.data.toList.drop k)=i:=by
    refine HX Be (fun b hj g=>?_) (fun hj=>?_)
    ·rw[iH]at hj;rw[oL Ac];exact j b Ac g
    rw[oL hi,←o];exact hl
   rw[hw,←nZ]
   exact rX d.g rfl
  refine au 7<|ai ((k+(i+1):Nat):Int) rfl rfl<|au 2 ?_
  refine⟨i+1,⟨u.g,Ac,fun b hj g=>?_⟩,by show s.size - (k+(i+1))<s.size - (k+i);omega,rfl⟩
  by_cases z:b=i
  ·subst z;rw[←o];exact hl
  exact j b hj Ac
 refine au 15<|ac 5<|lD c rfl rfl<|au 2<|DL.y rfl rfl (Y.nh Tryz.underlying9 rfl rfl rfl Ac Ac Ac)<|au 3 ?_
 have hw:wd (s.data.toList.drop k)=i:=by
  refine HX Be (fun b hj g=>?_) (fun hj=>?_)
  ·rw[iH]at hj;rw[oL Ac];exact j b Ac g
  rw[iH]at hj;omega
 rw[hw,←nZ]
 exact rX d rfl
theorem zW{s:ByteArray}{a:Nat}{x:UInt8}(h:a+m<s.size):(s.data.toList.drop a).getD m x=s[a+m]:=by
 have hj:m<(s.data.toList.drop a).length:=by rw[iH];omega
 rw[TL,TP hj,Vo,oL h]
theorem IS{s:ByteArray}{a:Nat}{x:UInt8}(h:s.size≤a+m):(s.data.toList.drop a).getD m x=x:=by
 rw[TL,VE Be,Option.getD_none]
theorem lX(b:UInt8):p4 b=true↔48≤b.toNat∧b.toNat≤57:=by
 simp only[p4,Tx,TA,T1];rfl
theorem kE{s:ByteArray}{a:Nat}(h:a+m<s.size):rL (s.data.toList.drop a) m=true↔(48≤s[a+m].toNat∧s[a+m].toNat≤57)∨(s[a+m].toNat=46∧∃b:a+m+1<s.size,48≤s[a+m+1].toNat∧s[a+m+1].toNat≤57):=by
 unfold rL
 rw[TO,Tx,zW h,lX,Uh,←TV]
 refine or_congr Iff.rfl (and_congr Iff.rfl ?_)
 by_cases h2:a+m+1<s.size
 ·rw[zW Ac,lX]
  exact⟨fun h=>⟨h2,h⟩,fun⟨_,h⟩=>h⟩
 rw[IS Ac]
 exact⟨(fun h=>by cases h),fun⟨h,_⟩=>Tu h h2⟩
theorem tY{a:Nat}{s:ByteArray}(d:w.heap[m]? =some (.cells (pG s a t sA) 54 (0,0)))(D:a≤s.size)(hs:s.size≤1099511627776):Calls Tryz.prog 44 #[Pt m] w (hH w [m] fun E F=>E=.tuple #[]∧F.heap[m]? =some (.cells (pG s (a+nu (s.data.toList.drop a)) vf (ba ((s.data.toList.drop a).take (nu (s.data.toList.drop a))))) 54 (0,0))):=by
 refine cY Tryz.func44 fun p=>ac 5<|lD d rfl rfl<|au 2 ?_
 have j:=Fr.refl [] w
 refine DC.lG (σ:=Nat) (fun i=>[(0,Pt m),(2,.int .i64 ((a+i:Nat):Int))]) (fun G q=>Fr [] w q∧(fun i q=>a+i≤s.size∧nu (s.data.toList.drop a)=i) G q) ?_ ?_
 ·refine ac 1<|lE [] w (σ:=Nat) [(2,2),(7,72)] [(0,Pt m)] (fun i=>[(2,.int .i64 ((a+i:Nat):Int))]) (fun i q=>a+i≤s.size∧∀b,b<i→rL (s.data.toList.drop a) b=true) (fun i=>s.size - (a+i)) (0) ?_ ?_
  ·exact⟨Fr.refl _ _,D,fun b h=>by omega⟩
  rintro H i b I ⟨r,J,g⟩
  have j:=j.jP r
  have T:=r.size
  have d:=r.il d
  have u:=r
  have U:=Fr.refl [] I
  refine ac 7<|lD d rfl rfl<|au 1<|jX rfl rfl (fun K=>?_) (fun K=>?_)
  ·have hi:a+i<s.size:=by omega
   have hu:=s[a+i].toNat_lt
   refine au 4<|lD d rfl rfl<|au 1<|DL.y rfl rfl (Y.jb (i:=a+i) Tryz.underlying9 rfl rfl rfl hi)<|jH rfl rfl (fun L=>?_) (fun L=>?_)
   ·refine au 4<|lD d rfl rfl<|au 1<|DL.y rfl rfl (Y.jb (i:=a+i) Tryz.underlying9 rfl rfl rfl hi)<|jM rfl rfl (fun M=>?_) (fun M=>?_)
    ·refine au 40<|au 2 ?_
     have l:rL (s.data.toList.drop a) i=true:=(kE hi).2 Bg
     refine ac 5<|ai ((a+(i+1):Nat):Int) rfl rfl<|au 2 ?_
     refine⟨i+1,⟨u,Ac,fun b C=>?_⟩,by show s.size - (a+(i+1))<s.size - (a+i);omega,rfl⟩
     by_cases o:b=i
     ·subst o;exact l
     exact g b Ac
    refine au 5<|lD d rfl rfl<|au 1<|DL.y rfl rfl (Y.jb (i:=a+i) Tryz.underlying9 rfl rfl rfl hi)<|jE rfl rfl (fun v=>?_) (fun v=>?_)
    ·refine au 2<|ai ((a+i+1:Nat):Int) rfl rfl<|au 3<|lD d rfl rfl<|au 1<|jX rfl rfl (fun y=>?_) (fun y=>?_)
     ·have O:a+i+1<s.size:=by omega
      have P:=s[a+i+1].toNat_lt
      refine au 5<|lD d rfl rfl<|au 1<|ai ((a+i+1:Nat):Int) rfl rfl<|DL.y rfl rfl (Y.jb (i:=a+i+1) Tryz.underlying9 rfl rfl rfl Ac)<|jH rfl rfl (fun z=>?_) (fun z=>?_)
      ·refine au 5<|lD d rfl rfl<|au 1<|ai ((a+i+1:Nat):Int) rfl rfl<|DL.y rfl rfl (Y.jb (i:=a+i+1) Tryz.underlying9 rfl rfl rfl Ac)<|jM rfl rfl (fun A=>?_) (fun A=>?_)
       ·refine au 4 ?_
        have l:rL (s.data.toList.drop a) i=true:=(kE hi).2 Bg
        refine ac 5<|ai ((a+(i+1):Nat):Int) rfl rfl<|au 2 ?_
        refine⟨i+1,⟨u,Ac,fun b C=>?_⟩,by show s.size - (a+(i+1))<s.size - (a+i);omega,rfl⟩
        by_cases o:b=i
        ·subst o;exact l
        exact g b Ac
       refine au 4 ?_
       have f:rL (s.data.toList.drop a) i=false:=by rw[←TQ,kE hi];rintro(h|⟨h1,h2,k⟩)<;>omega
       refine ac 2 ?_
       have hw:nu (s.data.toList.drop a)=i:=by
        refine nW Be (fun b hj=>?_) (fun hj=>?_)
        ·exact g b hj
        rw[iH]at hj;exact f
       exact⟨i,⟨rfl,rfl⟩,j,Ac,hw⟩
      refine au 14 ?_
      have f:rL (s.data.toList.drop a) i=false:=by rw[←TQ,kE hi];rintro(h|⟨h1,h2,k⟩)<;>omega
      refine ac 2 ?_
      have hw:nu (s.data.toList.drop a)=i:=by
       refine nW Be (fun b hj=>?_) (fun hj=>?_)
       ·exact g b hj
       rw[iH]at hj;exact f
      exact⟨i,⟨rfl,rfl⟩,j,Ac,hw⟩
     refine au 24 ?_
     have f:rL (s.data.toList.drop a) i=false:=by rw[←TQ,kE hi];rintro(h|⟨h1,h2,k⟩)<;>omega
     refine ac 2 ?_
     have hw:nu (s.data.toList.drop a)=i:=by
      refine nW Be (fun b hj=>?_) (fun hj=>?_)
      ·exact g b hj
      rw[iH]at hj;exact f
     exact⟨i,⟨rfl,rfl⟩,j,Ac,hw⟩
    refine au 33 ?_
    have f:rL (s.data.toList.drop a) i=false:=by rw[←TQ,kE hi];rintro(h|⟨h1,h2,k⟩)<;>omega
    refine ac 2 ?_
    have hw:nu (s.data.toList.drop a)=i:=by
     refine nW Be (fun b hj=>?_) (fun hj=>?_)
     ·exact g b hj
     rw[iH]at hj;exact f
    exact⟨i,⟨rfl,rfl⟩,j,Ac,hw⟩
   refine au 13<|lD d rfl rfl<|au 1<|DL.y rfl rfl (Y.jb (i:=a+i) Tryz.underlying9 rfl rfl rfl hi)<|jE rfl rfl (fun v=>?_) (fun v=>?_)
   ·refine au 2<|ai ((a+i+1:Nat):Int) rfl rfl<|au 3<|lD d rfl rfl<|au 1<|jX rfl rfl (fun y=>?_) (fun y=>?_)
    ·have O:a+i+1<s.size:=by omega
     have P:=s[a+i+1].toNat_lt
     refine au 5<|lD d rfl rfl<|au 1<|ai ((a+i+1:Nat):Int) rfl rfl<|DL.y rfl rfl (Y.jb (i:=a+i+1) Tryz.underlying9 rfl rfl rfl Ac)<|jH rfl rfl (fun z=>?_) (fun z=>?_)
     ·refine au 5<|lD d rfl rfl<|au 1<|ai ((a+i+1:Nat):Int) rfl rfl<|DL.y rfl rfl (Y.jb (i:=a+i+1) Tryz.underlying9 rfl rfl rfl Ac)<|jM rfl rfl (fun A=>?_) (fun A=>?_)
      ·refine au 4 ?_
       have l:rL (s.data.toList.drop a) i=true:=(kE hi).2 Bg
       refine ac 5<|ai ((a+(i+1):Nat):Int) rfl rfl<|au 2 ?_
       refine⟨i+1,⟨u,Ac,fun b C=>?_⟩,by show s.size - (a+(i+1))<s.size - (a+i);omega,rfl⟩
       by_cases o:b=i
       ·subst o;exact l
       exact g b Ac
      refine au 4 ?_
      have f:rL (s.data.toList.drop a) i=false:=by rw[←TQ,kE hi];rintro(h|⟨h1,h2,k⟩)<;>omega
      refine ac 2 ?_
      have hw:nu (s.data.toList.drop a)=i:=by
       refine nW Be (fun b hj=>?_) (fun hj=>?_)
       ·exact g b hj
       rw[iH]at hj;exact f
      exact⟨i,⟨rfl,rfl⟩,j,Ac,hw⟩
     refine au 14 ?_
     have f:rL (s.data.toList.drop a) i=false:=by rw[←TQ,kE hi];rintro(h|⟨h1,h2,k⟩)<;>omega
     refine ac 2 ?_
     have hw:nu (s.data.toList.drop a)=i:=by
      refine nW Be (fun b hj=>?_) (fun hj=>?_)
      ·exact g b hj
      rw[iH]at hj;exact f
     exact⟨i,⟨rfl,rfl⟩,j,Ac,hw⟩
    refine au 24 ?_
    have f:rL (s.data.toList.drop a) i=false:=by rw[←TQ,kE hi];rintro(h|⟨h1,h2,k⟩)<;>omega
    refine ac 2 ?_
    have hw:nu (s.data.toList.drop a)=i:=by
     refine nW Be (fun b hj=>?_) (fun hj=>?_)
     ·exact g b hj
     rw[iH]at hj;exact f
    exact⟨i,⟨rfl,rfl⟩,j,Ac,hw⟩
   refine au 33 ?_
   have f:rL (s.data.toList.drop a) i=false:=by rw[←TQ,kE hi];rintro(h|⟨h1,h2,k⟩)<;>omega
   refine ac 2 ?_
   have hw:nu (s.data.toList.drop a)=i:=by
    refine nW Be (fun b hj=>?_) (fun hj=>?_)
    ·exact g b hj
    rw[iH]at hj;exact f
   exact⟨i,⟨rfl,rfl⟩,j,Ac,hw⟩
  refine au 40<|au 20 ?_
  have hw:nu (s.data.toList.drop a)=i:=by
   refine nW Be (fun b hj=>?_) (fun hj=>?_)
   ·exact g b hj
   rw[iH]at hj;omega
  exact⟨i,⟨rfl,rfl⟩,j,Ac,hw⟩
 rintro i H W ⟨B,J,hw⟩
 have p:=p.jP B
 have X:=B.size
 have d:=B.il d
 refine dR [] 10 fun Z Q aa R=>have ab:=Q.size;aG [0,1,2,3]<|gL 4 (Gb d) rfl rfl rfl<|aG [5,6,7]<|gL 8 (Gb d) rfl rfl rfl<|aG [9,11,12,13]<|aG [14]<|gQ 10 15 ?_ ?_
 ·refine DL.y rfl rfl (Y.nh Tryz.underlying9 rfl rfl rfl Ac Ac Ac)<|gl<|gp 15<|lD (Gb d) rfl rfl<|gl<|gf 16 rfl (fun S=>Y.n8 (c:=(i:Int)) rfl rfl Ac Ac Ac)<|gp 17<|cX (kx (n:=i) (Gb d) Ac hs) ?_
  rintro _ ad ae af ⟨rfl,d⟩
  refine gl<|gD ?_
  rw[hw]
  rw[←nZ]
  exact rE p.g ⟨rfl,d⟩
 refine lD (Gb d) rfl rfl<|gn R<|gf 16 rfl (fun S=>Y.n8 (c:=(i:Int)) rfl rfl Ac Ac Ac)<|gp 10<|DL.y rfl rfl (Y.nh Tryz.underlying9 rfl rfl rfl Ac Ac Ac)<|gl<|gp 17<|cX (kx (n:=i) (Gb d) Ac hs) ?_
 rintro _ ag ah aj ⟨rfl,d⟩
 refine gl<|gD ?_
 rw[hw]
 rw[←nZ]
 exact rE p.g ⟨rfl,d⟩
theorem xt{s x:ByteArray}{a:Nat}(h:a+x.size≤s.size):s.extract a (a+x.size)=x↔x.data.toList.isPrefixOf (s.data.toList.drop a)=true:=by
 rw[nZ,VP,List.prefix_iff_eq_take]
 have hx:x.data.toList.length=x.size:=(hK x).symm
 rw[hx]
 constructor
 ·intro e
  have:=TR (fun b:ByteArray=>b.data.toList) e
  exact this.symm
 intro e;rw[←e];exact iO x
theorem xU{s x:ByteArray}{a:Nat}(h:¬a+x.size≤s.size):x.data.toList.isPrefixOf (s.data.toList.drop a)=false∨s.size<a:=by
 by_cases b:s.size<a
 ·exact Tk b
 left
 rw[←TQ,VP]
 intro c
 have:=c.length_le
 rw[iH,←hK]at this
 omega
theorem uC{i:Nat}(hi:i<ly.length)(c:ly[i].data.toList.isPrefixOf L)(d:∀b (hj:b<ly.length),b<i→ly[b].data.toList.isPrefixOf L=false):sg L=(jU,ly[i],L.drop ly[i].size):=by
 have:ly.find? (fun s=>s.data.toList.isPrefixOf L)=some ly[i]:=by
  rw[List.find?_eq_some_iff_getElem]
  exact⟨c,i,hi,rfl,fun b hj=>by rw[d b Ac hj];rfl⟩
 unfold sg;rw[this]
theorem HI{l:List UInt8}(c:∀b (hj:b<ly.length),ly[b].data.toList.isPrefixOf l=false):sg l=(if r5.contains (kM l)then jU else Gh,ba (l.take 1),l.drop 1):=by
 have:ly.find? (fun s=>s.data.toList.isPrefixOf l)=none:=by
  rw[List.find?_eq_none];intro x hx;obtain⟨b,hj,rfl⟩:=T0 hx;rw[c b hj];decide
 unfold sg;rw[this]
theorem iG{s:ByteArray}(h:m<s.size):s.data.toList.drop m=s[m]::s.data.toList.drop (m+1):=by
 rw[T6 (by rw[←hK];exact h),pA h]
theorem drop_nil{s:ByteArray}(h:s.size≤m):s.data.toList.drop m=[]:=Um (by rw[←hK];exact h)
theorem kf:∀b:List UInt8,wd b≤b.length:=by
 have d:∀b:List UInt8,zJ b≤b.length:=by
  intro b;induction b with
  |nil=>exact Tv _
  |cons f c g=>unfold zJ;split<;>simp only[To]<;>omega
 intro b;cases b with
 |nil=>exact Tv _
 |cons f c=>have:=d c;simp only[wd,To];split<;>omega
theorem Ii:∀b:List UInt8,nu b≤b.length
 |[]=>Tv _
 |d::c=>by have:=Ii c;unfold nu;split<;>simp only[To]<;>omega
theorem lZ(b:List UInt8):(ba b).size=b.length:=by unfold ba;rfl
theorem sE(b:List UInt8){n:Nat}(h:n≤b.length):(ba (b.take n)).size=n:=by rw[lZ,Ud];omega
theorem mS{n:Nat}(b:n≤L.length):(!decide (ba (L.take n)=(⟨#[]⟩:ByteArray)))=decide (n≠0):=by
 by_cases h:n=0
 ·subst h;rfl
 have:ba (L.take n)≠bE:=fun e=>h (by have:=TR ByteArray.size e;rw[sE L b]at this;exact this)
 rw[Ti this,Th h];rfl
theorem wH{s:ByteArray}(h:m<s.size)(b:s[m].toNat=32∨s[m].toNat=9∨s[m].toNat=10∨s[m].toNat=13):p6 (s.data.toList.drop m)=p6 (s.data.toList.drop (m+1)):=by
 rw[iG h]
 have:jK s[m]=true:=by
  unfold jK
  simp only[TO,Uh,←TV]
  simp only[UInt8.reduceToNat];omega
 simp[p6,this]
theorem qc{s:ByteArray}(h:m<s.size)(b:¬(s[m].toNat=32∨s[m].toNat=9∨s[m].toNat=10∨s[m].toNat=13)):p6 (s.data.toList.drop m)=s.data.toList.drop m:=by
 rw[iG h]
 have:jK s[m]=false:=by
  rw[←TQ]
  unfold jK
  simp only[TO,Uh,←TV]
  simp only[UInt8.reduceToNat];omega
 simp[p6,this]
theorem qu{s:ByteArray}(e:lx L=(t,sA,M))(b:m≤s.size)(c:s.data.toList.drop m=M)(d:w.heap[k]? =some (.cells (pG s m t sA) 54 (0,0))):At w k s L:=
 ⟨m,b,by rw[e];exact c,by rw[e];exact d⟩
theorem uf{c:UInt8}{n:Nat}(b:n<256):(c.toNat:Int)=(n:Int)↔c=UInt8.ofNat n:=by
 rw[←TV,UInt8.toNat_ofNat_of_lt' (by simpa using b)];omega
theorem ya(c:World):Calls Tryz.prog 81 #[] c (hH c [] fun f g=>∃b,f=.slice (some ⟨b,0,none⟩) ly.length ly.length∧c.heap.size≤b∧hT g (fun j=>j=b) (some ⟨b,0,none⟩) ly.length 1 (strCells ly)):=cY Tryz.func81 fun k=>ac 6<|DL.jq (cs:=(ly.map Value.string).toArray) rfl rfl Tryz.underlying24 Au fun l q d m r o=>have d:=Sp.mk d;have p:=ja o;au 3<|rX k.g ⟨l,rfl,m,p⟩
theorem EK{a:Nat}{s:ByteArray}(d:w.heap[m]? =some (.cells (pG s a t sA) 54 (0,0)))(I:a<s.size)(hs:s.size≤1099511627776):Calls Tryz.prog 45 #[Pt m] w (hH w [m] fun S T=>S=.tuple #[]∧∃v,v≤s.size∧s.data.toList.drop v=(sg (s.data.toList.drop a)).2.2∧T.heap[m]? =some (.cells (pG s v (sg (s.data.toList.drop a)).1 (sg (s.data.toList.drop a)).2.1) 54 (0,0))):=by
 have am:ly.length=14:=rfl
 have an:=hC d
 have ao:=s[a].toNat_lt
 refine cY Tryz.func45 fun o=>ac 2 ?_
 have ap:m<w.heap.size:=hC d
 refine cX (ya _) ?_
 rintro _ U aq _ ⟨J,rfl,ar,y⟩
 have av:m<J:=Ac
 refine au 8<|lE [] U (σ:=Nat) [(3,3),(7,65)] [(0,Pt m),(2,.slice (some ⟨J,0,none⟩) ly.length ly.length)] (fun i=>[(3,.int .i64 (i:Int))]) (fun i W=>i≤ly.length∧∀j (hj:j<ly.length),j<i→ly[j].data.toList.isPrefixOf (s.data.toList.drop a)=false) (fun i=>ly.length - i) (0) ?_ ?_
 ·exact⟨Fr.refl _ _,TE _,fun j hj h=>by omega⟩
 rintro X i j K ⟨u,aw,p⟩
 have o:=o.g.jP u
 have d:=u.il (Gb d)
 have y:=y.fr u (by first|(intro L Z;simp;done)|(intro L Z aa;simp only[Tr,Tp,TD]at aa;omega))
 have M:=u
 have ax:=Fr.refl [] K
 refine ac 6<|jX rfl rfl (fun ab=>?_) (fun ab=>?_)
 ·have hi:i<ly.length:=by omega
  obtain⟨ay,az,ad,a0,q⟩:=y.str hi
  cases ad
  have a1:ly[i].size≤3:=(show∀x∈ly,x.size≤3 by decide+kernel) _ (T2 hi)
  refine au 6<|dF fun a2 a3 a4 r=>aK [0,1,2]<|kL 3 (Gb d) rfl rfl rfl<|aK [4,5,6,7]<|kL 8 (Gb d) rfl rfl rfl<|kT 9 rfl (fun g f=>Y.n8 (c:=((s.size - a:Nat):Int)) rfl rfl Ac Ac Ac)<|aK [10,11]<|kT 12 rfl (fun g f=>Y.index F.ku rfl rfl (rfl) (hi))<|kT 13 rfl (fun g f=>Y.load F.oq rfl (f.cell (Gc q) Bj))<|aK [14]<|DK.if 15 rfl Au Au Au rfl rfl (fun g f=>Y.ge rfl rfl) (fun ae=>?_) (fun ae=>?_)
  ·refine aK [16,17,18,19]<|kL 20 (Gb d) rfl rfl rfl<|aK [21,22,23]<|kL 24 (Gb d) rfl rfl rfl<|aK [25,26,27]<|kL 28 (Gb d) rfl rfl rfl<|aK [29,30]<|kT 31 rfl (fun g f=>Y.index F.ku rfl rfl (rfl) (hi))<|kT 32 rfl (fun g f=>Y.load F.oq rfl (f.cell (Gc q) Bj))<|aK [33]<|kT 34 rfl (fun g f=>Y.mm (a:=(a:Int)) (b:=((ly[i].size:Nat):Int)) (c:=((a+ly[i].size:Nat):Int)) rfl rfl Ac Ac Ac)<|kT 35 rfl (fun g f=>Y.nh Tryz.underlying9 rfl rfl rfl Ac Ac Ac)<|aK [36,37]<|kT 38 rfl (fun g f=>Y.index F.ku rfl rfl (rfl) (hi))<|kT 39 rfl (fun g f=>Y.load F.oq rfl (f.cell (Gc q) Bj))<|DK.if 40 rfl Au Au Au rfl rfl (fun g f=>Y.seq rfl rfl) (fun z=>?_) (fun z=>?_)
   ·refine aK [41]<|kD<|ac 2<|DC.mz [m] F.mixed fun af O a5=>have O:=Sp.mk O;have r:=Fr.refl [m] af;aK [0,1,2]<|kT 3 rfl (fun g f=>Y.index F.ku rfl rfl (rfl) (hi))<|kT 4 rfl (fun g f=>Y.load F.oq rfl (f.cell (Gc q) Bj))<|aK [5,6]<|kT 7 rfl (fun g f=>Y.index F.ku rfl rfl (rfl) (hi))<|kT 8 rfl (fun g f=>Y.load F.oq rfl (f.cell (Gc q) Bj))<|aK [9]<|kP 10<|cX (kx (n:=ly[i].size) (Gb d) Ac hs) ?_
    rintro _ a6 a7 _ ⟨rfl,d⟩
    refine kN r.g<|kD<|ac 1 ?_
    have P:=(xt (s:=s) (x:=ly[i]) (a:=a) Ac).1 z
    exact rY o.g ⟨rfl,a+ly[i].size,Ac,by rw[uC hi P p,←Vk],by rw[uC hi P p];exact d⟩
   refine aK [41]<|kD<|ac 4<|ai ((i+1:Nat):Int) rfl rfl<|au 2 ?_
   have A:ly[i].data.toList.isPrefixOf (s.data.toList.drop a)=false:=by
    rw[←TQ,←xt Ac];exact z
   refine⟨i+1,⟨M.g,hi,fun j hj ag=>?_⟩,by show ly.length - (i+1)<ly.length - i;omega,rfl⟩
   by_cases B:j=i
   ·subst B;exact A
   exact p j hj Ac
  refine aK [16,17,18,19,20,21,22,23,24,25,26,27]<|aK [28,29,30,31,32,33,34,35]<|aK [36,37,38,39,40,41]<|kD<|ac 4<|ai ((i+1:Nat):Int) rfl rfl<|au 2 ?_
  have A:ly[i].data.toList.isPrefixOf (s.data.toList.drop a)=false:=by
   cases xU (s:=s) (x:=ly[i]) (a:=a) Ac with|inl h=>exact h|inr h=>omega
  refine⟨i+1,⟨M.g,hi,fun j hj ag=>?_⟩,by show ly.length - (i+1)<ly.length - i;omega,rfl⟩
  by_cases B:j=i
  ·subst B;exact A
  exact p j hj Ac
 have ah:∀j (hj:j<ly.length),ly[j].data.toList.isPrefixOf (s.data.toList.drop a)=false:=fun j hj=>p j hj Ac
 refine au 3<|ac 10<|lE [] K (σ:=Nat) [(4,5),(66,81)] [(0,Pt m)] (fun b=>[(5,.int .i64 (b:Int)),(4,.string (if(r5.take b).contains s[a]then jU else Gh))]) (fun b W=>b≤20) (fun b=>20 - b) (0) ?_ ?_
 ·exact⟨Fr.refl _ _,TE _⟩
 rintro X b j aj ⟨C,a8⟩
 have o:=o.jP C
 have d:=C.il d
 have Q:=C
 have a9:=Fr.refl [] aj
 refine ac 4<|jX rfl rfl (fun ak=>?_) (fun ak=>?_)
 ·have k:b<r5.length:=by have:r5.length=20:=rfl;omega
  refine au 6<|dF fun aA aB aC r=>aK [0]<|kT 1 rfl (fun g f=>Y.jb (s:=(CP:ByteArray)) (i:=b) Tryz.underlying9 rfl rfl rfl k)<|aK [2,3,4]<|kL 5 (Gb d) rfl rfl rfl<|aK [6,7,8]<|kL 9 (Gb d) rfl rfl rfl<|kT 10 rfl (fun g f=>Y.jb (i:=a) Tryz.underlying9 rfl rfl rfl I) ?_
  have R:(((CP:ByteArray)[b]'k).toNat:Int)=(s[a].toNat:Int)↔s[a]=r5[b]'k:=by rw[←TV];show((r5[b]'k).toNat:Int)=_↔_;omega
  refine DK.if 11 rfl Au Au Au rfl rfl (fun g f=>Y.eq rfl rfl) (fun D=>?_) (fun D=>?_)
  ·refine kD<|ac 6<|ai ((b+1:Nat):Int) rfl rfl<|au 2 ?_
   refine⟨b+1,⟨Q.g,k⟩,by show 20 - (b+1)<20 - b;omega,rfl,?_⟩
   show Value.string _=Value.string _
   congr 1
   have E:r5.take (b+1)=r5.take b++[r5[b]'k]:=by rw[UT,TP k];rfl
   rw[E,List.contains_append]
   have:s[a]=r5[b]'k:=R.1 D
   simp[this]
  refine kD<|ac 4<|ai ((b+1:Nat):Int) rfl rfl<|au 2 ?_
  refine⟨b+1,⟨Q.g,k⟩,by show 20 - (b+1)<20 - b;omega,rfl,?_⟩
  show Value.string _=Value.string _
  congr 1
  have E:r5.take (b+1)=r5.take b++[r5[b]'k]:=by rw[UT,TP k];rfl
  rw[E,List.contains_append]
  have:¬s[a]=r5[b]'k:=fun e=>D (R.2 e)
  simp[this]
 refine au 3<|dR [] 15 fun aD aE aF r=>aG [0,1,2,3,4]<|DG.take 5 rfl Au Au Au Au Au rfl rfl (fun g G=>Y.hY F.oq rfl (G.il (Gb d)) rfl)<|aG [6,7,8]<|DG.take 9 rfl Au Au Au Au Au rfl rfl (fun g G=>Y.hY F.SI rfl (G.il (Gb d)) rfl)<|aG [10,11,12]<|gp 13<|lD (Gb d) rfl rfl<|gn r<|gf 14 rfl (fun g=>Y.mm (c:=((a+1:Nat):Int)) rfl rfl Ac Ac Ac)<|gp 15<|DL.y rfl rfl (Y.nh Tryz.underlying9 rfl rfl rfl Ac Ac Ac)<|gl<|gp 16<|cX (kx (n:=1) (Gb d) Ac hs) ?_
 rintro _ aH aI _ ⟨rfl,d⟩
 refine gl<|gD ?_
 have H:=HI (l:=s.data.toList.drop a) (fun j hj=>ah j hj)
 have al:kM (s.data.toList.drop a)=s[a]:=by rw[iG I];rfl
 rw[al]at H
 refine hD.nf (hH.mk o.g ⟨rfl,a+1,Ac,by rw[H,←Vk],?_⟩)
 rw[H,←nZ]
 rw[show r5.take b=r5 from TK (by have:r5.length=20:=rfl;omega)]at d
 exact d
theorem D.Y.w8{P:Program}{e:Env}{w:World}{x:Operand}{t ty:TypeId}{dst:Option Tmp}{pos:String}{af:Array Edge}{g:Option (Nat×Bool)}{l:List UInt8}{n:Nat}(ht:P.underlying t=some .string)(hx:ev e x=.string (ba (l.take n)))(h:n≤l.length):Y P e ⟨dst,.call ⟨.builtin .len,#[x],#[t]⟩,ty,pos,af,g⟩ w (.int .i64 (n:Int)):=by
 have:=Y.ER (P:=P) (w:=w) (dst:=dst) (ty:=ty) (pos:=pos) (af:=af) (g:=g) ht hx
 rwa[sE _ h]at this
theorem Kv(b:List UInt8):(⟨#[64]⟩++ba b:ByteArray)=ba (64::b):=by
 rw[←iO (⟨#[64]⟩++ba b)]
 unfold ba;simp[Un]
set_option maxHeartbeats 1000000 in
theorem mn{a:Nat}{s k t:ByteArray}(d:w.heap[m]? =some (.cells (pG s a k t) 54 (0,0)))(ah:a≤s.size)(hs:s.size≤1099511627776):Calls Tryz.prog 14 #[Pt m] w (hH w [m] fun aj q=>aj=.tuple #[]∧At q m s (s.data.toList.drop a)):=by
 refine cY Tryz.func14 fun g=>have D:=Fr.refl [m] w;DC.lG (σ:=Nat) (fun b=>[(0,Pt m)]) (fun sg A=>Fr [m] w A∧(fun b A=>b≤s.size∧p6 (s.data.toList.drop b)=p6 (s.data.toList.drop a)∧A.heap[m]? =some (.cells (pG s b k t) 54 (0,0))∧¬ ∃h:b<s.size,s[b].toNat=32∨s[b].toNat=9∨s[b].toNat=10∨s[b].toNat=13) sg A) ?_ ?_
 ·refine ac 1<|lE [m] w (σ:=Nat) [(4,68)] [(0,Pt m)] (fun b=>[]) (fun b A=>b≤s.size∧p6 (s.data.toList.drop b)=p6 (s.data.toList.drop a)∧A.heap[m]? =some (.cells (pG s b k t) 54 (0,0))) (fun b=>s.size - b) (a) ?_ ?_
  ·exact⟨Fr.refl _ _,ah,rfl,d⟩
  rintro ak b E al ⟨G,H,f,d⟩
  have g:=g.tr G
  have D:=D.tr G
  have a9:=G.size
  have I:=G
  have aA:=Fr.refl [m] al
  refine ac 2<|dF fun aB am aC ae=>have aD:=am.size;aK [0,1,2]<|kL 3 (Gb d) rfl rfl rfl<|aK [4,5,6]<|kL 7 (Gb d) rfl rfl rfl<|aK [8]<|DK.if 9 rfl Au Au Au rfl rfl (fun l o=>Y.lt rfl rfl) (fun an=>?_) (fun an=>?_)
  ·have hi:b<s.size:=by omega
   have hu:=s[b].toNat_lt
   refine aK [10,11,12,13]<|kL 14 (Gb d) rfl rfl rfl<|aK [15,16,17]<|kL 18 (Gb d) rfl rfl rfl<|kT 19 rfl (fun l o=>Y.jb (i:=b) Tryz.underlying9 rfl rfl rfl hi)<|DK.if 20 rfl Au Au Au rfl rfl (fun l o=>Y.eq rfl rfl) (fun ao=>?_) (fun ao=>?_)
   ·exact aK [21,22,23,24,25,26,27,28,29,30,31,32]<|aK [33,34,35,36,37,38,39]<|aK [40,41,42,43,44,45,46,47,48,49,50,51]<|aK [52,53,54,55,56,57]<|kD<|ac 7<|lD (Gb d) rfl rfl<|ai ((b+1:Nat):Int) rfl rfl<|au 2<|sc (Gb d) rfl rfl rfl rfl fun aE aF aG r=>have d:=r;au 1 ⟨b+1,⟨I.g,Ac,(wH hi Ac).symm.trans f,d⟩,by show s.size - (b+1)<s.size - b;omega,trivial⟩
   refine aK [21,22,23,24]<|kL 25 (Gb d) rfl rfl rfl<|aK [26,27,28]<|kL 29 (Gb d) rfl rfl rfl<|kT 30 rfl (fun l o=>Y.jb (i:=b) Tryz.underlying9 rfl rfl rfl hi)<|DK.if 31 rfl Au Au Au rfl rfl (fun l o=>Y.eq rfl rfl) (fun ap=>?_) (fun ap=>?_)
   ·exact aK [32,33,34,35,36,37,38,39,40,41,42,43]<|aK [44,45,46,47,48,49]<|aK [50,51,52,53,54,55,56,57]<|kD<|ac 7<|lD (Gb d) rfl rfl<|ai ((b+1:Nat):Int) rfl rfl<|au 2<|sc (Gb d) rfl rfl rfl rfl fun aH aI aJ r=>have d:=r;au 1 ⟨b+1,⟨I.g,Ac,(wH hi Ac).symm.trans f,d⟩,by show s.size - (b+1)<s.size - b;omega,trivial⟩
   refine aK [32,33,34,35,36]<|kL 37 (Gb d) rfl rfl rfl<|aK [38,39,40]<|kL 41 (Gb d) rfl rfl rfl<|kT 42 rfl (fun l o=>Y.jb (i:=b) Tryz.underlying9 rfl rfl rfl hi)<|DK.if 43 rfl Au Au Au rfl rfl (fun l o=>Y.eq rfl rfl) (fun aq=>?_) (fun aq=>?_)
   ·exact aK [44,45,46,47,48,49,50,51,52,53,54,55]<|aK [56,57]<|kD<|ac 7<|lD (Gb d) rfl rfl<|ai ((b+1:Nat):Int) rfl rfl<|au 2<|sc (Gb d) rfl rfl rfl rfl fun aL aM aN r=>have d:=r;au 1 ⟨b+1,⟨I.g,Ac,(wH hi Ac).symm.trans f,d⟩,by show s.size - (b+1)<s.size - b;omega,trivial⟩
   refine aK [44,45,46,47,48]<|kL 49 (Gb d) rfl rfl rfl<|aK [50,51,52]<|kL 53 (Gb d) rfl rfl rfl<|kT 54 rfl (fun l o=>Y.jb (i:=b) Tryz.underlying9 rfl rfl rfl hi)<|DK.if 55 rfl Au Au Au rfl rfl (fun l o=>Y.eq rfl rfl) (fun ar=>?_) (fun ar=>?_)
   ·exact aK [56,57]<|kD<|ac 7<|lD (Gb d) rfl rfl<|ai ((b+1:Nat):Int) rfl rfl<|au 2<|sc (Gb d) rfl rfl rfl rfl fun aO aP aQ r=>have d:=r;au 1 ⟨b+1,⟨I.g,Ac,(wH hi Ac).symm.trans f,d⟩,by show s.size - (b+1)<s.size - b;omega,trivial⟩
   exact aK [56,57]<|kD<|ac 2 ⟨b,rfl,D.g,H,f,(Gb d),by rintro⟨h1,h2⟩;omega⟩
  exact aK [10,11,12,13,14,15,16,17,18,19,20,21]<|aK [22,23,24,25,26,27,28,29]<|aK [30,31,32,33,34,35,36,37,38,39,40,41]<|aK [42,43,44,45,46,47,48,49,50]<|aK [51,52,53,54,55,56,57]<|kD<|ac 2 ⟨b,rfl,D.g,H,f,(Gb d),by rintro⟨h1,h2⟩;omega⟩
 rintro b ak aR ⟨af,H,f,r,av⟩
 have g:=g.tr af
 have aS:=af.size
 have d:=r
 refine ac 2<|dF fun aT aw aU ae=>have aV:=aw.size;aK [0,1,2]<|kL 3 (Gb d) rfl rfl rfl<|aK [4,5,6]<|kL 7 (Gb d) rfl rfl rfl<|aK [8]<|DK.if 9 rfl Au Au Au rfl rfl (fun l o=>Y.eq rfl rfl) (fun ax=>?_) (fun ax=>?_)
 ·refine kD<|ac 4<|bD #[.string v8,.string bE]<|au 2<|DL.mK (new:=pG s b v8 bE) rfl F.ME rfl rfl rfl Au (Gb d) rfl rfl fun aW M aX d=>have M:=Sp.mk M;have aY:=M.size;au 2 ?_
  have e:lx (s.data.toList.drop a)=(v8,bE,[]):=by rw[show lx (s.data.toList.drop a)=p5 (p6 (s.data.toList.drop a))from rfl,←f,drop_nil Ac];rfl
  exact rY g.g ⟨rfl,qu e H (drop_nil Ac) d⟩
 have hi:b<s.size:=by omega
 have hu:=s[b].toNat_lt
 have J:=kf (s.data.toList.drop b)
 have hle01:=kf (s.data.toList.drop (b+1))
 have ay:=kf (s.data.toList.drop b)
 have az:=kf (s.data.toList.drop (b+1))
 rw[iH]at ay az
 have v:¬(s[b].toNat=32∨s[b].toNat=9∨s[b].toNat=10∨s[b].toNat=13):=fun h=>av ⟨hi,h⟩
 refine kD<|ac 3<|dF fun aZ a0 bb ae=>have bc:=a0.size;aK [0,1,2]<|kL 3 (Gb d) rfl rfl rfl<|aK [4,5,6]<|kL 7 (Gb d) rfl rfl rfl<|kT 8 rfl (fun l o=>Y.jb (i:=b) Tryz.underlying9 rfl rfl rfl hi)<|aK [9]<|kD<|ac 6<|lD (Gb d) rfl rfl<|cX (uo (Gb d) Ac hs) ?_
 rintro _ bd be bf rfl
 refine au 6<|DL.u5 rfl rfl (Y.vK rfl rfl) (fun B=>?_) (fun B=>?_)
 ·have hw0:wd (s.data.toList.drop b)≠0:=by rw[mS J]at B;exact T5 B
  refine au 7<|DL.y rfl rfl (Y.w8 Tryz.underlying9 rfl J)<|cX (kx (n:=wd (s.data.toList.drop b)) (Gb d) (by rw[iH]at J;omega) hs) ?_
  rintro _ bg bh bi ⟨rfl,d⟩
  refine au 2 ?_
  have j:=kf (s.data.toList.drop b)
  have u:=kf (s.data.toList.drop (b+1))
  rw[iH]at j u
  have e:lx (s.data.toList.drop a)=(iY,ba ((s.data.toList.drop b).take (wd (s.data.toList.drop b))),(s.data.toList.drop b).drop (wd (s.data.toList.drop b))):=by
   rw[show lx (s.data.toList.drop a)=p5 (p6 (s.data.toList.drop a))from rfl,←f,qc hi v,iG hi]
   unfold p5
   simp only[←iG hi]
   rw[TU hw0]
  exact rY g.g ⟨rfl,qu e Ac AZ d⟩
 have hw0:wd (s.data.toList.drop b)=0:=by rw[mS J]at B;exact Decidable.not_not.1 (of_decide_eq_false B)
 refine au 9<|lD (Gb d) rfl rfl<|ai ((b+1:Nat):Int) rfl rfl<|cX (uo (Gb d) Ac hs) ?_
 rintro _ K bj bk rfl
 refine au 6<|jE rfl rfl (fun O=>?_) (fun O=>?_)
 ·refine au 2 ?_
  have y:s[b]=34:=(uf (c:=s[b]) (n:=34) Ah).1 O
  refine ac 3<|cX (kx (n:=1) (Gb d) Ac hs) ?_
  rintro _ bl bm bn ⟨rfl,d⟩
  refine au 1 ?_
  have j:=kf (s.data.toList.drop b)
  have u:=kf (s.data.toList.drop (b+1))
  rw[iH]at j u
  have e:lx (s.data.toList.drop a)=(kU,bE,(s.data.toList.drop (b+1))):=by
   rw[show lx (s.data.toList.drop a)=p5 (p6 (s.data.toList.drop a))from rfl,←f,qc hi v,iG hi]
   unfold p5
   simp only[←iG hi]
   rw[TI B7]
   rw[TU y]
  exact rE g.g ⟨rfl,qu e Ac AZ d⟩
 refine au 2 ?_
 have y:¬s[b]=34:=fun e=>O ((uf (c:=s[b]) (n:=34) Ah).2 e)
 refine ac 3<|DL.cut 6 [(120,125)] 125 (.bool (decide (s[b]=46∧wd (s.data.toList.drop (b+1))≠0))) (fun q=>q=K) rfl ?_ ?_
 ·refine au 1<|jE rfl rfl (fun P=>?_) (fun P=>?_)
  ·refine au 2<|DL.u5 rfl rfl (Y.vK rfl rfl) (fun Q=>?_) (fun Q=>?_)
   ·exact au 1<|DL.nil ⟨by exact TR Value.bool (Th (p:=s[b]=46∧wd (s.data.toList.drop (b+1))≠0) ⟨(uf (c:=s[b]) (n:=46) Ah).1 P,T5 ((mS (kf _)).symm.trans Q)⟩).symm,rfl⟩
   exact au 1<|DL.nil ⟨by exact TR Value.bool (Ti (fun h:s[b]=46∧wd (s.data.toList.drop (b+1))≠0=>of_decide_eq_false ((mS (kf _)).symm.trans Q) h.2)).symm,rfl⟩
  exact au 4<|DL.nil ⟨by exact TR Value.bool (Ti (fun h:s[b]=46∧wd (s.data.toList.drop (b+1))≠0=>P ((uf (c:=s[b]) (n:=46) Ah).2 h.1))).symm,rfl⟩
 rintro E _ z;obtain rfl:=z.symm
 refine au 2<|DC.cond rfl (fun R=>?_) (fun R=>?_)
 ·obtain⟨a1,C⟩:=T5 R
  refine ac 4<|DL.y rfl rfl (Y.w8 Tryz.underlying9 rfl hle01)<|ai ((wd (s.data.toList.drop (b+1))+1:Nat):Int) rfl rfl<|cX (kx (n:=wd (s.data.toList.drop (b+1))+1) (Gb d) B8 hs) ?_
  rintro _ bo bp bq ⟨rfl,d⟩
  refine au 1 ?_
  have j:=kf (s.data.toList.drop b)
  have u:=kf (s.data.toList.drop (b+1))
  rw[iH]at j u
  have e:lx (s.data.toList.drop a)=(kB,ba ((s.data.toList.drop (b+1)).take (wd (s.data.toList.drop (b+1)))),(s.data.toList.drop (b+1)).drop (wd (s.data.toList.drop (b+1)))):=by
   rw[show lx (s.data.toList.drop a)=p5 (p6 (s.data.toList.drop a))from rfl,←f,qc hi v,iG hi]
   unfold p5
   simp only[←iG hi]
   rw[TI B7]
   rw[TI y,TU ⟨a1,C⟩]
  exact rE g.g ⟨rfl,qu e Ac AZ d⟩
 have L:=of_decide_eq_false R
 refine ac 2<|DL.cut 6 [(133,138)] 138 (.bool (decide (s[b]=36∧wd (s.data.toList.drop (b+1))≠0))) (fun q=>q=K) rfl ?_ ?_
 ·refine au 1<|jE rfl rfl (fun S=>?_) (fun S=>?_)
  ·refine au 2<|DL.u5 rfl rfl (Y.vK rfl rfl) (fun T=>?_) (fun T=>?_)
   ·exact au 1<|DL.nil ⟨by exact TR Value.bool (Th (p:=s[b]=36∧wd (s.data.toList.drop (b+1))≠0) ⟨(uf (c:=s[b]) (n:=36) Ah).1 S,T5 ((mS (kf _)).symm.trans T)⟩).symm,rfl⟩
   exact au 1<|DL.nil ⟨by exact TR Value.bool (Ti (fun h:s[b]=36∧wd (s.data.toList.drop (b+1))≠0=>of_decide_eq_false ((mS (kf _)).symm.trans T) h.2)).symm,rfl⟩
  exact au 4<|DL.nil ⟨by exact TR Value.bool (Ti (fun h:s[b]=36∧wd (s.data.toList.drop (b+1))≠0=>S ((uf (c:=s[b]) (n:=36) Ah).2 h.1))).symm,rfl⟩
 rintro E _ z;obtain rfl:=z.symm
 refine au 2<|DC.cond rfl (fun U=>?_) (fun U=>?_)
 ·obtain⟨a2,C⟩:=T5 U
  refine ac 4<|DL.y rfl rfl (Y.w8 Tryz.underlying9 rfl hle01)<|ai ((wd (s.data.toList.drop (b+1))+1:Nat):Int) rfl rfl<|cX (kx (n:=wd (s.data.toList.drop (b+1))+1) (Gb d) B8 hs) ?_
  rintro _ br bs bt ⟨rfl,d⟩
  refine au 1 ?_
  have j:=kf (s.data.toList.drop b)
  have u:=kf (s.data.toList.drop (b+1))
  rw[iH]at j u
  have e:lx (s.data.toList.drop a)=(lP,ba ((s.data.toList.drop (b+1)).take (wd (s.data.toList.drop (b+1)))),(s.data.toList.drop (b+1)).drop (wd (s.data.toList.drop (b+1)))):=by
   rw[show lx (s.data.toList.drop a)=p5 (p6 (s.data.toList.drop a))from rfl,←f,qc hi v,iG hi]
   unfold p5
   simp only[←iG hi]
   rw[TI B7]
   rw[TI y,TI L,TU ⟨a2,C⟩]
  exact rE g.g ⟨rfl,qu e Ac AZ d⟩
 have W:=of_decide_eq_false U
 refine ac 2<|DL.cut 6 [(146,151)] 151 (.bool (decide (s[b]=64∧wd (s.data.toList.drop (b+1))≠0))) (fun q=>q=K) rfl ?_ ?_
 ·refine au 1<|jE rfl rfl (fun X=>?_) (fun X=>?_)
  ·refine au 2<|DL.u5 rfl rfl (Y.vK rfl rfl) (fun Z=>?_) (fun Z=>?_)
   ·exact au 1<|DL.nil ⟨by exact TR Value.bool (Th (p:=s[b]=64∧wd (s.data.toList.drop (b+1))≠0) ⟨(uf (c:=s[b]) (n:=64) Ah).1 X,T5 ((mS (kf _)).symm.trans Z)⟩).symm,rfl⟩
   exact au 1<|DL.nil ⟨by exact TR Value.bool (Ti (fun h:s[b]=64∧wd (s.data.toList.drop (b+1))≠0=>of_decide_eq_false ((mS (kf _)).symm.trans Z) h.2)).symm,rfl⟩
  exact au 4<|DL.nil ⟨by exact TR Value.bool (Ti (fun h:s[b]=64∧wd (s.data.toList.drop (b+1))≠0=>X ((uf (c:=s[b]) (n:=64) Ah).2 h.1))).symm,rfl⟩
 rintro E _ z;obtain rfl:=z.symm
 refine au 2<|DC.cond rfl (fun aa=>?_) (fun aa=>?_)
 ·obtain⟨a3,C⟩:=T5 aa
  refine ac 3<|DL.y rfl rfl (Y.cat (a:=⟨#[64]⟩) (b:=ba ((s.data.toList.drop (b+1)).take (wd (s.data.toList.drop (b+1))))) rfl rfl (by rw[sE _ hle01,show(⟨#[64]⟩:ByteArray).size=1 from rfl];omega))<|au 1<|DL.y rfl rfl (Y.w8 Tryz.underlying9 rfl hle01)<|ai ((wd (s.data.toList.drop (b+1))+1:Nat):Int) rfl rfl<|cX (kx (n:=wd (s.data.toList.drop (b+1))+1) (Gb d) B8 hs) ?_
  rintro _ bu bv bw ⟨rfl,d⟩
  refine au 1 ?_
  rw[Kv]at d
  have j:=kf (s.data.toList.drop b)
  have u:=kf (s.data.toList.drop (b+1))
  rw[iH]at j u
  have e:lx (s.data.toList.drop a)=(lu,ba (64::(s.data.toList.drop (b+1)).take (wd (s.data.toList.drop (b+1)))),(s.data.toList.drop (b+1)).drop (wd (s.data.toList.drop (b+1)))):=by
   rw[show lx (s.data.toList.drop a)=p5 (p6 (s.data.toList.drop a))from rfl,←f,qc hi v,iG hi]
   unfold p5
   simp only[←iG hi]
   rw[TI B7]
   rw[TI y,TI L,TI W,TU ⟨a3,C⟩]
  exact rE g.g ⟨rfl,qu e Ac AZ d⟩
 have ag:=of_decide_eq_false aa
 refine ac 2<|DL.cut 6 [(160,165)] 165 (.bool (decide (p4 s[b]=true))) (fun q=>q=K) rfl ?_ ?_
 ·refine au 1<|jH rfl rfl (fun a4=>?_) (fun a4=>?_)
  ·refine au 2<|jM rfl rfl (fun a5=>?_) (fun a5=>?_)
   ·exact au 1<|DL.nil ⟨by exact TR Value.bool (Th (p:=p4 s[b]=true) ((lX _).2 Ac)).symm,rfl⟩
   exact au 1<|DL.nil ⟨by exact TR Value.bool (Ti (fun h:p4 s[b]=true=>by rw[lX]at h;omega)).symm,rfl⟩
  exact au 4<|DL.nil ⟨by exact TR Value.bool (Ti (fun h:p4 s[b]=true=>by rw[lX]at h;omega)).symm,rfl⟩
 rintro E _ z;obtain rfl:=z.symm
 refine au 2<|DC.cond rfl (fun ab=>?_) (fun ab=>?_)
 ·have ad:=T5 ab
  refine ac 2<|cX (tY (Gb d) Ac hs) ?_
  rintro _ bx bz b0 ⟨rfl,d⟩
  refine au 1 ?_
  have j:=Ii (s.data.toList.drop b)
  rw[iH]at j
  have e:lx (s.data.toList.drop a)=(vf,ba ((s.data.toList.drop b).take (nu (s.data.toList.drop b))),(s.data.toList.drop b).drop (nu (s.data.toList.drop b))):=by
   rw[show lx (s.data.toList.drop a)=p5 (p6 (s.data.toList.drop a))from rfl,←f,qc hi v,iG hi]
   unfold p5
   simp only[←iG hi]
   rw[TI B7]
   rw[TI y,TI L,TI W,TI ag,TU ad]
  exact rE g.g ⟨rfl,qu e Ac AZ d⟩
 have ad:=of_decide_eq_false ab
 refine ac 2<|cX (EK (Gb d) hi hs) ?_
 rintro _ b1 b2 b3 ⟨rfl,a6,a7,a8,d⟩
 refine au 1 ?_
 have e:lx (s.data.toList.drop a)=sg (s.data.toList.drop b):=by
  rw[show lx (s.data.toList.drop a)=p5 (p6 (s.data.toList.drop a))from rfl,←f,qc hi v,iG hi]
  unfold p5
  simp only[←iG hi]
  rw[TI B7]
  rw[TI y,TI L,TI W,TI ag,TI ad]
 exact rE g.g ⟨rfl,a6,a7,by rw[e];exact a8,by rw[e];exact d⟩
theorem jf{s:ByteArray}(hs:s.size≤1099511627776)(b:At w m s L):Calls Tryz.prog 14 #[Pt m] w (hH w [m] fun c d=>c=.tuple #[]∧At d m s (lx L).2.2):=by
 obtain⟨a,f,g,j⟩:=b
 rw[←g]
 exact mn j f hs
theorem jD{s x:ByteArray}(h:iE L x)(hs:s.size≤1099511627776)(b:At w m s L):Calls Tryz.prog 49 #[Pt m,.string x] w (hH w [m] fun g j=>g=.bool true∧At j m s (lx L).2.2):=by
 obtain⟨hk,ht⟩:((lx L).1=jU∨(lx L).1=iY)∧(lx L).2.1=x:=by simpa only[iE,Tx,TO,TA]using h
 refine cY Tryz.func49 fun d=>ac 11 ?_
 obtain⟨a,k,l,c⟩:=id b
 refine lD c rfl rfl<|jS rfl rfl (fun f=>?_) (fun f=>?_)
 ·refine au 13<|lD c rfl rfl<|au 1<|sT ht rfl rfl<|au 5<|lD c rfl rfl<|au 7<|cX (jf hs b) ?_
  rintro _ o p q ⟨rfl,b⟩
  exact au 6<|rX d.g ⟨rfl,b⟩
 refine au 5<|lD c rfl rfl<|sT (hk.resolve_left f) rfl rfl<|au 6<|lD c rfl rfl<|au 1<|sT ht rfl rfl<|au 5<|lD c rfl rfl<|au 7<|cX (jf hs b) ?_
 rintro _ r t u ⟨rfl,b⟩
 exact au 6<|rX d.g ⟨rfl,b⟩
theorem jd{s x:ByteArray}(h:iE L x=false)(g:At w m s L):Calls Tryz.prog 49 #[Pt m,.string x] w (hH w [] fun j k=>j=.bool false):=by
 refine cY Tryz.func49 fun c=>ac 11 ?_
 obtain⟨a,l,o,b⟩:=id g
 refine lD b rfl rfl<|jS rfl rfl (fun d=>?_) (fun d=>?_)
 ·exact au 13<|lD b rfl rfl<|au 1<|sX (fun e=>by unfold iE at h;rw[Th e,Th d]at h;simp at h) rfl rfl<|au 16<|rX c rfl
 refine au 5<|lD b rfl rfl<|jS rfl rfl (fun f=>?_) (fun f=>?_)
 ·exact au 6<|lD b rfl rfl<|au 1<|sX (fun e=>by unfold iE at h;rw[Th e,Th f]at h;simp at h) rfl rfl<|au 16<|rX c rfl
 exact au 25<|rX c rfl
theorem im{s x:ByteArray}(h:iE L x)(hs:s.size≤1099511627776)(b:At w m s L):Calls Tryz.prog 83 #[Pt m,.string x] w (hH w [m] fun c d=>c=.tuple #[]∧At d m s (lx L).2.2):=by
 refine cY Tryz.func83 fun f=>ac 4<|cX (jD h hs b) ?_
 rintro _ g j k ⟨rfl,b⟩
 exact au 4<|rE f.g ⟨rfl,b⟩
theorem kV{s x:ByteArray}(e:lx L=(lP,x,M))(hs:s.size≤1099511627776)(c:At w m s L):Calls Tryz.prog 146 #[Pt m] w (hH w [m] fun f g=>f=.string x∧At g m s M):=by
 refine cY Tryz.func146 fun j=>ac 10 ?_
 obtain⟨a,l,o,b⟩:=c.ob e
 refine lD b rfl rfl<|au 8<|lD b rfl rfl<|au 5<|lD b rfl rfl<|au 4<|DL.vy (cs':=(pG s a lP x)) rfl F.Ov F.Ps rfl rfl rfl b (TM rfl) rfl fun p d q b=>have d:=Sp.mk d;au 4<|cX (mn (k:=lP) (t:=x) b l hs) ?_
 rintro _ r u v ⟨rfl,c⟩
 rw[o]at c
 exact au 7<|rX j.g ⟨rfl,c⟩
theorem Fy{s x:ByteArray}(e:lx L=(lP,x,M))(hx:x.size≤1099511627776)(hs:s.size≤1099511627776)(c:At w m s L):Calls Tryz.prog 82 #[Pt m] w (hH w [m] fun f g=>f=.string (Cx++x)∧At g m s M):=by
 refine cY Tryz.func82 fun j=>ac 10 ?_
 obtain⟨a,k,l,d⟩:=c.ob e
 refine lD d rfl rfl<|au 9<|lD d rfl rfl<|au 10<|DL.y rfl rfl (Y.cat (a:=Cx) (b:=x) rfl rfl A0)<|au 5<|cX (jf hs c) ?_
 rintro _ o p q ⟨rfl,c⟩
 rw[e]at c
 exact au 7<|rX j.g ⟨rfl,c⟩
theorem FL{s x:ByteArray}(e:lx L=(iY,x,M))(hx:x.size≤1099511627776)(hs:s.size≤1099511627776)(b:At w m s L):Calls Tryz.prog 82 #[Pt m] w (hH w [m] fun d f=>d=.string x∧At f m s M):=by
 refine cY Tryz.func82 fun g=>ac 10 ?_
 obtain⟨a,j,k,c⟩:=b.ob e
 refine lD c rfl rfl<|au 9<|lD c rfl rfl<|au 18<|cX (jf hs b) ?_
 rintro _ l o p ⟨rfl,b⟩
 rw[e]at b
 exact au 7<|rX g.g ⟨rfl,b⟩
def iW:Nat→List ByteArray
 |0=>[⟨#[61]⟩,⟨#[124,61]⟩,⟨#[43,61]⟩,⟨#[45,61]⟩,⟨#[42,61]⟩,⟨#[47,61]⟩,⟨#[37,61]⟩,⟨#[47,47,61]⟩]
 |1=>[⟨#[111,114]⟩]
 |2=>[⟨#[97,110,100]⟩]
 |3=>[⟨#[61,61]⟩,⟨#[33,61]⟩,⟨#[60]⟩,⟨#[60,61]⟩,⟨#[62]⟩,⟨#[62,61]⟩]
 |4=>[⟨#[43]⟩,⟨#[45]⟩]
 |_=>[⟨#[42]⟩,⟨#[47]⟩,⟨#[37]⟩]
theorem ki(n:Nat)(l:World):Calls Tryz.prog 130 #[.int .i64 (n:Int)] l (hH l [] fun u v=>∃c,u=.slice (some ⟨c,0,none⟩) (iW n).length (iW n).length∧hT v (fun w=>w=c) (some ⟨c,0,none⟩) (iW n).length 1 (strCells (iW n))):=by
 refine cY Tryz.func130 fun b=>ac 12<|jE rfl rfl (fun m=>?_) (fun m=>?_)
 ·refine au 5<|DL.jq (cs:=((iW 0).map Value.string).toArray) rfl rfl Tryz.underlying24 Au fun y S d T U z=>have d:=Sp.mk d;have W:=d.size;have A:=ja z;au 3 ?_
  obtain rfl:n=0:=by omega
  exact rX b.g ⟨y,rfl,A⟩
 refine au 5<|jE rfl rfl (fun o=>?_) (fun o=>?_)
 ·refine au 5<|DL.jq (cs:=((iW 1).map Value.string).toArray) rfl rfl Tryz.underlying24 Au fun B X f Y Z C=>have f:=Sp.mk f;have aa:=f.size;have D:=ja C;au 3 ?_
  obtain rfl:n=1:=by omega
  exact rX b.g ⟨B,rfl,D⟩
 refine au 5<|jE rfl rfl (fun p=>?_) (fun p=>?_)
 ·refine au 5<|DL.jq (cs:=((iW 2).map Value.string).toArray) rfl rfl Tryz.underlying24 Au fun E ab g ad ae F=>have g:=Sp.mk g;have af:=g.size;have G:=ja F;au 3 ?_
  obtain rfl:n=2:=by omega
  exact rX b.g ⟨E,rfl,G⟩
 refine au 5<|jE rfl rfl (fun q=>?_) (fun q=>?_)
 ·refine au 5<|DL.jq (cs:=((iW 3).map Value.string).toArray) rfl rfl Tryz.underlying24 Au fun H ag j ah ai I=>have j:=Sp.mk j;have aj:=j.size;have J:=ja I;au 3 ?_
  obtain rfl:n=3:=by omega
  exact rX b.g ⟨H,rfl,J⟩
 refine au 5<|jE rfl rfl (fun r=>?_) (fun r=>?_)
 ·refine au 5<|DL.jq (cs:=((iW 4).map Value.string).toArray) rfl rfl Tryz.underlying24 Au fun K ak k al am L=>have k:=Sp.mk k;have an:=k.size;have M:=ja L;au 3 ?_
  obtain rfl:n=4:=by omega
  exact rX b.g ⟨K,rfl,M⟩
 refine au 6<|DL.jq (cs:=((iW 5).map Value.string).toArray) rfl rfl Tryz.underlying24 Au fun O ao t ap aq P=>have t:=Sp.mk t;have Q:=ja P;au 3 ?_
 have R:iW n=iW 5:=by match n,m,o,p,q,r with|0,h,_,_,_,_=>exact Tu rfl h|1,_,h,_,_,_=>exact Tu rfl h|2,_,_,h,_,_=>exact Tu rfl h|3,_,_,_,h,_=>exact Tu rfl h|4,_,_,_,_,h=>exact Tu rfl h|n+5,_,_,_,_,_=>rfl
 rw[R]
 exact rX b.g ⟨O,rfl,Q⟩
theorem vZ(h1:RQ 48 [] L q M)(o:iE M CI=false)(hnd:iE L Cs=false):RQ 15 [] L q M:=by
 intro p I s hs c
 have J:=c.lt
 have K:=c.lt
 refine cY Tryz.func15 fun j=>ac 2<|al F.z31 rfl fun r t O P Q f=>au 7 ?_
 obtain⟨a,R,S,k⟩:=id c.g
 refine lD k rfl rfl<|au 10<|lD k rfl rfl<|jS rfl rfl (fun u=>?_) (fun u=>?_)
 ·refine au 5<|lD k rfl rfl<|sX (fun e=>by unfold iE at hnd;rw[Th u,Th e]at hnd;simp at hnd) rfl rfl<|au 7 ?_
  obtain⟨v,g⟩:=nm t
  have w:=j.g.le g
  refine cX (h1 _ _ _ hs c.g) ?_
  rintro _ y T U ⟨z,rfl,c,b⟩
  obtain⟨l,m,A⟩:=nl y
  rw[←g,←m]at b
  have b:=b.up (D':=(DV [r] p.heap.size l)) Ad
  refine al F.z31 rfl fun B W X C D d=>sA d rfl rfl rfl b.hA b.one fun Y Z aa E=>have d:=E;au 5<|cX (jd o c.g) ?_
  rintro _ ab ad ae rfl
  exact au 5<|lw (Gb d) rfl b.hA<|sA (Gb f) rfl rfl rfl b.hA b.one fun af ag ah G=>have f:=G;au 2<|hD.hZ rfl (by rw[b.hA];exact F.hN) (hB.hE f) (hH.mk j.g ⟨_,rfl,c.g,b.g.up oX⟩)
 refine au 14 ?_
 obtain⟨v,g⟩:=nm t
 have w:=j.g.le g
 refine cX (h1 _ _ _ hs c.g) ?_
 rintro _ H ai aj ⟨z,rfl,c,b⟩
 obtain⟨l,m,A⟩:=nl H
 rw[←g,←m]at b
 have b:=b.up (D':=(DV [r] p.heap.size l)) Ad
 refine al F.z31 rfl fun B ak am C D d=>sA d rfl rfl rfl b.hA b.one fun an ao ap d=>au 5<|cX (jd o c.g) ?_
 rintro _ aq ar av rfl
 exact au 5<|lw (Gb d) rfl b.hA<|sA (Gb f) rfl rfl rfl b.hA b.one fun aw ax ay f=>au 2<|hD.hZ rfl (by rw[b.hA];exact F.hN) (hB.hE f) (hH.mk j.g ⟨_,rfl,c.g,b.g.up oX⟩)
theorem KL(h1:RQ 48 [] L q M)(ht:iE M CI)(h2:RQ 15 [] (lx M).2.2 p lA)(hnd:iE L Cs=false):RQ 15 [] L (.mk CI ⟨#[]⟩ V0 [] [q,p] [] []) lA:=by
 intro g J s hs b
 have ar:=b.lt
 have av:=b.lt
 refine cY Tryz.func15 fun k=>ac 2<|al F.z31 rfl fun l K aw ax ay m=>au 7 ?_
 obtain⟨a,az,a0,u⟩:=id b.g
 refine lD u rfl rfl<|au 10<|lD u rfl rfl<|jS rfl rfl (fun O=>?_) (fun O=>?_)
 ·refine au 5<|lD u rfl rfl<|sX (fun e=>by unfold iE at hnd;rw[Th O,Th e]at hnd;simp at hnd) rfl rfl<|au 7 ?_
  obtain⟨R,o⟩:=nm K
  have S:=k.g.le o
  refine cX (h1 _ _ _ hs b.g) ?_
  rintro _ T a1 a2 ⟨v,rfl,b,c⟩
  obtain⟨w,y,U⟩:=nl T
  rw[←o,←y]at c
  have c:=c.up (D':=(DV [l] g.heap.size w)) Ad
  refine al F.z31 rfl fun r a3 a4 W X j=>sA j rfl rfl rfl c.hA c.one fun a5 a6 a7 j=>au 5<|cX (jD ht hs b.g) ?_
  rintro _ a8 a9 aA ⟨rfl,b⟩
  refine au 3<|dR [J] 3 fun Z aa aB z=>have aC:=aa.size;gT 0 rfl (fun ab A=>Y.jl rfl (A.hO (Gb j) AK) (by rw[c.hA];exact F.hN))<|aG [1]<|gp 2 ?_
  obtain⟨ad,t⟩:=nm Z
  have ae:=k.g.le t
  refine cX (h2 _ _ _ hs b.g) ?_
  rintro _ af aD aE ⟨B,rfl,b,d⟩
  obtain⟨C,E,ag⟩:=nl af
  rw[←t,←E]at d
  have d:=d.up (D':=(DV [l,r] g.heap.size C)) Ad
  refine gn z.g<|gp 3<|bN (css:=[v,B]) F.ic rfl rfl (by intro ah hc;simp only[Tr,Tp,TD]at hc;rcases hc with rfl|rfl;exact c.hA;exact d.hA) fun G aF aH ai aj H=>gl<|gp 4<|cX (jA _ _ _ _ _) ?_
  rintro _ P aI aJ rfl
  obtain⟨I,ak,am⟩:=nl P
  have f:=RN.yF (w:=P) (D:=(DV [l,r] g.heap.size I)) (op:=CI) (text:=⟨#[]⟩) (cap:=2) Ap Ap (Gb H) Ar (c.g.up Af) (d.g.up Af) Ah
  exact gl<|gp 5<|sA (cs:=#[.string CI,Zs,Zi,Zi,Zs,Zl,Zl,Zl,.slice (some ⟨G,0,none⟩) 2 2,Zl,Zl,Zl]) (Gb m) rfl rfl rfl f.hA f.one fun aK aL aM m=>gl<|gD<|ac 1<|hD.hZ rfl (by rw[f.hA];exact F.hN) (hB.hE m) (hH.mk k.g ⟨_,rfl,b.g,f.g.up oX⟩)
 refine au 14 ?_
 obtain⟨R,o⟩:=nm K
 have S:=k.g.le o
 refine cX (h1 _ _ _ hs b.g) ?_
 rintro _ an aN aO ⟨v,rfl,b,c⟩
 obtain⟨w,y,U⟩:=nl an
 rw[←o,←y]at c
 have c:=c.up (D':=(DV [l] g.heap.size w)) Ad
 refine al F.z31 rfl fun r aP aQ W X j=>sA j rfl rfl rfl c.hA c.one fun aR aS aT j=>au 5<|cX (jD ht hs b.g) ?_
 rintro _ aU aV aW ⟨rfl,b⟩
 refine au 3<|dR [J] 3 fun ao ap aX z=>have aY:=ap.size;gT 0 rfl (fun ab A=>Y.jl rfl (A.hO (Gb j) AK) (by rw[c.hA];exact F.hN))<|aG [1]<|gp 2 ?_
 obtain⟨ad,t⟩:=nm ao
 have ae:=k.g.le t
 refine cX (h2 _ _ _ hs b.g) ?_
 rintro _ aq aZ ba ⟨B,rfl,b,d⟩
 obtain⟨C,E,ag⟩:=nl aq
 rw[←t,←E]at d
 have d:=d.up (D':=(DV [l,r] g.heap.size C)) Ad
 refine gn z.g<|gp 3<|bN (css:=[v,B]) F.ic rfl rfl (by intro ah hc;simp only[Tr,Tp,TD]at hc;rcases hc with rfl|rfl;exact c.hA;exact d.hA) fun G bb bc ai aj H=>gl<|gp 4<|cX (jA _ _ _ _ _) ?_
 rintro _ Q bd be rfl
 obtain⟨I,ak,am⟩:=nl Q
 have f:=RN.yF (w:=Q) (D:=(DV [l,r] g.heap.size I)) (op:=CI) (text:=⟨#[]⟩) (cap:=2) Ap Ap (Gb H) Ar (c.g.up Af) (d.g.up Af) Ah
 exact gl<|gp 5<|sA (cs:=#[.string CI,Zs,Zi,Zi,Zs,Zl,Zl,Zl,.slice (some ⟨G,0,none⟩) 2 2,Zl,Zl,Zl]) (Gb m) rfl rfl rfl f.hA f.one fun bf bg bh m=>gl<|gD<|ac 1<|hD.hZ rfl (by rw[f.hA];exact F.hN) (hB.hE m) (hH.mk k.g ⟨_,rfl,b.g,f.g.up oX⟩)
theorem Jx(e:lx L=(iY,Cs,lA))(h1:RQ 47 [] L q M):RQ 15 [] L q M:=by
 intro k t s hs c
 have u:=c.lt
 have v:=c.lt
 refine cY Tryz.func15 fun g=>ac 2<|al F.z31 rfl fun l m w y z d=>au 7 ?_
 obtain⟨a,A,B,f⟩:=c.g.ob e
 refine lD f rfl rfl<|au 10<|lD f rfl rfl<|au 6<|lD f rfl rfl<|au 7 ?_
 obtain⟨C,j⟩:=nm m
 have D:=g.g.le j
 refine cX (h1 _ _ _ hs c.g) ?_
 rintro _ o E G ⟨H,rfl,c,b⟩
 obtain⟨p,r,I⟩:=nl o
 rw[←j,←r]at b
 have b:=b.up (D':=(DV [l] k.heap.size p)) Ad
 exact sA (Gb d) rfl rfl rfl b.hA b.one fun J K O d=>au 2<|hD.hZ rfl (by rw[b.hA];exact F.hN) (hB.hE d) (hH.mk g.g ⟨_,rfl,c.g,b.g.up oX⟩)
theorem xP(h1:kO 0 118 [Zi] M q L)(k:iE L CY=false):RQ 84 [] M q L:=by
 intro l u s hs c
 have v:=c.lt
 have w:=c.lt
 refine cY Tryz.func84 fun g=>ac 2<|al F.z31 rfl fun m o y z A d=>au 4 ?_
 obtain⟨B,j⟩:=nm o
 have C:=g.g.le j
 refine cX (h1 _ _ _ hs c.g) ?_
 rintro _ p D E ⟨G,rfl,c,b⟩
 obtain⟨r,t,H⟩:=nl p
 rw[←j,←t]at b
 have b:=b.up (D':=(DV [m] l.heap.size r)) Ad
 refine al F.z31 rfl fun I J K O P f=>sA f rfl rfl rfl b.hA b.one fun Q R S f=>au 5<|cX (jd k c.g) ?_
 rintro _ T U W rfl
 exact au 5<|lw (Gb f) rfl b.hA<|sA (Gb d) rfl rfl rfl b.hA b.one fun X Y Z d=>au 2<|hD.hZ rfl (by rw[b.hA];exact F.hN) (hB.hE d) (hH.mk g.g ⟨_,rfl,c.g,b.g.up oX⟩)
theorem LS(h1:kO 0 118 [Zi] M q L)(ht:iE L CY)(h2:RQ 84 [] (lx L).2.2 p lA):RQ 84 [] M (.mk CY ⟨#[]⟩ V0 [] [q,p] [] []) lA:=by
 intro f v s hs b
 have S:=b.lt
 have T:=b.lt
 refine cY Tryz.func84 fun j=>ac 2<|al F.z31 rfl fun k w U W X l=>au 4 ?_
 obtain⟨Z,o⟩:=nm w
 have aa:=j.g.le o
 refine cX (h1 _ _ _ hs b.g) ?_
 rintro _ y ab ad ⟨z,rfl,b,c⟩
 obtain⟨A,B,ae⟩:=nl y
 rw[←o,←B]at c
 have c:=c.up (D':=(DV [k] f.heap.size A)) Ad
 refine al F.z31 rfl fun r af ag ah ai m=>sA m rfl rfl rfl c.hA c.one fun aj ak am m=>au 5<|cX (jD ht hs b.g) ?_
 rintro _ an ao ap ⟨rfl,b⟩
 refine au 3<|dR [v] 3 fun C E aq G=>have ar:=E.size;gT 0 rfl (fun av H=>Y.jl rfl (H.hO (Gb m) AK) (by rw[c.hA];exact F.hN))<|aG [1]<|gp 2 ?_
 obtain⟨aw,t⟩:=nm C
 have ax:=j.g.le t
 refine cX (h2 _ _ _ hs b.g) ?_
 rintro _ I ay az ⟨J,rfl,b,d⟩
 obtain⟨K,O,a0⟩:=nl I
 rw[←t,←O]at d
 have d:=d.up (D':=(DV [k,r] f.heap.size K)) Ad
 refine gn G.g<|gp 3<|bN (css:=[z,J]) F.ic rfl rfl (by intro a1 hc;simp only[Tr,Tp,TD]at hc;rcases hc with rfl|rfl;exact c.hA;exact d.hA) fun P a2 a3 a4 a5 Q=>gl<|gp 4<|cX (jA _ _ _ _ _) ?_
 rintro _ u a6 a7 rfl
 obtain⟨R,a8,a9⟩:=nl u
 have g:=RN.yF (w:=u) (D:=(DV [k,r] f.heap.size R)) (op:=CY) (text:=⟨#[]⟩) (cap:=2) Ap Ap (Gb Q) Ar (c.g.up Af) (d.g.up Af) Ah
 exact gl<|gp 5<|sA (cs:=#[.string CY,Zs,Zi,Zi,Zs,Zl,Zl,Zl,.slice (some ⟨P,0,none⟩) 2 2,Zl,Zl,Zl]) (Gb l) rfl rfl rfl g.hA g.one fun aA aB aC l=>gl<|gD<|ac 1<|hD.hZ rfl (by rw[g.hA];exact F.hN) (hB.hE l) (hH.mk j.g ⟨_,rfl,b.g,g.g.up oX⟩)
theorem FH(ht:iE L C5)(h1:RQ 129 [] (lx L).2.2 q M):RQ 129 [] L (.mk CG ⟨#[]⟩ V0 [] [q] [] []) M:=by
 intro f z s hs b
 have A:=b.lt
 have B:=b.lt
 refine cY Tryz.func129 fun j=>ac 2<|al F.z31 rfl fun k C E G H g=>au 5<|cX (jD ht hs b.g) ?_
 rintro _ o I J ⟨rfl,b⟩
 refine au 5 ?_
 obtain⟨K,l⟩:=nm o
 have O:=j.g.le l
 refine cX (h1 _ _ _ hs b) ?_
 rintro _ p P Q ⟨r,rfl,b,c⟩
 obtain⟨t,u,R⟩:=nl p
 rw[←l,←u]at c
 have c:=c.up (D':=(DV [k] f.heap.size t)) Ad
 refine bN (css:=[r]) F.ic rfl rfl Ag fun v S T U W w=>cX (jA _ _ _ _ _) ?_
 rintro _ m X Y rfl
 obtain⟨y,Z,aa⟩:=nl m
 have d:=RN.r0 (w:=m) (D:=(DV [k] f.heap.size y)) (op:=CG) (text:=⟨#[]⟩) (cap:=1) Ap Ap (Gb w) Ar (c.g.up Af) Ah
 exact sA (cs:=#[.string CG,Zs,Zi,Zi,Zs,Zl,Zl,Zl,.slice (some ⟨v,0,none⟩) 1 1,Zl,Zl,Zl]) (Gb g) rfl rfl rfl d.hA d.one fun ab ad ae g=>au 2<|hD.hZ rfl (by rw[d.hA];exact F.hN) (hB.hE g) (hH.mk j.g ⟨_,rfl,b.g,d.g.up oX⟩)
theorem tf{x:N}(r:iE L C5=false)(h1:RQ 135 [] L q M)(h2:tE 134 q M x lA):RQ 129 [] L x lA:=by
 intro k A s hs b
 have B:=b.lt
 have C:=b.lt
 refine cY Tryz.func129 fun f=>ac 2<|al F.z31 rfl fun l D E G H g=>au 5<|cX (jd r b.g) ?_
 rintro _ t I J rfl
 refine au 7 ?_
 obtain⟨K,m⟩:=nm t
 have O:=f.g.le m
 refine cX (h1 _ _ _ hs b.g) ?_
 rintro _ o P Q ⟨R,rfl,b,d⟩
 obtain⟨p,u,S⟩:=nl o
 rw[←m,←u]at d
 have d:=d.up (D':=(DV [l] k.heap.size p)) Ad
 obtain⟨v,j⟩:=nm o
 have T:=f.g.le j
 have U:p≤v:=by rw[j];exact Ac
 refine cX (h2 _ _ _ _ _ hs b (fun W hc=>⟨by have:=hc.2.1;omega,by have:=hc.1;omega⟩) d) ?_
 rintro _ w X Y ⟨Z,rfl,b,c⟩
 obtain⟨y,z,aa⟩:=nl w
 rw[←j,←z]at c
 have c:=c.up (D':=(DV [l] k.heap.size y)) AC
 exact sA (Gb g) rfl rfl rfl c.hA c.one fun ab ad ae g=>au 2<|hD.hZ rfl (by rw[c.hA];exact F.hN) (hB.hE g) (hH.mk f.g ⟨_,rfl,b.g,c.g.up oX⟩)
theorem rh{L:List UInt8}(k:iE L C5=false)(h1:RQ 135 [] L q M)(l:iE M CI=false):RQ 161 [] L q M:=by
 intro m v s hs c
 have w:=c.lt
 have y:=c.lt
 refine cY Tryz.func161 fun g=>ac 2<|al F.z31 rfl fun o z A B C d=>au 5<|cX (jd k c.g) ?_
 rintro _ p D E rfl
 refine au 6 ?_
 obtain⟨G,j⟩:=nm p
 have H:=g.g.le j
 refine cX (h1 _ _ _ hs c.g) ?_
 rintro _ r I J ⟨K,rfl,c,b⟩
 obtain⟨t,u,O⟩:=nl r
 rw[←j,←u]at b
 have b:=b.up (D':=(DV [o] m.heap.size t)) Ad
 refine al F.z31 rfl fun P Q R S T f=>sA f rfl rfl rfl b.hA b.one fun U W X f=>au 5<|cX (jd l c.g) ?_
 rintro _ Y Z aa rfl
 exact au 5<|lw (Gb f) rfl b.hA<|sA (Gb d) rfl rfl rfl b.hA b.one fun ab ad ae d=>au 2<|hD.hZ rfl (by rw[b.hA];exact F.hN) (hB.hE d) (hH.mk g.g ⟨_,rfl,c.g,b.g.up oX⟩)
inductive CT:Nat→N→List UInt8→N→List UInt8→Prop
 |nil {q:N} {L:List UInt8} (hn:iE L ⟨#[44]⟩=false):CT 0 q L q L
 |cons {m:Nat} {q p q':N} {L L2 L':List UInt8} (ht:iE L ⟨#[44]⟩=true) (h:RQ 84 [] (lx L).2.2 p L2) (r:CT m (.mk ⟨#[44]⟩ ⟨#[]⟩ V0 [] [q,p] [] []) L2 q' L'):CT (m+1) q L q' L'
def rI(n:Nat)(L:List UInt8):Bool:=(decide ((lx L).1=jU)||decide ((lx L).1=iY))&&(iW n).any (fun y=>decide ((lx L).2.1=y))
theorem It{n:Nat}(h:rI n L):((lx L).1=jU∨(lx L).1=iY)∧(lx L).2.1∈iW n:=by
 simp only[rI,Tx,TO,TA,UX]at h
 obtain⟨hk,c,b,rfl⟩:=h
 exact⟨hk,b⟩
theorem xj{n:Nat}(h:rI n L=false)(hk:(lx L).1=jU∨(lx L).1=iY):¬(lx L).2.1∈iW n:=fun b=>by
 have:rI n L=true:=by
  simp only[rI,Tx,TO,TA,UX]
  exact⟨hk,_,b,rfl⟩
 rw[h]at this;cases this
theorem nt(h1:RQ 84 [] lA q L)(B:CT m q L p M):RQ 48 [] lA p M:=by
 intro j l s hs b
 have aj:=b.lt
 have ak:=b.lt
 refine cY Tryz.func48 fun o=>ac 2<|al F.z31 rfl fun k K am an ao r=>au 4 ?_
 obtain⟨ap,G⟩:=nm K
 have aq:=o.g.le G
 refine cX (h1 _ _ _ hs b.g) ?_
 rintro _ O ar av ⟨P,rfl,b,f⟩
 obtain⟨C,Q,aw⟩:=nl O
 rw[←G,←Q]at f
 have f:=f.up (D':=(DV [k] j.heap.size C)) Ad
 refine al F.z31 rfl fun g ax ay az a0 c=>sA c rfl rfl rfl f.hA f.one fun R a1 a2 c=>au 3 ?_
 have f:=f.g.up (D':=DV [k,g] j.heap.size C) Af
 refine lE [l,g] R (σ:=Nat×N×List UInt8×Array Value×Nat) [(6,12)] [(0,Pt l),(2,Pt k),(3,Pt g)] (fun _=>[]) (fun(m,v,w,t,y) z=>CT m v w p M∧At z l s w∧z.heap[g]? =some (.cells t 31 (0,0))∧RN z (DV [k,g] j.heap.size y) 0 v t∧y≤z.heap.size) (fun(m,v,w,t,y)=>m) ((m,q,L,P,C)) ?_ ?_
 ·exact⟨Fr.refl _ _,B,b.g,c,f,Ac⟩
 rintro a3 ⟨m,v,w,t,y⟩ a4 S ⟨A,B,b,c,d,a5⟩
 have o:=o.g.put A AY
 have a6:=A.size
 have r:=A.hO (Gb r) Ax
 have T:=A
 have a7:=Fr.refl [l,g] S
 refine ac 4 ?_
 cases B with
 |nil U=>
  refine cX (jd U b) ?_
  rintro _ a8 a9 aA rfl
  exact au 3<|ac 2<|lw (Gb c) rfl d.hA<|sA (Gb r) rfl rfl rfl d.hA d.one fun aB aC aD r=>au 2<|hD.hZ rfl (by rw[d.hA];exact F.hN) (hB.hE r) (hH.mk o.g ⟨_,rfl,b.g,d.g.up oX⟩)
 |cons ht h2 W=>
  refine cX (jD ht hs b) ?_
  rintro _ aE aF aH ⟨rfl,b⟩
  refine au 4<|dR [l] 3 fun X Z aI aa=>have aJ:=Z.size;gT 0 rfl (fun aK ab=>Y.jl rfl (ab.hO (Gb c) AK) (by rw[d.hA];exact F.hN))<|aG [1]<|gp 2 ?_
  obtain⟨aL,H⟩:=nm X
  have aM:=o.g.le H
  refine cX (h2 _ _ _ hs b.g) ?_
  rintro _ ad aN aO ⟨ae,rfl,b,u⟩
  obtain⟨af,ag,aP⟩:=nl ad
  rw[←H,←ag]at u
  have u:=u.up (D':=(DV [k,g] j.heap.size af)) Ad
  refine gn aa.g<|gp 3<|bN (css:=[t,ae]) F.ic rfl rfl (by intro aQ hc;simp only[Tr,Tp,TD]at hc;rcases hc with rfl|rfl;exact d.hA;exact u.hA) fun ah aR aS aT aU ai=>gl<|gp 4<|cX (jA _ _ _ _ _) ?_
  rintro _ I aV aW rfl
  obtain⟨J,aX,aY⟩:=nl I
  have E:=RN.yF (w:=I) (D:=(DV [k,g] j.heap.size J)) (op:=CM) (text:=⟨#[]⟩) (cap:=2) Ap Ap (Gb ai) Ar (d.g.up Af) (u.g.up Af) Ah
  exact gl<|gp 5<|sA (cs:=#[.string CM,Zs,Zi,Zi,Zs,Zl,Zl,Zl,.slice (some ⟨ah,0,none⟩) 2 2,Zl,Zl,Zl]) (Gb c) rfl rfl d.hA E.hA E.one fun aZ ba bb c=>gl<|gD ⟨(_,_,_,_,J),⟨T.g,W,b.g,c,E.g,Ac⟩,TY _,trivial⟩
theorem yg(n:Nat):(iW n).length≤8:=by
 match n with
 |0=>decide|1=>decide|2=>decide|3=>decide|4=>decide|_+5=>exact(by decide:(3:Nat)≤8)
theorem Fs(h1:RQ 129 [] L q M):kO 0 118 [.int .i64 (((6:Nat):Int))] L q M:=by
 intro j r s hs c
 have t:=c.lt
 have u:=c.lt
 refine cY Tryz.func118 fun f=>ac 2<|al F.z31 rfl fun k l v w y d=>au 11 ?_
 obtain⟨z,g⟩:=nm l
 have A:=f.g.le g
 refine cX (h1 _ _ _ hs c.g) ?_
 rintro _ m B C ⟨D,rfl,c,b⟩
 obtain⟨o,p,E⟩:=nl m
 rw[←g,←p]at b
 have b:=b.up (D':=(DV [k] j.heap.size o)) Ad
 exact sA (Gb d) rfl rfl rfl b.hA b.one fun G H I d=>au 2<|hD.hZ rfl (by rw[b.hA];exact F.hN) (hB.hE d) (hH.mk f.g ⟨_,rfl,c.g,b.g.up oX⟩)
theorem Fq{n:Nat}(S:n≤5)(h1:kO 0 118 [.int .i64 (((n+1:Nat):Int))] M q L)(u:rI n L=false):kO 0 118 [.int .i64 ((n:Int))] M q L:=by
 intro A B s hs f
 have T:=f.lt
 have U:=f.lt
 refine cY Tryz.func118 fun k=>ac 2<|al F.z31 rfl fun v C W X Z d=>au 5<|DL.y rfl rfl (Y.Hb (c:=false) rfl rfl (Ti Ac))<|au 7<|ai ((n+1:Nat):Int) rfl rfl ?_
 obtain⟨aa,w⟩:=nm C
 have ab:=k.g.le w
 refine cX (h1 _ _ _ hs f.g) ?_
 rintro _ D ad ae ⟨af,rfl,f,b⟩
 obtain⟨E,G,ag⟩:=nl D
 rw[←w,←G]at b
 have b:=b.up (D':=(DV [v] A.heap.size E)) Ad
 refine al F.z31 rfl fun H ah aj ak am g=>sA g rfl rfl rfl b.hA b.one fun I an ao g=>au 3<|lE [] I (σ:=Unit) [(6,6),(15,67)] [(0,Pt B),(1,.int .i64 (n:Int)),(4,Pt v),(5,Pt H)] (fun _=>[]) (fun _ ap=>True) (fun _=>0) (()) ?_ ?_
 ·exact⟨Fr.refl _ _,trivial⟩
 rintro aq _ ar J ⟨j,_⟩
 have k:=k.g.jP j
 have av:=j.size
 have d:=j.il (Gb d)
 have f:=f.g.k9 j
 have b:=b.g.k9 j
 have g:=j.il g
 have aw:=j
 have ax:=Fr.refl [] J
 refine ac 2<|dF fun ay K az l=>have a0:=K.size;aK [0,1,2] ?_
 obtain⟨a,a1,a2,m⟩:=id f.g
 refine kL 3 m rfl rfl rfl<|aK [4,5,6,7,8,9]<|kL 10 m rfl rfl rfl<|DK.if 11 rfl Au Au Au rfl rfl (fun O P=>Y.seq rfl rfl) (fun y=>?_) (fun y=>?_)
 ·refine aK [12,13,14,15,16,17,18,19,20,21,22,24]<|aK [25,26,27]<|kL 28 m rfl rfl rfl<|kP 23<|cX (ki n _) ?_
  rintro _ a3 a4 a5 ⟨Q,rfl,p⟩
  refine kN l.g<|kP 29<|cX (iB (iW n) _ _ Bl p) ?_
  rintro _ a6 a7 a8 ⟨o,rfl,r,R⟩
  obtain rfl:o=false:=by{cases o;rfl;exact Tu (r rfl) (xj u (Ts y))}
  exact kN l.g<|aK [30]<|kD<|ac 2<|ac 2<|lw (Gb g) rfl b.hA<|sA (Gb d) rfl rfl rfl b.hA b.one fun a9 aA aB t=>have d:=t;au 2<|hD.hZ rfl (by rw[b.hA];exact F.hN) (hB.hE d) (hH.mk k.g ⟨_,rfl,f.g,b.g.up oX⟩)
 refine aK [12,13,14,15,16]<|kL 17 m rfl rfl rfl<|DK.if 18 rfl Au Au Au rfl rfl (fun O P=>Y.seq rfl rfl) (fun z=>?_) (fun z=>?_)
 ·refine aK [19,20,21,22,24,25,26,27]<|kL 28 m rfl rfl rfl<|kP 23<|cX (ki n _) ?_
  rintro _ aC aD aE ⟨Q,rfl,p⟩
  refine kN l.g<|kP 29<|cX (iB (iW n) _ _ Bl p) ?_
  rintro _ aF aG aH ⟨o,rfl,r,R⟩
  obtain rfl:o=false:=by{cases o;rfl;exact Tu (r rfl) (xj u (Tk z))}
  exact kN l.g<|aK [30]<|kD<|ac 2<|ac 2<|lw (Gb g) rfl b.hA<|sA (Gb d) rfl rfl rfl b.hA b.one fun aI aJ aL t=>have d:=t;au 2<|hD.hZ rfl (by rw[b.hA];exact F.hN) (hB.hE d) (hH.mk k.g ⟨_,rfl,f.g,b.g.up oX⟩)
 exact aK [19,20,21,22,24,25,26,27,28]<|kP 23<|au 1<|kN l<|kP 29<|au 1<|kN l<|aK [30]<|kD<|ac 2<|ac 2<|lw (Gb g) rfl b.hA<|sA (Gb d) rfl rfl rfl b.hA b.one fun aM aN aO d=>au 2<|hD.hZ rfl (by rw[b.hA];exact F.hN) (hB.hE d) (hH.mk k.g ⟨_,rfl,f.g,b.g.up oX⟩)
theorem FG{n:Nat}(aC:n≤5)(h1:kO 0 118 [.int .i64 (((n+1:Nat):Int))] M q L)(ah:rI n L)(h2:kO 0 118 [.int .i64 (((n+1:Nat):Int))] (lx L).2.2 p lA)(aD:n=0∨n=3)(aE:(lx L).2.1.size≤1099511627776):kO 0 118 [.int .i64 ((n:Int))] M (.mk (lx L).2.1 ⟨#[]⟩ V0 [] [q,p] [] []) lA:=by
 intro k w s hs c
 have aF:=c.lt
 have aH:=c.lt
 refine cY Tryz.func118 fun l=>ac 2<|al F.z31 rfl fun m aj aI aJ aL d=>au 5<|DL.y rfl rfl (Y.Hb (c:=false) rfl rfl (Ti Ac))<|au 7<|ai ((n+1:Nat):Int) rfl rfl ?_
 obtain⟨aM,ab⟩:=nm aj
 have aN:=l.g.le ab
 refine cX (h1 _ _ _ hs c.g) ?_
 rintro _ ak aO aP ⟨am,rfl,c,o⟩
 obtain⟨P,an,aQ⟩:=nl ak
 rw[←ab,←an]at o
 have o:=o.up (D':=(DV [m] k.heap.size P)) Ad
 refine al F.z31 rfl fun j aR aS aT aU f=>sA f rfl rfl rfl o.hA o.one fun ao aV aW f=>au 3 ?_
 have o:=o.g.up (D':=DV [m,j] k.heap.size P) Af
 refine lE [w,j] ao (σ:=Nat×List UInt8×N×Array Value×Nat) [(6,6),(15,67)] [(0,Pt w),(1,.int .i64 (n:Int)),(4,Pt m),(5,Pt j)] (fun _=>[]) (fun(A,I,B,y,J) K=>((A=1∧L=I∧q=B)∨(A=0∧False∧(.mk (lx L).2.1 ⟨#[]⟩ V0 [] [q,p] [] [])=B))∧At K w s I∧K.heap[j]? =some (.cells y 31 (0,0))∧RN K (DV [m,j] k.heap.size J) 0 B y∧J≤K.heap.size) (fun(A,I,B,y,J)=>A) ((1,L,q,am,P)) ?_ ?_
 ·exact⟨Fr.refl _ _,Ts ⟨rfl,rfl,rfl⟩,c.g,f,o,Ac⟩
 rintro aX ⟨A,I,B,y,J⟩ aY ap ⟨O,aq,c,f,r,aZ⟩
 have l:=l.g.put O AY
 have ba:=O.size
 have d:=O.hO (Gb d) Ax
 have bb:=O
 have bc:=Fr.refl [w,j] ap
 refine ac 1 ?_
 rcases aq with⟨rfl,rfl,rfl⟩|⟨rfl,ar,rfl⟩
 ·obtain⟨hk,ad⟩:((lx L).1=jU∨(lx L).1=iY)∧(lx L).2.1∈iW n:=It ah
  refine ac 1<|dF fun bd av be t=>have bf:=av.size;aK [0,1,2] ?_
  obtain⟨a,bg,bh,u⟩:=id c.g
  refine kL 3 u rfl rfl rfl<|aK [4,5,6,7,8,9]<|kL 10 u rfl rfl rfl<|DK.if 11 rfl Au Au Au rfl rfl (fun C aw=>Y.seq rfl rfl) (fun ae=>?_) (fun ae=>?_)
  ·refine aK [12,13,14,15,16,17,18,19,20,21,22,24]<|aK [25,26,27]<|kL 28 u rfl rfl rfl<|kP 23<|cX (ki n _) ?_
   rintro _ bi bj bk ⟨ax,rfl,Q⟩
   refine kN t.g<|kP 29<|cX (iB (iW n) _ _ Bl Q) ?_
   rintro _ bl bm bn ⟨E,rfl,ay,R⟩
   obtain rfl:E=true:=by{cases E;exact Tu ad (R rfl);rfl}
   refine kN t.g<|aK [30]<|kD<|ac 9<|lD (Gb u) rfl rfl<|au 5<|cX (jf hs c.g) ?_
   rintro _ bo bp bq ⟨rfl,c⟩
   refine au 2<|dR [w] 6 fun az a0 br t=>have bs:=a0.size;aG [0]<|gT 1 rfl (fun C S=>Y.jl rfl (S.hO (Gb f) AK) (by rw[r.hA];exact F.hN))<|aG [2,3]<|gf 4 rfl (fun C=>Y.mm (c:=((n+1:Nat):Int)) rfl rfl Ac Ac Ac)<|gp 5 ?_
   obtain⟨a1,G⟩:=nm az
   have a2:=l.g.le G
   refine cX (h2 _ _ _ hs c.g) ?_
   rintro _ a3 bt bu ⟨T,rfl,c,g⟩
   obtain⟨U,W,a4⟩:=nl a3
   rw[←G,←W]at g
   have g:=g.up (D':=(DV [m,j] k.heap.size U)) Ad
   refine gn t.g<|gp 6<|bN (css:=[y,T]) F.ic rfl rfl (by intro z hc;simp only[Tr,Tp,TD]at hc;rcases hc with rfl|rfl;exact r.hA;exact g.hA) fun v bv bw a5 a6 X=>gl<|gp 7<|cX (jA _ _ _ _ _) ?_
   rintro _ af bx bz rfl
   obtain⟨Z,a7,a8⟩:=nl af
   have b:=RN.yF (w:=af) (D:=(DV [m,j] k.heap.size Z)) (op:=(lx L).2.1) (text:=⟨#[]⟩) (cap:=2) Ap Ap (Gb X) Ar (r.g.up Af) (g.g.up Af) Ah
   refine gl<|gp 8<|sA (cs:=#[.string (lx L).2.1,Zs,Zi,Zi,Zs,Zl,Zl,Zl,.slice (some ⟨v,0,none⟩) 2 2,Zl,Zl,Zl]) (Gb f) rfl rfl r.hA b.hA b.one fun b0 b1 b2 f=>gl<|gD<|ac 3<|jE rfl rfl (fun aa=>?_) (fun aa=>?_)
   ·exact au 8<|lw f rfl b.hA<|sA (cs:=#[.string (lx L).2.1,Zs,Zi,Zi,Zs,Zl,Zl,Zl,.slice (some ⟨v,0,none⟩) 2 2,Zl,Zl,Zl]) (Gb d) rfl rfl rfl b.hA b.one fun b3 b4 b5 H=>have d:=H;au 2<|hD.hZ rfl (by rw[b.hA];exact F.hN) (hB.hE d) (hH.mk l.g ⟨_,rfl,c.g,b.g.up oX⟩)
   exact au 2<|iT Ac rfl rfl<|au 5<|lw f rfl b.hA<|sA (cs:=#[.string (lx L).2.1,Zs,Zi,Zi,Zs,Zl,Zl,Zl,.slice (some ⟨v,0,none⟩) 2 2,Zl,Zl,Zl]) (Gb d) rfl rfl rfl b.hA b.one fun b6 b7 b8 H=>have d:=H;au 2<|hD.hZ rfl (by rw[b.hA];exact F.hN) (hB.hE d) (hH.mk l.g ⟨_,rfl,c.g,b.g.up oX⟩)
  refine aK [12,13,14,15,16]<|kL 17 u rfl rfl rfl<|kT 18 rfl (fun C aw=>Y.rG rfl rfl (c:=true) (Th (hk.resolve_left ae)))<|aK [19,20,21,22,24,25]<|aK [26,27]<|kL 28 u rfl rfl rfl<|kP 23<|cX (ki n _) ?_
  rintro _ b9 bA bB ⟨ax,rfl,Q⟩
  refine kN t.g<|kP 29<|cX (iB (iW n) _ _ Bl Q) ?_
  rintro _ bC bD bE ⟨E,rfl,ay,R⟩
  obtain rfl:E=true:=by{cases E;exact Tu ad (R rfl);rfl}
  refine kN t.g<|aK [30]<|kD<|ac 9<|lD (Gb u) rfl rfl<|au 5<|cX (jf hs c.g) ?_
  rintro _ bF bG bH ⟨rfl,c⟩
  refine au 2<|dR [w] 6 fun a9 aA bI t=>have bJ:=aA.size;aG [0]<|gT 1 rfl (fun C S=>Y.jl rfl (S.hO (Gb f) AK) (by rw[r.hA];exact F.hN))<|aG [2,3]<|gf 4 rfl (fun C=>Y.mm (c:=((n+1:Nat):Int)) rfl rfl Ac Ac Ac)<|gp 5 ?_
  obtain⟨a1,G⟩:=nm a9
  have a2:=l.g.le G
  refine cX (h2 _ _ _ hs c.g) ?_
  rintro _ aB bK bL ⟨T,rfl,c,g⟩
  obtain⟨U,W,a4⟩:=nl aB
  rw[←G,←W]at g
  have g:=g.up (D':=(DV [m,j] k.heap.size U)) Ad
  refine gn t.g<|gp 6<|bN (css:=[y,T]) F.ic rfl rfl (by intro z hc;simp only[Tr,Tp,TD]at hc;rcases hc with rfl|rfl;exact r.hA;exact g.hA) fun v bM bO a5 a6 X=>gl<|gp 7<|cX (jA _ _ _ _ _) ?_
  rintro _ ag bP bQ rfl
  obtain⟨Z,a7,a8⟩:=nl ag
  have b:=RN.yF (w:=ag) (D:=(DV [m,j] k.heap.size Z)) (op:=(lx L).2.1) (text:=⟨#[]⟩) (cap:=2) Ap Ap (Gb X) Ar (r.g.up Af) (g.g.up Af) Ah
  refine gl<|gp 8<|sA (cs:=#[.string (lx L).2.1,Zs,Zi,Zi,Zs,Zl,Zl,Zl,.slice (some ⟨v,0,none⟩) 2 2,Zl,Zl,Zl]) (Gb f) rfl rfl r.hA b.hA b.one fun bR bS bT f=>gl<|gD<|ac 3<|jE rfl rfl (fun aa=>?_) (fun aa=>?_)
  ·exact au 8<|lw f rfl b.hA<|sA (cs:=#[.string (lx L).2.1,Zs,Zi,Zi,Zs,Zl,Zl,Zl,.slice (some ⟨v,0,none⟩) 2 2,Zl,Zl,Zl]) (Gb d) rfl rfl rfl b.hA b.one fun bU bV bW H=>have d:=H;au 2<|hD.hZ rfl (by rw[b.hA];exact F.hN) (hB.hE d) (hH.mk l.g ⟨_,rfl,c.g,b.g.up oX⟩)
  exact au 2<|iT Ac rfl rfl<|au 5<|lw f rfl b.hA<|sA (cs:=#[.string (lx L).2.1,Zs,Zi,Zi,Zs,Zl,Zl,Zl,.slice (some ⟨v,0,none⟩) 2 2,Zl,Zl,Zl]) (Gb d) rfl rfl rfl b.hA b.one fun bX bY bZ d=>au 2<|hD.hZ rfl (by rw[b.hA];exact F.hN) (hB.hE d) (hH.mk l.g ⟨_,rfl,c.g,b.g.up oX⟩)
 exact ar.elim
theorem He{n:Nat}(aI:n≤5)(h1:kO 0 118 [.int .i64 (((n+1:Nat):Int))] lA q L)(ao:rI n L)(h2:kO 0 118 [.int .i64 (((n+1:Nat):Int))] (lx L).2.2 p M)(aJ:n≠0∧n≠3)(af:rI n M=false)(aL:(lx L).2.1.size≤1099511627776):kO 0 118 [.int .i64 ((n:Int))] lA (.mk (lx L).2.1 ⟨#[]⟩ V0 [] [q,p] [] []) M:=by
 intro o z s hs c
 have aM:=c.lt
 have aN:=c.lt
 refine cY Tryz.func118 fun r=>ac 2<|al F.z31 rfl fun t ap aO aP aQ j=>au 5<|DL.y rfl rfl (Y.Hb (c:=false) rfl rfl (Ti Ac))<|au 7<|ai ((n+1:Nat):Int) rfl rfl ?_
 obtain⟨aR,ag⟩:=nm ap
 have aS:=r.g.le ag
 refine cX (h1 _ _ _ hs c.g) ?_
 rintro _ aq aT aU ⟨ar,rfl,c,u⟩
 obtain⟨S,av,aV⟩:=nl aq
 rw[←ag,←av]at u
 have u:=u.up (D':=(DV [t] o.heap.size S)) Ad
 refine al F.z31 rfl fun m aW aX aY aZ d=>sA d rfl rfl rfl u.hA u.one fun aw ba bb d=>au 3 ?_
 have u:=u.g.up (D':=DV [t,m] o.heap.size S) Af
 refine lE [z,m] aw (σ:=Nat×List UInt8×N×Array Value×Nat) [(6,6),(15,67)] [(0,Pt z),(1,.int .i64 (n:Int)),(4,Pt t),(5,Pt m)] (fun _=>[]) (fun(C,E,G,A,P) Q=>((C=1∧L=E∧q=G)∨(C=0∧M=E∧(.mk (lx L).2.1 ⟨#[]⟩ V0 [] [q,p] [] [])=G))∧At Q z s E∧Q.heap[m]? =some (.cells A 31 (0,0))∧RN Q (DV [t,m] o.heap.size P) 0 G A∧P≤Q.heap.size) (fun(C,E,G,A,P)=>C) ((1,L,q,ar,S)) ?_ ?_
 ·exact⟨Fr.refl _ _,Ts ⟨rfl,rfl,rfl⟩,c.g,d,u,Ac⟩
 rintro bc ⟨C,E,G,A,P⟩ bd ax ⟨R,ay,c,d,b,be⟩
 have r:=r.g.put R AY
 have bf:=R.size
 have j:=R.hO (Gb j) Ax
 have ah:=R
 have bg:=Fr.refl [z,m] ax
 refine ac 1 ?_
 rcases ay with⟨rfl,rfl,rfl⟩|⟨rfl,rfl,rfl⟩
 ·obtain⟨hk,aj⟩:((lx L).1=jU∨(lx L).1=iY)∧(lx L).2.1∈iW n:=It ao
  refine ac 1<|dF fun bh az bi f=>have bj:=az.size;aK [0,1,2] ?_
  obtain⟨a,a0,a1,g⟩:=id c.g
  refine kL 3 g rfl rfl rfl<|aK [4,5,6,7,8,9]<|kL 10 g rfl rfl rfl<|DK.if 11 rfl Au Au Au rfl rfl (fun v T=>Y.seq rfl rfl) (fun H=>?_) (fun H=>?_)
  ·refine aK [12,13,14,15,16,17,18,19,20,21,22,24]<|aK [25,26,27]<|kL 28 g rfl rfl rfl<|kP 23<|cX (ki n _) ?_
   rintro _ bk bl bm ⟨U,rfl,w⟩
   refine kN f.g<|kP 29<|cX (iB (iW n) _ _ Bl w) ?_
   rintro _ bn bo bp ⟨k,rfl,I,J⟩
   obtain rfl:k=true:=by{cases k;exact Tu aj (J rfl);rfl}
   refine kN f.g<|aK [30]<|kD<|ac 9<|lD (Gb g) rfl rfl<|au 5<|cX (jf hs c.g) ?_
   rintro _ bq br bs ⟨rfl,c⟩
   refine au 2<|dR [z] 6 fun a2 a3 bt f=>have bu:=a3.size;aG [0]<|gT 1 rfl (fun v W=>Y.jl rfl (W.hO (Gb d) AK) (by rw[b.hA];exact F.hN))<|aG [2,3]<|gf 4 rfl (fun v=>Y.mm (c:=((n+1:Nat):Int)) rfl rfl Ac Ac Ac)<|gp 5 ?_
   obtain⟨a4,K⟩:=nm a2
   have a5:=r.g.le K
   refine cX (h2 _ _ _ hs c.g) ?_
   rintro _ a6 bv bw ⟨X,rfl,c,l⟩
   obtain⟨Z,aa,a7⟩:=nl a6
   rw[←K,←aa]at l
   have l:=l.up (D':=(DV [t,m] o.heap.size Z)) Ad
   refine gn f.g<|gp 6<|bN (css:=[A,X]) F.ic rfl rfl (by intro B hc;simp only[Tr,Tp,TD]at hc;rcases hc with rfl|rfl;exact b.hA;exact l.hA) fun ab bx bz a8 a9 ad=>gl<|gp 7<|cX (jA _ _ _ _ _) ?_
   rintro _ ak b0 b1 rfl
   obtain⟨O,aA,aB⟩:=nl ak
   have y:=RN.yF (w:=ak) (D:=(DV [t,m] o.heap.size O)) (op:=(lx L).2.1) (text:=⟨#[]⟩) (cap:=2) Ap Ap (Gb ad) Ar (b.g.up Af) (l.g.up Af) Ah
   exact gl<|gp 8<|sA (cs:=#[.string (lx L).2.1,Zs,Zi,Zi,Zs,Zl,Zl,Zl,.slice (some ⟨ab,0,none⟩) 2 2,Zl,Zl,Zl]) (Gb d) rfl rfl b.hA y.hA y.one fun b2 b3 b4 aC=>have d:=aC;gl<|gD<|ac 3<|iF Ac rfl rfl<|au 2<|iF Ac rfl rfl<|au 4 ⟨(0,M,_,_,O),⟨ah.g,Tk ⟨rfl,rfl,rfl⟩,c.g,d,y.g,Ac⟩,Nat.one_pos,trivial⟩
  refine aK [12,13,14,15,16]<|kL 17 g rfl rfl rfl<|kT 18 rfl (fun v T=>Y.rG rfl rfl (c:=true) (Th (hk.resolve_left H)))<|aK [19,20,21,22,24,25]<|aK [26,27]<|kL 28 g rfl rfl rfl<|kP 23<|cX (ki n _) ?_
  rintro _ b5 b6 b7 ⟨U,rfl,w⟩
  refine kN f.g<|kP 29<|cX (iB (iW n) _ _ Bl w) ?_
  rintro _ b8 b9 bA ⟨k,rfl,I,J⟩
  obtain rfl:k=true:=by{cases k;exact Tu aj (J rfl);rfl}
  refine kN f.g<|aK [30]<|kD<|ac 9<|lD (Gb g) rfl rfl<|au 5<|cX (jf hs c.g) ?_
  rintro _ bB bC bD ⟨rfl,c⟩
  refine au 2<|dR [z] 6 fun aD aE bE f=>have bF:=aE.size;aG [0]<|gT 1 rfl (fun v W=>Y.jl rfl (W.hO (Gb d) AK) (by rw[b.hA];exact F.hN))<|aG [2,3]<|gf 4 rfl (fun v=>Y.mm (c:=((n+1:Nat):Int)) rfl rfl Ac Ac Ac)<|gp 5 ?_
  obtain⟨a4,K⟩:=nm aD
  have a5:=r.g.le K
  refine cX (h2 _ _ _ hs c.g) ?_
  rintro _ aF bG bH ⟨X,rfl,c,l⟩
  obtain⟨Z,aa,a7⟩:=nl aF
  rw[←K,←aa]at l
  have l:=l.up (D':=(DV [t,m] o.heap.size Z)) Ad
  refine gn f.g<|gp 6<|bN (css:=[A,X]) F.ic rfl rfl (by intro B hc;simp only[Tr,Tp,TD]at hc;rcases hc with rfl|rfl;exact b.hA;exact l.hA) fun ab bI bJ a8 a9 ad=>gl<|gp 7<|cX (jA _ _ _ _ _) ?_
  rintro _ am bK bL rfl
  obtain⟨O,aA,aB⟩:=nl am
  have y:=RN.yF (w:=am) (D:=(DV [t,m] o.heap.size O)) (op:=(lx L).2.1) (text:=⟨#[]⟩) (cap:=2) Ap Ap (Gb ad) Ar (b.g.up Af) (l.g.up Af) Ah
  exact gl<|gp 8<|sA (cs:=#[.string (lx L).2.1,Zs,Zi,Zi,Zs,Zl,Zl,Zl,.slice (some ⟨ab,0,none⟩) 2 2,Zl,Zl,Zl]) (Gb d) rfl rfl b.hA y.hA y.one fun bM bO bP d=>gl<|gD<|ac 3<|iF Ac rfl rfl<|au 2<|iF Ac rfl rfl<|au 4 ⟨(0,M,_,_,O),⟨ah.g,Tk ⟨rfl,rfl,rfl⟩,c.g,d,y.g,Ac⟩,Nat.one_pos,trivial⟩
 refine ac 1<|dF fun bQ aH bR f=>have bS:=aH.size;aK [0,1,2] ?_
 obtain⟨a,a0,a1,g⟩:=id c.g
 refine kL 3 g rfl rfl rfl<|aK [4,5,6,7,8,9]<|kL 10 g rfl rfl rfl<|DK.if 11 rfl Au Au Au rfl rfl (fun v T=>Y.seq rfl rfl) (fun H=>?_) (fun H=>?_)
 ·refine aK [12,13,14,15,16,17,18,19,20,21,22,24]<|aK [25,26,27]<|kL 28 g rfl rfl rfl<|kP 23<|cX (ki n _) ?_
  rintro _ bT bU bV ⟨U,rfl,w⟩
  refine kN f.g<|kP 29<|cX (iB (iW n) _ _ Bl w) ?_
  rintro _ bW bX bY ⟨k,rfl,I,J⟩
  obtain rfl:k=false:=by{cases k;rfl;exact Tu (I rfl) (xj af (Ts H))}
  exact kN f.g<|aK [30]<|kD<|ac 2<|ac 2<|lw (Gb d) rfl b.hA<|sA (Gb j) rfl rfl rfl b.hA b.one fun bZ ca cb ae=>have j:=ae;au 2<|hD.hZ rfl (by rw[b.hA];exact F.hN) (hB.hE j) (hH.mk r.g ⟨_,rfl,c.g,b.g.up oX⟩)
 refine aK [12,13,14,15,16]<|kL 17 g rfl rfl rfl<|DK.if 18 rfl Au Au Au rfl rfl (fun v T=>Y.seq rfl rfl) (fun an=>?_) (fun an=>?_)
 ·refine aK [19,20,21,22,24,25,26,27]<|kL 28 g rfl rfl rfl<|kP 23<|cX (ki n _) ?_
  rintro _ cc cd ce ⟨U,rfl,w⟩
  refine kN f.g<|kP 29<|cX (iB (iW n) _ _ Bl w) ?_
  rintro _ cf cg ch ⟨k,rfl,I,J⟩
  obtain rfl:k=false:=by{cases k;rfl;exact Tu (I rfl) (xj af (Tk an))}
  exact kN f.g<|aK [30]<|kD<|ac 2<|ac 2<|lw (Gb d) rfl b.hA<|sA (Gb j) rfl rfl rfl b.hA b.one fun ci cj ck ae=>have j:=ae;au 2<|hD.hZ rfl (by rw[b.hA];exact F.hN) (hB.hE j) (hH.mk r.g ⟨_,rfl,c.g,b.g.up oX⟩)
 exact aK [19,20,21,22,24,25,26,27,28]<|kP 23<|au 1<|kN f<|kP 29<|au 1<|kN f<|aK [30]<|kD<|ac 2<|ac 2<|lw (Gb d) rfl b.hA<|sA (Gb j) rfl rfl rfl b.hA b.one fun cl cm cn j=>au 2<|hD.hZ rfl (by rw[b.hA];exact F.hN) (hB.hE j) (hH.mk r.g ⟨_,rfl,c.g,b.g.up oX⟩)
end Go.Proofs.YtlojelcoibpphaaGreatDoor
