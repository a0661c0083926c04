/- FnQueryText, second form: own texts, joined and made short by a program (part 4): for every argument of bulk at most 1048576 the law answers true. -/
import Derived.Test.YtlojelcoibpphaaGreatDoorMx01
import Derived.Test.YtlojelcoibpphaaGreatDoorMx03
import Derived.Test.YtlojelcoibpphaaGreatDoorMx02
import Derived.Shelf.Strings.BuilderF
import Derived.Lib.LazyBuf
set_option maxRecDepth 100000
set_option maxHeartbeats 2000000
set_option linter.unusedVariables false
set_option linter.unusedSimpArgs false
set_option linter.unusedSectionVars false
set_option linter.defProp false
namespace Go.Proofs.YtlojelcoibpphaaGreatDoor
open Go Go.RowKit D Go.Deep Go.Proofs
variable{L M lA lB lC:List UInt8}{m k nA:Nat}{w W wA:World}{D:Nat→Prop}{c:Array Value}{R:List Nat}{j:Int}{lJ:List (List UInt8)}{gA:List G}{gH gC gD:G}{lN:List (Bool×List UInt8)}
def rg(B:Nat)(w:World):List Nat:=List.range' B (w.heap.size - B)
theorem kA{i:Nat}:i∈rg m w↔m≤i∧i<w.heap.size:=by
 unfold rg;rw[List.mem_range'_1];omega
theorem vk{i:Nat}(h:i<m):i∉rg m w:=fun b=>by have:=(kA.1 b).1;omega
theorem FB.tr(b:Fr (rg m w) w W)(c:Fr (rg m W) W wA):Fr (rg m w) w wA:=
 b.put c (fun i hi=>by have:=kA.1 hi;rcases Vb i w.heap.size with h|h;exact Ts (kA.2 ⟨this.1,h⟩);exact Tk h)
theorem FB.of(b:Fr R w W)(h:∀i∈R,m≤i∧i<w.heap.size):Fr (rg m w) w W:=Fr.mono b (fun i hi=>kA.2 (h i hi))
theorem FB.up(b:Fr (rg k w) w W)(h:m≤k):Fr (rg m w) w W:=Fr.mono b (fun i hi=>kA.2 (by have:=kA.1 hi;omega))
theorem FB.hO{b:Obj}(c:Fr (rg k w) w W)(d:w.heap[m]? =some b)(h:m<k):W.heap[m]? =some b:=c.hO d (vk h)
theorem Kp.g(h:Kp D w W)(b:Kp D w W→Kp D w wA:=by exact Gq):Kp D w wA:=b h
theorem FB.kp(c:Fr (rg m w) w wA)(d:Kp D W w)(f:W.heap.size≤w.heap.size)(g:∀b,D b→b<m):Kp D W wA:=d.step f c (fun b h=>vk (g b h))
def Bf(w:World)(B b:Nat)(l:List UInt8):Prop:=∃X,uK w B b X l
theorem Bf.le(h:Bf w k m L):k≤m∧m<w.heap.size:=by
 obtain⟨c,h⟩:=h
 exact⟨h.lo,by obtain⟨d,f,b,_⟩:=h.out;exact hC b⟩
theorem Bf.fr(h:Bf w m k L)(b:Fr R w W)(hs:∀i∈R,w.heap.size≤i):Bf W m k L:=by
 obtain⟨c,h⟩:=h
 exact⟨c,h.fr b (fun i hi hx=>by have:=(h.ge i hx).2;have:=hs i hi;omega)⟩
theorem Bf.g(h:Bf w m k L)(b:Bf w m k L→Bf W m k L:=by exact Gq):Bf W m k L:=b h
theorem Bf.cast{l':List UInt8}(h:Bf w m k L)(e:L=l'):Bf w m k l':=e▸h
theorem Bf.new(b:w.heap[m]? =some (.cells #[Zp,Zl] 88 (0,0))):Bf w m m []:=⟨[m],⟨⟨_,_,b,Ts rfl,World.ownsRowF_nil _ _ _ _,rfl⟩,Tv _⟩⟩
theorem ij.k9(h:ij w)(b:Fr [] w W):ij W:=h.fr b (fun c hc=>by simp)
theorem Kp.n6(b:Kp D w W)(c:Fr [] W wA)(d:w.heap.size≤W.heap.size):Kp D w wA:=b.step d c (fun f h=>by simp)
theorem ij.fb(h:ij w)(b:Fr (rg m w) w W)(c:2≤m):ij W:=h.fr b (fun d hc=>vk Ac)
theorem WS{s:ByteArray}(h:Bf w m k L)(hlen:L.length+s.data.toList.length≤140737488355328):Calls Tryz.prog 72 #[(Pt k),.string s] w (hH w (rg m w) fun d b=>Bf b m k (L++s.data.toList)):=by
 obtain⟨f,h⟩:=h
 refine(mG h (by rw[hK];exact hlen)).mono (hH.Fi (fun i hi=>kA.2 (h.ge i hi)) ?_)
 rintro g b j ⟨c,h1,h2⟩
 exact⟨c,h1⟩
theorem WB{c:UInt8}(h:Bf w m k L)(d:j=(c.toNat:Int))(hlen:L.length+1≤140737488355328):Calls Tryz.prog 76 #[(Pt k),.int .u8 j] w (hH w (rg m w) fun g b=>Bf b m k (L++[c])):=by
 subst d
 obtain⟨l,h⟩:=h
 refine(nV h hlen).mono (hH.Fi (fun i hi=>kA.2 (h.ge i hi)) ?_)
 rintro o b p ⟨f,h1,h2⟩
 exact⟨f,h1⟩
theorem Oj:Builder.Extra Tryz.prog Tryz.pK where
 sizeBuilder:=by kernel_rfl
 liesBuilder:=by kernel_rfl
 t5:=Tryz.underlying5
 a5:=Tryz.isAgg5
 z5:=Tryz.sizeOf5
 v5:=Tryz.zeroValue5
 infoByte:=by kernel_rfl
 cellsByte:=by kernel_rfl
 sizeByte:=by kernel_rfl
 neB5:=by decide
theorem BS(h:Bf w k m L):Calls Tryz.prog 41 #[(Pt m)] w (hH w (rg k w) fun r j=>r=.string ⟨L.toArray⟩∧Bf j k m L):=by
 have z:=h.le
 obtain⟨A,h⟩:=h
 obtain⟨b,l,c,o,p,_⟩:=h.out
 have t:l.ownBlock≠some m:=fun e=>lQ p c (hF.2 e)
 have u:Lib.IsBuilderF 88 5 k m (Lib.byteCells L) w:=by
  have d:∀b,w.heap[m]? =some (.cells #[b,l] 88 (0,0))→Lib.BuilderAtF 88 5 k m b (Lib.byteCells L) w:=fun b c=>⟨h.lo,l,c,by rw[Lib.byteCells_length];exact p,t⟩
  rcases o with rfl|rfl
  ·exact Ts (d _ c)
  exact Tk (d _ c)
 refine Calls.mono (Any.Builder_String_any_f Tryz.FI Oj k m L w u Ac) fun e j v=>?_
 obtain⟨rfl,f,g⟩:=v
 refine hH.mk ⟨g.os,g.tape,g.output,g.size,fun i hi hs=>g.block i (by
  rcases Vb i k with h1|h1
  ·exact h1
  exact Tu (kA.2 ⟨h1,hi⟩) hs)⟩ ⟨rfl,?_⟩
 have d:∀b,(b=Zp∨b=Pt m)→Lib.BuilderAtF 88 5 k m b (Lib.byteCells L) j→Bf j k m L:=by
  rintro b o ⟨h1,y,h2,q,B⟩
  rw[Lib.byteCells_length]at q
  exact⟨_,⟨⟨b,y,h2,o,q,rfl⟩,h1⟩⟩
 rcases f with f|f
 ·exact d _ (Ts rfl) f
 exact d _ (Tk rfl) f
theorem BL(h:Bf w k m L):Calls Tryz.prog 125 #[(Pt m)] w (hH w [] fun c l=>c=.int .i64 (L.length:Int)):=by
 obtain⟨o,h⟩:=h
 obtain⟨p,d,f,q,g,_⟩:=h.out
 obtain⟨a,b,rfl⟩:∃a b,d=.slice a L.length b:=by
  rcases g.2 with⟨rfl,h0⟩|⟨r,b,t,u,rfl,_⟩
  ·exact⟨none,0,by rw[h0]⟩
  exact⟨_,_,rfl⟩
 exact cY Tryz.func125 fun j=>ac 9<|lD f rfl rfl<|au 4<|rX j rfl
def OW(b:Nat):Array Value:=#[.iface 85 (Pt b),.int .u8 0,.int .u8 0,.int .u8 0,.int .u8 0,.int .u8 0,.int .u8 0,.int .u8 0,.int .u8 0,.int .u8 0,.int .u8 0,.int .u8 0,.int .u8 0,.int .u8 0,.int .u8 0,.int .u8 0,.int .u8 0,.int .u8 0,.int .u8 0,.int .u8 0,.int .u8 0,.int .u8 0,.int .u8 0,.int .u8 0,.int .u8 0,.int .u8 0,.int .u8 0,.int .u8 0,.int .u8 0,.int .u8 0,.int .u8 0,.int .u8 0,.int .u8 0,.int .u8 0,.int .u8 0,.int .u8 0,.int .u8 0,.int .u8 0,.int .u8 0,.int .u8 0,.int .u8 0,.int .u8 0,.int .u8 0,.int .u8 0,.int .u8 0,.int .u8 0,.int .u8 0,.int .u8 0,.int .u8 0,.int .u8 0,.int .u8 0,.int .u8 0,.int .u8 0,.int .u8 0,.int .u8 0,.int .u8 0,.int .u8 0,.int .u8 0,.int .u8 0,.int .u8 0,.int .u8 0,.int .u8 0,.int .u8 0,.int .u8 0,.int .u8 0]
theorem BJ{s:ByteArray}(h:Bf w m k L)(g:2≤m)(j:ij w)(l:Lib.validD s.data.toList)(hlen:L.length+6*s.size+100≤140737488355328):Calls Tryz.prog 104 #[(Pt k),.string s] w (hH w (rg m w) fun A o=>Bf o m k (L++qL s.data.toList)):=by
 have B:=h.le
 obtain⟨c,h⟩:=h
 have hge:=h.ge
 refine cY Tryz.func104 fun b=>ac 3<|bD (OW k)<|bX rfl fun d p C D E f=>au 1 ?_
 have q:ES p m d k (d::c) L:=⟨jm f rfl,⟨_,f,rfl⟩,⟨c,h.g,rfl,fun r=>by have:=(hge _ r).2;omega⟩,Ac,g⟩
 refine cX (oY q j.g l hlen) ?_
 rintro _ t u _ ⟨rfl,F,v,G⟩
 have b.g:Fr (rg m w) w t:=b.g.put u.f (fun i hi=>by rcases Tr.1 hi with rfl|hi;exact Tk Ac;exact Ts (kA.2 (hge i hi)))
 refine au 1 ?_
 obtain⟨y,z,_,_⟩:=v.JN
 exact rE b.g ⟨y,z⟩
def ih(sep:List UInt8):List (List UInt8)→List UInt8
 |[]=>[]
 |[t]=>t
 |t::u::r=>t++sep++ih sep (u::r)
theorem r4(c:List UInt8):∀(d:List (List UInt8))(b:List UInt8),ih c (d++[b])=ih c d++(if d=[]then[]else c)++b
 |[],b=>by simp[ih]
 |[a],b=>by simp[ih]
 |a::f::g,b=>by
  have:=r4 c (f::g) b
  simp only[TH]at this
  simp only[TH,ih,this]
  simp
theorem o3(b:List UInt8){i:Nat}(h:i<lJ.length):ih b (lJ.take (i+1))=ih b (lJ.take i)++(if i=0 then[]else b)++lJ[i]:=by
 rw[UT,TP h,Vc,r4]
 congr 2
 by_cases h0:i=0
 ·subst h0;simp
 rw[TI h0,TI]
 intro h1
 have h2:(lJ.take i).length=0:=by rw[h1];rfl
 rw[Ud]at h2;omega
theorem r8{i:Nat}(h:i<lJ.length):(lJ.take (i+1)).flatten=(lJ.take i).flatten++lJ[i]:=by
 rw[UT,TP h,Vc,VK];simp
theorem wE(b:List UInt8→List UInt8){i:Nat}(h:i<lJ.length):((lJ.take (i+1)).map b).flatten=((lJ.take i).map b).flatten++b lJ[i]:=by
 rw[UT,TP h,Vc,VX,VK];simp
def iJ(l:List UInt8):Bool:=match l.getLast? with
 |some c=>c==46||(48≤c&&c≤57)
 |none=>false
theorem pg{x:List UInt8}(h:x≠[]):iJ (L++x)=iJ x:=by
 unfold iJ
 rw[List.getLast?_append]
 cases hx:x.getLast? with
 |none=>exact Tu (List.getLast?_eq_none_iff.1 hx) h
 |some b=>simp
theorem pd{x:List UInt8}(h:x≠[])(b:iJ x=false):iJ (L++x)=false:=by rw[pg h,b]
def ib(h:List UInt8)(s:Bool×List UInt8):List UInt8:=h++(if s.1&&iJ h then[32]else[])++s.2
theorem pz{h:List UInt8}{i:Nat}(hi:i<lN.length):(lN.take (i+1)).foldl ib h=ib ((lN.take i).foldl ib h) lN[i]:=by
 rw[UT,TP hi,Vc,VV];rfl
theorem ua{h:List UInt8}(s:Bool×List UInt8)(b:h≠[]):ib (L++h) s=L++ib h s:=by
 unfold ib;rw[pg b];simp
theorem FY{h:List UInt8}(s:Bool×List UInt8)(b:h≠[]):ib h s≠[]:=by
 unfold ib
 intro c
 have:=TR List.length c
 simp only[Tl,Tw]at this
 exact b (Tn Ac)
theorem uw:∀(c:List (Bool×List UInt8)){h:List UInt8},h≠[]→c.foldl ib h≠[]
 |[],_,b=>b
 |s::d,_,b=>uw d (FY s b)
theorem ir:∀(b:List (Bool×List UInt8))(h:List UInt8),h.length≤(b.foldl ib h).length
 |[],h=>Tv _
 |s::c,h=>Tq (by simp only[ib,Tl];omega) (ir c (ib h s))
theorem pC:∀(b:List (Bool×List UInt8))(h:List UInt8),(∀s∈b,s.2≠[])→b.length+h.length≤(b.foldl ib h).length
 |[],h,_=>by simp
 |s::c,h,hs=>by
  have h1:=pC c (ib h s) (fun x hx=>hs x Ci)
  have h2:1≤s.2.length:=UJ.2 (hs s Al)
  have d:(ib h s).length=h.length+(if s.1&&iJ h then[(32:UInt8)]else[]).length+s.2.length:=by simp[ib];omega
  simp only[To,Vy];omega
theorem nb:∀(b:List (List UInt8)),b.length≤((b.map (· ++[32])).flatten).length
 |[]=>by simp
 |d::c=>by have:=nb c;simp only[T8,Vi,Tl,To,Tw];omega
theorem vM(hnd:iJ L=false)(x:List (List UInt8)):iJ (L++(x.map (· ++[32])).flatten)=false:=by
 rcases List.eq_nil_or_concat x with rfl|⟨b,c,rfl⟩
 ·simpa using hnd
 simp only[List.concat_eq_append,VX,T8,Ue,VK,Vi,List.flatten_nil,T3]
 rw[←Ty,←Ty]
 exact pd Al rfl
theorem Oa(b:List UInt8):((⟨(qL b).toArray⟩:ByteArray).extract ((1:Int).toNat) ((((⟨(qL b).toArray⟩:ByteArray).size - 1:Nat):Int).toNat))=⟨(iS b).toArray⟩:=by
 have h1:((⟨(qL b).toArray⟩:ByteArray).extract ((1:Int).toNat) ((((⟨(qL b).toArray⟩:ByteArray).size - 1:Nat):Int).toNat)).data.toList=iS b:=by
  have h2:(⟨(qL b).toArray⟩:ByteArray).size=(iS b).length+2:=by rw[hK];simp[qL]
  rw[show((1:Int))=((1:Nat):Int)from rfl,qt,h2]
  simp[qL]
 have d:∀c:ByteArray,c.data.toList=iS b→c=⟨(iS b).toArray⟩:=by
  intro c f
  rw[←f]
 exact d _ h1
def iR:Bool→List (List UInt8)→List UInt8
 |_,[]=>[]
 |f,t::r=>(if f then[97,115,32]else[63,47,47,32])++t++[32]++iR false r
theorem qq:∀(b:Bool)(d:List (List UInt8))(c:List UInt8),iR b (d++[c])=iR b d++(if b&&d.isEmpty then[97,115,32]else[63,47,47,32])++c++[32]
 |b,[],c=>by simp[iR]
 |b,a::f,c=>by simp[iR,qq false f c]
theorem wi{i:Nat}(h:i<lJ.length):iR true (lJ.take (i+1))=iR true (lJ.take i)++(if i=0 then[97,115,32]else[63,47,47,32])++lJ[i]++[32]:=by
 rw[UT,TP h,Vc,qq]
 by_cases h0:i=0
 ·subst h0;simp
 have:(lJ.take i).isEmpty=false:=by
  cases lJ with
  |nil=>simp at h
  |cons a b=>cases i with
   |zero=>omega
   |succ i=>simp
 rw[this];simp[h0]
theorem nF(c:List UInt8):∀(b:List (List UInt8))(i:Nat)(h:i<b.length),(ih c (b.take i)).length+b[i].length≤(ih c b).length∧(0<i→(ih c (b.take i)).length+c.length+b[i].length≤(ih c b).length)
 |[],i,h=>by simp at h
 |[a],i,h=>by
  have:i=0:=by simpa using h
  subst this;simp[ih]
 |a::d::f,0,h=>by simp[ih]
 |a::d::f,i+1,h=>by
  have:=nF c (d::f) i AU
  simp only[T4,TZ,ih,Tl]
  cases i with
  |zero=>simp only[Uu,ih,Tw]at this⊢;omega
  |succ i=>simp only[T4,ih,Tl]at this⊢;omega
theorem sU:∀(b:List (List UInt8))(i:Nat)(h:i<b.length),((b.take i).flatten).length+b[i].length≤b.flatten.length
 |[],i,h=>by simp at h
 |a::c,0,h=>by simp
 |a::c,i+1,h=>by
  have:=sU c i AU
  simp only[T4,TZ,Vi,Tl]
  omega
theorem mh(c:List UInt8→List UInt8)(b:List (List UInt8))(i:Nat)(h:i<b.length):(((b.take i).map c).flatten).length+(c b[i]).length≤((b.map c).flatten).length:=by
 have:=sU (b.map c) i AU
 simpa[List.map_take]using this
theorem uy:∀(b:Bool)(c:List (List UInt8))(i:Nat)(h:i<c.length),(iR b (c.take i)).length+5+c[i].length≤(iR b c).length+2
 |_,[],i,h=>by simp at h
 |b,a::d,0,h=>by simp only[Uu,iR,Tw,Tl,TF,To];cases b<;>simp<;>omega
 |b,a::d,i+1,h=>by
  have:=uy false d i AU
  simp only[T4,TZ,iR,Tl]
  omega
theorem uW:∀(b:List (Bool×List UInt8))(h:List UInt8)(i:Nat)(hi:i<b.length),((b.take i).foldl ib h).length+b[i].2.length≤(b.foldl ib h).length∧((b[i].1&&iJ ((b.take i).foldl ib h))=true→((b.take i).foldl ib h).length+b[i].2.length+1≤(b.foldl ib h).length)
 |[],h,i,hi=>by simp at hi
 |s::c,h,0,hi=>by
  have d:∀(c:List (Bool×List UInt8))(h:List UInt8),h.length≤(c.foldl ib h).length:=by
   intro c
   induction c with
   |nil=>intro h;simp
   |cons a c f=>intro h;have:=f (ib h a);simp only[Vy];have h2:h.length≤(ib h a).length:=by{simp only[ib,Tl];omega};omega
  have:=d c (ib h s)
  simp only[Uu,List.foldl_nil,Vy,TF]
  have h2:(ib h s).length=h.length+(if s.1&&iJ h then[(32:UInt8)]else[]).length+s.2.length:=by simp[ib];omega
  constructor
  ·omega
  ·intro hc;rw[TU hc]at h2;simp at h2;omega
 |s::c,h,i+1,hi=>by
  have:=uW c (ib h s) i A3
  simpa using this
theorem Ix(b:List UInt8):b.length+2≤(qL b).length:=by
 have:∀b:List UInt8,b.length≤(iS b).length:=by
  intro b
  induction b with
  |nil=>simp
  |cons c b d=>
   have h1:1≤(kK c).length:=by unfold kK;(repeat' split)<;>simp
   have h2:iS (c::b)=kK c++iS b:=by simp[iS]
   rw[h2,Tl,To];omega
 have:=this b
 simp[qL];omega
def mI:Nat→List UInt8
 |1=>[124]
 |2=>[44]
 |3=>[43]
 |4=>[45]
 |5=>[42]
 |6=>[47]
 |7=>[37]
 |8=>[61,61]
 |9=>[33,61]
 |10=>[62]
 |11=>[60]
 |12=>[62,61]
 |13=>[60,61]
 |14=>[97,110,100]
 |15=>[111,114]
 |16=>[47,47]
 |17=>[61]
 |18=>[124,61]
 |19=>[43,61]
 |20=>[45,61]
 |21=>[42,61]
 |22=>[47,61]
 |23=>[37,61]
 |24=>[47,47,61]
 |_=>[]
abbrev nP:Fd:=.v Zp
abbrev nS:Fd:=.v Zl
abbrev qG(fds:List G)(tm lf rt pt op:Fd):G:=.mk [nP,nS,.l fds,tm,lf,rt,pt,op]
abbrev ui(tm:G):G:=qG [] (.p tm) nP nP nS (.v Zi)
inductive Pr:Nat→G→List UInt8→Prop
 |PQ {q:G} {t:List UInt8} {s:ByteArray} (h_q:Pr 0 q t):Pr 2 (.mk [.v (.string s),.s [],.p q]) ([100,101,102,32]++s.data.toList++[58,32]++t++[59])
 |Ql {q:G} {t:List UInt8} {s:ByteArray} {ks:List ByteArray} (hne:0<ks.length) (hn_ks:ks.length≤1125899906842624) (h_q:Pr 0 q t):Pr 2 (.mk [.v (.string s),.s ks,.p q]) ([100,101,102,32]++s.data.toList++[40]++ih [59,32] (ks.map fun k=>k.data.toList)++[41]++[58,32]++t++[59])
 |Lb {s:ByteArray} (hne:s≠⟨#[]⟩):Pr 3 (.mk [.v (.string s),.v (.slice none 0 0),.v (.slice none 0 0)]) (s.data.toList)
 |Mj {gs:List G} {ts:List (List UInt8)} (hne:0<gs.length) (hn_gs:gs.length≤1125899906842624) (hl_gs:gs.length=ts.length) (h_gs:∀(i:Nat)(h1:i<gs.length)(h2:i<ts.length),Pr 3 gs[i] ts[i]):Pr 3 (.mk [.v (.string ⟨#[]⟩),.l gs,.v (.slice none 0 0)]) ([91]++ih [44,32] ts++[93])
 |MJ {gs:List G} {ts:List (List UInt8)} (hne:0<gs.length) (hn_gs:gs.length≤1125899906842624) (hl_gs:gs.length=ts.length) (h_gs:∀(i:Nat)(h1:i<gs.length)(h2:i<ts.length),Pr 4 gs[i] ts[i]):Pr 3 (.mk [.v (.string ⟨#[]⟩),.v (.slice none 0 0),.l gs]) ([123]++ih [44,32] ts++[125])
 |P1 {s:ByteArray} (hne:s≠⟨#[]⟩):Pr 4 (.mk [.v (.string s),.v (.pointer none),.v (.pointer none),.v (.pointer none)]) (s.data.toList)
 |Mb {v:G} {tv:List UInt8} {s:ByteArray} (hne:s≠⟨#[]⟩) (h_v:Pr 3 v tv):Pr 4 (.mk [.v (.string s),.v (.pointer none),.v (.pointer none),.p v]) (s.data.toList++[58,32]++tv)
 |MF {ks v:G} {tk tv:List UInt8} (h_ks:Pr 7 ks tk) (h_v:Pr 3 v tv):Pr 4 (.mk [.v (.string ⟨#[]⟩),.p ks,.v (.pointer none),.p v]) (tk++[58,32]++tv)
 |NP {s:ByteArray} (hne:s≠⟨#[]⟩):Pr 9 (.mk [.v (.string s),.v (.pointer none),.v (.pointer none),.v (.pointer none)]) (s.data.toList)
 |O7 {v:G} {tv:List UInt8} {s:ByteArray} (hne:s≠⟨#[]⟩) (h_v:Pr 0 v tv):Pr 9 (.mk [.v (.string s),.v (.pointer none),.v (.pointer none),.p v]) (s.data.toList++[58,32]++tv)
 |Nw {ks v:G} {tk tv:List UInt8} (h_ks:Pr 7 ks tk) (h_v:Pr 0 v tv):Pr 9 (.mk [.v (.string ⟨#[]⟩),.p ks,.v (.pointer none),.p v]) (tk++[58,32]++tv)
 |N9 {ks:G} {tk:List UInt8} (h_ks:Pr 7 ks tk):Pr 9 (.mk [.v (.string ⟨#[]⟩),.p ks,.v (.pointer none),.v (.pointer none)]) (tk)
 |L6 {kq v:G} {tk tv:List UInt8} (h_kq:Pr 0 kq tk) (h_v:Pr 0 v tv):Pr 9 (.mk [.v (.string ⟨#[]⟩),.v (.pointer none),.p kq,.p v]) ([40]++tk++[41]++[58,32]++tv)
 |OP {s:ByteArray} (hne:s≠⟨#[]⟩):Pr 5 (.mk [.v (.string s),.v (.pointer none),.v (.pointer none),.v (.pointer none),.v (.bool false)]) (s.data.toList)
 |ON {x:G} {t:List UInt8} (h_x:Pr 7 x t):Pr 5 (.mk [.v (.string ⟨#[]⟩),.p x,.v (.pointer none),.v (.pointer none),.v (.bool false)]) (t)
 |Pp {q:G} {t:List UInt8} (h_q:Pr 0 q t):Pr 24 (.mk [.v (.string ⟨#[]⟩),.v (.pointer none),.p q,.v (.pointer none),.v (.bool false)]) ([91]++t++[93])
 |Iy {q q2:G} {t t2:List UInt8} (h_q:Pr 0 q t) (h_q2:Pr 0 q2 t2):Pr 24 (.mk [.v (.string ⟨#[]⟩),.v (.pointer none),.p q,.p q2,.v (.bool true)]) ([91]++t++[58]++t2++[93])
 |Jl {q:G} {t:List UInt8} (h_q:Pr 0 q t):Pr 24 (.mk [.v (.string ⟨#[]⟩),.v (.pointer none),.p q,.v (.pointer none),.v (.bool true)]) ([91]++t++[58]++[93])
 |Kd {q2:G} {t2:List UInt8} (h_q2:Pr 0 q2 t2):Pr 24 (.mk [.v (.string ⟨#[]⟩),.v (.pointer none),.v (.pointer none),.p q2,.v (.bool true)]) ([91]++[58]++t2++[93])
 |NB {s:ByteArray}:Pr 6 (.mk [.v (.string s),.l []]) (s.data.toList)
 |Nz {s:ByteArray} {gs:List G} {ts:List (List UInt8)} (hne:0<gs.length) (hn_gs:gs.length≤1125899906842624) (hl_gs:gs.length=ts.length) (h_gs:∀(i:Nat)(h1:i<gs.length)(h2:i<ts.length),Pr 0 gs[i] ts[i]):Pr 6 (.mk [.v (.string s),.l gs]) (s.data.toList++[40]++ih [59,32] ts++[41])
 |NV {s:ByteArray}:Pr 6 (.mk [.v (.string s),.v (.slice none 0 0)]) (s.data.toList)
 |Fb {s:ByteArray} (hv:Lib.validD s.data.toList=true):Pr 7 (.mk [.v (.string s),.v (.slice none 0 0)]) (qL s.data.toList)
 |O0 {gs:List G} {ts:List (List UInt8)} (hne:0<gs.length) (hn_gs:gs.length≤1125899906842624) (hl_gs:gs.length=ts.length) (h_gs:∀(i:Nat)(h1:i<gs.length)(h2:i<ts.length),Pr 23 gs[i] ts[i]):Pr 7 (.mk [.v (.string ⟨#[]⟩),.l gs]) ([34]++ts.flatten++[34])
 |Ox:Pr 8 (.mk [.l []]) ([123,125])
 |OR {gs:List G} {ts:List (List UInt8)} (hne:0<gs.length) (hn_gs:gs.length≤1125899906842624) (hl_gs:gs.length=ts.length) (h_gs:∀(i:Nat)(h1:i<gs.length)(h2:i<ts.length),Pr 9 gs[i] ts[i]):Pr 8 (.mk [.l gs]) ([123,32]++ih [44,32] ts++[32,125])
 |N7:Pr 10 (.mk [.v (.pointer none)]) ([91]++[93])
 |OT {q:G} {t:List UInt8} (h_q:Pr 0 q t):Pr 10 (.mk [.p q]) ([91]++t++[93])
 |Nk {r:List Fd} {t:List UInt8} (h_x:Pr 24 (.mk (.v (.string ⟨#[]⟩)::nP::r)) t):Pr 11 (.mk [.p (.mk (.v (.string ⟨#[]⟩)::nP::r)),.v (.bool false),.v (.bool false)]) (t)
 |Qq:Pr 11 (.mk [.v (.pointer none),.v (.bool true),.v (.bool false)]) ([91,93])
 |QQ:Pr 11 (.mk [.v (.pointer none),.v (.bool false),.v (.bool true)]) ([63])
 |LN {s:ByteArray} {r:List Fd} {t:List UInt8} (hne:s≠⟨#[]⟩) (h_x:Pr 22 (.mk (.v (.string s)::r)) t):Pr 20 (.mk [.p (.mk (.v (.string s)::r)),.v (.bool false),.v (.bool false)]) (t)
 |LP {y:G} {r:List Fd} {t:List UInt8} (h_x:Pr 22 (.mk (.v (.string ⟨#[]⟩):: .p y::r)) t):Pr 20 (.mk [.p (.mk (.v (.string ⟨#[]⟩):: .p y::r)),.v (.bool false),.v (.bool false)]) (t)
 |Qk {c d:G} {tc td:List UInt8} {gs:List G} {ts:List (List UInt8)} (h_c:Pr 0 c tc) (h_d:Pr 0 d td) (hn_gs:gs.length≤1125899906842624) (hl_gs:gs.length=ts.length) (h_gs:∀(i:Nat)(h1:i<gs.length)(h2:i<ts.length),Pr 13 gs[i] ts[i]):Pr 12 (.mk [.p c,.p d,.l gs,.v (.pointer none)]) ([105,102,32]++tc++[32,116,104,101,110,32]++td++(ts.map (32::·)).flatten++[32,101,110,100])
 |PN {c d e:G} {tc td te:List UInt8} {gs:List G} {ts:List (List UInt8)} (h_c:Pr 0 c tc) (h_d:Pr 0 d td) (hn_gs:gs.length≤1125899906842624) (hl_gs:gs.length=ts.length) (h_gs:∀(i:Nat)(h1:i<gs.length)(h2:i<ts.length),Pr 13 gs[i] ts[i]) (h_e:Pr 0 e te):Pr 12 (.mk [.p c,.p d,.l gs,.p e]) ([105,102,32]++tc++[32,116,104,101,110,32]++td++(ts.map (32::·)).flatten++[32,101,108,115,101,32]++te++[32,101,110,100])
 |J8 {c d:G} {tc td:List UInt8} (h_c:Pr 0 c tc) (h_d:Pr 0 d td):Pr 13 (.mk [.p c,.p d]) ([101,108,105,102,32]++tc++[32,116,104,101,110,32]++td)
 |u4 {c:G} {tc:List UInt8} (h_c:Pr 0 c tc):Pr 14 (.mk [.p c,.v (.pointer none)]) ([116,114,121,32]++tc)
 |ur {c d:G} {tc td:List UInt8} (h_c:Pr 0 c tc) (h_d:Pr 0 d td):Pr 14 (.mk [.p c,.p d]) ([116,114,121,32]++tc++[32,99,97,116,99,104,32]++td)
 |red {q a c d:G} {t ta tc td:List UInt8} (h_q:Pr 0 q t) (h_a:Pr 3 a ta) (h_c:Pr 0 c tc) (h_d:Pr 0 d td):Pr 15 (.mk [.p q,.p a,.p c,.p d]) ([114,101,100,117,99,101,32]++t++[32,97,115,32]++ta++[32,40]++tc++[59,32]++td++[41])
 |uh {q a c d:G} {t ta tc td:List UInt8} (h_q:Pr 0 q t) (h_a:Pr 3 a ta) (h_c:Pr 0 c tc) (h_d:Pr 0 d td):Pr 16 (.mk [.p q,.p a,.p c,.p d,.v (.pointer none)]) ([102,111,114,101,97,99,104,32]++t++[32,97,115,32]++ta++[32,40]++tc++[59,32]++td++[41])
 |uI {q a c d e:G} {t ta tc td te:List UInt8} (h_q:Pr 0 q t) (h_a:Pr 3 a ta) (h_c:Pr 0 c tc) (h_d:Pr 0 d td) (h_e:Pr 0 e te):Pr 16 (.mk [.p q,.p a,.p c,.p d,.p e]) ([102,111,114,101,97,99,104,32]++t++[32,97,115,32]++ta++[32,40]++tc++[59,32]++td++[59,32]++te++[41])
 |HZ {q:G} {t:List UInt8} {s:ByteArray} (h_q:Pr 0 q t):Pr 17 (.mk [.v (.string s),.p q]) ([108,97,98,101,108,32]++s.data.toList++[32,124,32]++t)
 |un {x:G} {t:List UInt8} (h_x:Pr 1 x t):Pr 18 (.mk [.v (.int .i64 4),.p x]) ([45]++t)
 |IJ {x:G} {t:List UInt8} (h:Pr 5 x t):Pr 21 x (46::t)
 |uc {x:G} {t:List UInt8} (h:Pr 24 x t):Pr 21 x (46::t)
 |OX {x:G} {t:List UInt8} (h:Pr 5 x t):Pr 22 x (46::t)
 |Qj {q:G} {t:List UInt8} (h:Pr 0 (ui (.mk ([.v (.int .i64 20),.v (.pointer none),.v (.pointer none),.v (.pointer none),.v (.pointer none),.v (.string ⟨#[]⟩),.v (.pointer none),.v (.string ⟨#[]⟩),.v (.pointer none),.v (.pointer none),.v (.pointer none),.v (.pointer none),.v (.pointer none),.v (.pointer none),.v (.string ⟨#[]⟩),.p q]++[.l []]))) t):Pr 23 (ui (.mk ([.v (.int .i64 20),.v (.pointer none),.v (.pointer none),.v (.pointer none),.v (.pointer none),.v (.string ⟨#[]⟩),.v (.pointer none),.v (.string ⟨#[]⟩),.v (.pointer none),.v (.pointer none),.v (.pointer none),.v (.pointer none),.v (.pointer none),.v (.pointer none),.v (.string ⟨#[]⟩),.p q]++[.l []]))) (92::t)
 |PZ {s:ByteArray} (h:Pr 0 (ui (.mk ([.v (.int .i64 13),.v (.pointer none),.v (.pointer none),.v (.pointer none),.v (.pointer none),.v (.string ⟨#[]⟩),.v (.pointer none),.v (.string ⟨#[]⟩),.p (.mk [.v (.string s),nS]),.v (.pointer none),.v (.pointer none),.v (.pointer none),.v (.pointer none),.v (.pointer none),.v (.string ⟨#[]⟩),.v (.pointer none)]++[.l []]))) (qL s.data.toList)):Pr 23 (ui (.mk ([.v (.int .i64 13),.v (.pointer none),.v (.pointer none),.v (.pointer none),.v (.pointer none),.v (.string ⟨#[]⟩),.v (.pointer none),.v (.string ⟨#[]⟩),.p (.mk [.v (.string s),nS]),.v (.pointer none),.v (.pointer none),.v (.pointer none),.v (.pointer none),.v (.pointer none),.v (.string ⟨#[]⟩),.v (.pointer none)]++[.l []]))) (iS s.data.toList)
 |NM {gs:List G} {ss:List (Bool×List UInt8)} (hns:∀s∈ss,s.2≠[]) (hls:gs.length=ss.length) (hs:∀(i:Nat)(h1:i<gs.length)(h2:i<ss.length),Pr (cond ss[i].1 20 11) gs[i] ss[i].2):Pr 1 (.mk ([.v (.int .i64 1),.v (.pointer none),.v (.pointer none),.v (.pointer none),.v (.pointer none),.v (.string ⟨#[]⟩),.v (.pointer none),.v (.string ⟨#[]⟩),.v (.pointer none),.v (.pointer none),.v (.pointer none),.v (.pointer none),.v (.pointer none),.v (.pointer none),.v (.string ⟨#[]⟩),.v (.pointer none)]++[.l gs])) (ss.foldl ib ([46]))
 |Hm {gs:List G} {ss:List (Bool×List UInt8)} (hns:∀s∈ss,s.2≠[]) (hls:gs.length=ss.length) (hs:∀(i:Nat)(h1:i<gs.length)(h2:i<ss.length),Pr (cond ss[i].1 20 11) gs[i] ss[i].2):Pr 1 (.mk ([.v (.int .i64 2),.v (.pointer none),.v (.pointer none),.v (.pointer none),.v (.pointer none),.v (.string ⟨#[]⟩),.v (.pointer none),.v (.string ⟨#[]⟩),.v (.pointer none),.v (.pointer none),.v (.pointer none),.v (.pointer none),.v (.pointer none),.v (.pointer none),.v (.string ⟨#[]⟩),.v (.pointer none)]++[.l gs])) (ss.foldl ib ([46,46]))
 |wU {gs:List G} {ss:List (Bool×List UInt8)} (hns:∀s∈ss,s.2≠[]) (hls:gs.length=ss.length) (hs:∀(i:Nat)(h1:i<gs.length)(h2:i<ss.length),Pr (cond ss[i].1 20 11) gs[i] ss[i].2):Pr 1 (.mk ([.v (.int .i64 3),.v (.pointer none),.v (.pointer none),.v (.pointer none),.v (.pointer none),.v (.string ⟨#[]⟩),.v (.pointer none),.v (.string ⟨#[]⟩),.v (.pointer none),.v (.pointer none),.v (.pointer none),.v (.pointer none),.v (.pointer none),.v (.pointer none),.v (.string ⟨#[]⟩),.v (.pointer none)]++[.l gs])) (ss.foldl ib ([110,117,108,108]))
 |xI {gs:List G} {ss:List (Bool×List UInt8)} (hns:∀s∈ss,s.2≠[]) (hls:gs.length=ss.length) (hs:∀(i:Nat)(h1:i<gs.length)(h2:i<ss.length),Pr (cond ss[i].1 20 11) gs[i] ss[i].2):Pr 1 (.mk ([.v (.int .i64 4),.v (.pointer none),.v (.pointer none),.v (.pointer none),.v (.pointer none),.v (.string ⟨#[]⟩),.v (.pointer none),.v (.string ⟨#[]⟩),.v (.pointer none),.v (.pointer none),.v (.pointer none),.v (.pointer none),.v (.pointer none),.v (.pointer none),.v (.string ⟨#[]⟩),.v (.pointer none)]++[.l gs])) (ss.foldl ib ([116,114,117,101]))
 |sH {gs:List G} {ss:List (Bool×List UInt8)} (hns:∀s∈ss,s.2≠[]) (hls:gs.length=ss.length) (hs:∀(i:Nat)(h1:i<gs.length)(h2:i<ss.length),Pr (cond ss[i].1 20 11) gs[i] ss[i].2):Pr 1 (.mk ([.v (.int .i64 5),.v (.pointer none),.v (.pointer none),.v (.pointer none),.v (.pointer none),.v (.string ⟨#[]⟩),.v (.pointer none),.v (.string ⟨#[]⟩),.v (.pointer none),.v (.pointer none),.v (.pointer none),.v (.pointer none),.v (.pointer none),.v (.pointer none),.v (.string ⟨#[]⟩),.v (.pointer none)]++[.l gs])) (ss.foldl ib ([102,97,108,115,101]))
 |NK {x:G} {t:List UInt8} {gs:List G} {ss:List (Bool×List UInt8)} (hns:∀s∈ss,s.2≠[]) (hls:gs.length=ss.length) (hs:∀(i:Nat)(h1:i<gs.length)(h2:i<ss.length),Pr (cond ss[i].1 20 11) gs[i] ss[i].2) (hh:t≠[]) (h_x:Pr 21 x t):Pr 1 (.mk ([.v (.int .i64 6),.p x,.v (.pointer none),.v (.pointer none),.v (.pointer none),.v (.string ⟨#[]⟩),.v (.pointer none),.v (.string ⟨#[]⟩),.v (.pointer none),.v (.pointer none),.v (.pointer none),.v (.pointer none),.v (.pointer none),.v (.pointer none),.v (.string ⟨#[]⟩),.v (.pointer none)]++[.l gs])) (ss.foldl ib (t))
 |NZ {x:G} {t:List UInt8} {gs:List G} {ss:List (Bool×List UInt8)} (hns:∀s∈ss,s.2≠[]) (hls:gs.length=ss.length) (hs:∀(i:Nat)(h1:i<gs.length)(h2:i<ss.length),Pr (cond ss[i].1 20 11) gs[i] ss[i].2) (hh:t≠[]) (h_x:Pr 6 x t):Pr 1 (.mk ([.v (.int .i64 7),.v (.pointer none),.p x,.v (.pointer none),.v (.pointer none),.v (.string ⟨#[]⟩),.v (.pointer none),.v (.string ⟨#[]⟩),.v (.pointer none),.v (.pointer none),.v (.pointer none),.v (.pointer none),.v (.pointer none),.v (.pointer none),.v (.string ⟨#[]⟩),.v (.pointer none)]++[.l gs])) (ss.foldl ib (t))
 |NI {x:G} {t:List UInt8} {gs:List G} {ss:List (Bool×List UInt8)} (hns:∀s∈ss,s.2≠[]) (hls:gs.length=ss.length) (hs:∀(i:Nat)(h1:i<gs.length)(h2:i<ss.length),Pr (cond ss[i].1 20 11) gs[i] ss[i].2) (hh:t≠[]) (h_x:Pr 8 x t):Pr 1 (.mk ([.v (.int .i64 8),.v (.pointer none),.v (.pointer none),.p x,.v (.pointer none),.v (.string ⟨#[]⟩),.v (.pointer none),.v (.string ⟨#[]⟩),.v (.pointer none),.v (.pointer none),.v (.pointer none),.v (.pointer none),.v (.pointer none),.v (.pointer none),.v (.string ⟨#[]⟩),.v (.pointer none)]++[.l gs])) (ss.foldl ib (t))
 |N2 {x:G} {t:List UInt8} {gs:List G} {ss:List (Bool×List UInt8)} (hns:∀s∈ss,s.2≠[]) (hls:gs.length=ss.length) (hs:∀(i:Nat)(h1:i<gs.length)(h2:i<ss.length),Pr (cond ss[i].1 20 11) gs[i] ss[i].2) (hh:t≠[]) (h_x:Pr 10 x t):Pr 1 (.mk ([.v (.int .i64 9),.v (.pointer none),.v (.pointer none),.v (.pointer none),.p x,.v (.string ⟨#[]⟩),.v (.pointer none),.v (.string ⟨#[]⟩),.v (.pointer none),.v (.pointer none),.v (.pointer none),.v (.pointer none),.v (.pointer none),.v (.pointer none),.v (.string ⟨#[]⟩),.v (.pointer none)]++[.l gs])) (ss.foldl ib (t))
 |NQ {x:G} {t:List UInt8} {gs:List G} {ss:List (Bool×List UInt8)} (hns:∀s∈ss,s.2≠[]) (hls:gs.length=ss.length) (hs:∀(i:Nat)(h1:i<gs.length)(h2:i<ss.length),Pr (cond ss[i].1 20 11) gs[i] ss[i].2) (hh:t≠[]) (h_x:Pr 18 x t):Pr 1 (.mk ([.v (.int .i64 11),.v (.pointer none),.v (.pointer none),.v (.pointer none),.v (.pointer none),.v (.string ⟨#[]⟩),.p x,.v (.string ⟨#[]⟩),.v (.pointer none),.v (.pointer none),.v (.pointer none),.v (.pointer none),.v (.pointer none),.v (.pointer none),.v (.string ⟨#[]⟩),.v (.pointer none)]++[.l gs])) (ss.foldl ib (t))
 |Nj {x:G} {t:List UInt8} {gs:List G} {ss:List (Bool×List UInt8)} (hns:∀s∈ss,s.2≠[]) (hls:gs.length=ss.length) (hs:∀(i:Nat)(h1:i<gs.length)(h2:i<ss.length),Pr (cond ss[i].1 20 11) gs[i] ss[i].2) (hh:t≠[]) (h_x:Pr 7 x t):Pr 1 (.mk ([.v (.int .i64 13),.v (.pointer none),.v (.pointer none),.v (.pointer none),.v (.pointer none),.v (.string ⟨#[]⟩),.v (.pointer none),.v (.string ⟨#[]⟩),.p x,.v (.pointer none),.v (.pointer none),.v (.pointer none),.v (.pointer none),.v (.pointer none),.v (.string ⟨#[]⟩),.v (.pointer none)]++[.l gs])) (ss.foldl ib (t))
 |NR {x:G} {t:List UInt8} {gs:List G} {ss:List (Bool×List UInt8)} (hns:∀s∈ss,s.2≠[]) (hls:gs.length=ss.length) (hs:∀(i:Nat)(h1:i<gs.length)(h2:i<ss.length),Pr (cond ss[i].1 20 11) gs[i] ss[i].2) (hh:t≠[]) (h_x:Pr 12 x t):Pr 1 (.mk ([.v (.int .i64 14),.v (.pointer none),.v (.pointer none),.v (.pointer none),.v (.pointer none),.v (.string ⟨#[]⟩),.v (.pointer none),.v (.string ⟨#[]⟩),.v (.pointer none),.p x,.v (.pointer none),.v (.pointer none),.v (.pointer none),.v (.pointer none),.v (.string ⟨#[]⟩),.v (.pointer none)]++[.l gs])) (ss.foldl ib (t))
 |GP {x:G} {t:List UInt8} {gs:List G} {ss:List (Bool×List UInt8)} (hns:∀s∈ss,s.2≠[]) (hls:gs.length=ss.length) (hs:∀(i:Nat)(h1:i<gs.length)(h2:i<ss.length),Pr (cond ss[i].1 20 11) gs[i] ss[i].2) (hh:t≠[]) (h_x:Pr 14 x t):Pr 1 (.mk ([.v (.int .i64 15),.v (.pointer none),.v (.pointer none),.v (.pointer none),.v (.pointer none),.v (.string ⟨#[]⟩),.v (.pointer none),.v (.string ⟨#[]⟩),.v (.pointer none),.v (.pointer none),.p x,.v (.pointer none),.v (.pointer none),.v (.pointer none),.v (.string ⟨#[]⟩),.v (.pointer none)]++[.l gs])) (ss.foldl ib (t))
 |Ho {x:G} {t:List UInt8} {gs:List G} {ss:List (Bool×List UInt8)} (hns:∀s∈ss,s.2≠[]) (hls:gs.length=ss.length) (hs:∀(i:Nat)(h1:i<gs.length)(h2:i<ss.length),Pr (cond ss[i].1 20 11) gs[i] ss[i].2) (hh:t≠[]) (h_x:Pr 15 x t):Pr 1 (.mk ([.v (.int .i64 16),.v (.pointer none),.v (.pointer none),.v (.pointer none),.v (.pointer none),.v (.string ⟨#[]⟩),.v (.pointer none),.v (.string ⟨#[]⟩),.v (.pointer none),.v (.pointer none),.v (.pointer none),.p x,.v (.pointer none),.v (.pointer none),.v (.string ⟨#[]⟩),.v (.pointer none)]++[.l gs])) (ss.foldl ib (t))
 |G3 {x:G} {t:List UInt8} {gs:List G} {ss:List (Bool×List UInt8)} (hns:∀s∈ss,s.2≠[]) (hls:gs.length=ss.length) (hs:∀(i:Nat)(h1:i<gs.length)(h2:i<ss.length),Pr (cond ss[i].1 20 11) gs[i] ss[i].2) (hh:t≠[]) (h_x:Pr 16 x t):Pr 1 (.mk ([.v (.int .i64 17),.v (.pointer none),.v (.pointer none),.v (.pointer none),.v (.pointer none),.v (.string ⟨#[]⟩),.v (.pointer none),.v (.string ⟨#[]⟩),.v (.pointer none),.v (.pointer none),.v (.pointer none),.v (.pointer none),.p x,.v (.pointer none),.v (.string ⟨#[]⟩),.v (.pointer none)]++[.l gs])) (ss.foldl ib (t))
 |Hl {x:G} {t:List UInt8} {gs:List G} {ss:List (Bool×List UInt8)} (hns:∀s∈ss,s.2≠[]) (hls:gs.length=ss.length) (hs:∀(i:Nat)(h1:i<gs.length)(h2:i<ss.length),Pr (cond ss[i].1 20 11) gs[i] ss[i].2) (hh:t≠[]) (h_x:Pr 17 x t):Pr 1 (.mk ([.v (.int .i64 18),.v (.pointer none),.v (.pointer none),.v (.pointer none),.v (.pointer none),.v (.string ⟨#[]⟩),.v (.pointer none),.v (.string ⟨#[]⟩),.v (.pointer none),.v (.pointer none),.v (.pointer none),.v (.pointer none),.v (.pointer none),.p x,.v (.string ⟨#[]⟩),.v (.pointer none)]++[.l gs])) (ss.foldl ib (t))
 |FF {s:ByteArray} {gs:List G} {ss:List (Bool×List UInt8)} (hns:∀s∈ss,s.2≠[]) (hls:gs.length=ss.length) (hs:∀(i:Nat)(h1:i<gs.length)(h2:i<ss.length),Pr (cond ss[i].1 20 11) gs[i] ss[i].2) (hh:s≠⟨#[]⟩):Pr 1 (.mk ([.v (.int .i64 10),.v (.pointer none),.v (.pointer none),.v (.pointer none),.v (.pointer none),.v (.string s),.v (.pointer none),.v (.string ⟨#[]⟩),.v (.pointer none),.v (.pointer none),.v (.pointer none),.v (.pointer none),.v (.pointer none),.v (.pointer none),.v (.string ⟨#[]⟩),.v (.pointer none)]++[.l gs])) (ss.foldl ib (s.data.toList))
 |Hi {s:ByteArray} {gs:List G} {ss:List (Bool×List UInt8)} (hns:∀s∈ss,s.2≠[]) (hls:gs.length=ss.length) (hs:∀(i:Nat)(h1:i<gs.length)(h2:i<ss.length),Pr (cond ss[i].1 20 11) gs[i] ss[i].2) (hh:s≠⟨#[]⟩):Pr 1 (.mk ([.v (.int .i64 12),.v (.pointer none),.v (.pointer none),.v (.pointer none),.v (.pointer none),.v (.string ⟨#[]⟩),.v (.pointer none),.v (.string s),.v (.pointer none),.v (.pointer none),.v (.pointer none),.v (.pointer none),.v (.pointer none),.v (.pointer none),.v (.string ⟨#[]⟩),.v (.pointer none)]++[.l gs])) (ss.foldl ib (s.data.toList))
 |FA {x:G} {t:List UInt8} {s:ByteArray} {gs:List G} {ss:List (Bool×List UInt8)} (hns:∀s∈ss,s.2≠[]) (hls:gs.length=ss.length) (hs:∀(i:Nat)(h1:i<gs.length)(h2:i<ss.length),Pr (cond ss[i].1 20 11) gs[i] ss[i].2) (h_x:Pr 7 x t):Pr 1 (.mk ([.v (.int .i64 12),.v (.pointer none),.v (.pointer none),.v (.pointer none),.v (.pointer none),.v (.string ⟨#[]⟩),.v (.pointer none),.v (.string s),.p x,.v (.pointer none),.v (.pointer none),.v (.pointer none),.v (.pointer none),.v (.pointer none),.v (.string ⟨#[]⟩),.v (.pointer none)]++[.l gs])) (ss.foldl ib (s.data.toList++[32]++t))
 |Fv {s:ByteArray} {gs:List G} {ss:List (Bool×List UInt8)} (hns:∀s∈ss,s.2≠[]) (hls:gs.length=ss.length) (hs:∀(i:Nat)(h1:i<gs.length)(h2:i<ss.length),Pr (cond ss[i].1 20 11) gs[i] ss[i].2):Pr 1 (.mk ([.v (.int .i64 19),.v (.pointer none),.v (.pointer none),.v (.pointer none),.v (.pointer none),.v (.string ⟨#[]⟩),.v (.pointer none),.v (.string ⟨#[]⟩),.v (.pointer none),.v (.pointer none),.v (.pointer none),.v (.pointer none),.v (.pointer none),.v (.pointer none),.v (.string s),.v (.pointer none)]++[.l gs])) (ss.foldl ib ([98,114,101,97,107,32]++s.data.toList))
 |hQ {q:G} {t:List UInt8} {gs:List G} {ss:List (Bool×List UInt8)} (hns:∀s∈ss,s.2≠[]) (hls:gs.length=ss.length) (hs:∀(i:Nat)(h1:i<gs.length)(h2:i<ss.length),Pr (cond ss[i].1 20 11) gs[i] ss[i].2) (h_q:Pr 0 q t):Pr 1 (.mk ([.v (.int .i64 20),.v (.pointer none),.v (.pointer none),.v (.pointer none),.v (.pointer none),.v (.string ⟨#[]⟩),.v (.pointer none),.v (.string ⟨#[]⟩),.v (.pointer none),.v (.pointer none),.v (.pointer none),.v (.pointer none),.v (.pointer none),.v (.pointer none),.v (.string ⟨#[]⟩),.p q]++[.l gs])) (ss.foldl ib ([40]++t++[41]))
 |qT {fds:List G} {ds:List (List UInt8)} (hld:fds.length=ds.length) (hd:∀(i:Nat)(h1:i<fds.length)(h2:i<ds.length),Pr 2 fds[i] ds[i]) {x:G} {t:List UInt8} (h:Pr 1 x t):Pr 0 (qG fds (.p x) nP nP nS (.v (.int .i64 0))) ((ds.map (· ++[32])).flatten++t)
 |qC {fds:List G} {ds:List (List UInt8)} (hld:fds.length=ds.length) (hd:∀(i:Nat)(h1:i<fds.length)(h2:i<ds.length),Pr 2 fds[i] ds[i]) {a b:G} {ta tb:List UInt8} (ha:Pr 0 a ta) (hb:Pr 0 b tb):Pr 0 (qG fds nP (.p a) (.p b) nS (.v (.int .i64 2))) ((ds.map (· ++[32])).flatten++(ta++[44,32]++tb))
 |qB {fds:List G} {ds:List (List UInt8)} (hld:fds.length=ds.length) (hd:∀(i:Nat)(h1:i<fds.length)(h2:i<ds.length),Pr 2 fds[i] ds[i]) {a b:G} {ta tb:List UInt8} {k:Nat} (hk:1≤k∧k≤24∧k≠2) (ha:Pr 0 a ta) (hb:Pr 0 b tb):Pr 0 (qG fds nP (.p a) (.p b) nS (.v (.int .i64 (k:Int)))) ((ds.map (· ++[32])).flatten++(ta++[32]++mI k++[32]++tb))
 |qP {fds:List G} {ds:List (List UInt8)} (hld:fds.length=ds.length) (hd:∀(i:Nat)(h1:i<fds.length)(h2:i<ds.length),Pr 2 fds[i] ds[i]) {a b:G} {ta tb:List UInt8} {ps:List G} {ts:List (List UInt8)} (hnp:ps.length≤1125899906842624) (hlp:ps.length=ts.length) (hp:∀(i:Nat)(h1:i<ps.length)(h2:i<ts.length),Pr 3 ps[i] ts[i]) (ha:Pr 0 a ta) (hb:Pr 0 b tb):Pr 0 (qG fds nP (.p a) (.p b) (.l ps) (.v (.int .i64 1))) ((ds.map (· ++[32])).flatten++(ta++[32]++iR true ts++[124,32]++tb))
def Wr(w0:World)(D:Nat→Prop)(fn:Nat)(g:G)(t:List UInt8):Prop:=
 ∀(cs:Array Value),HR w0 D g cs→∀(b T:Nat),D b→w0.heap[b]? =some (.cells cs T (0,0))→∀(w:World)(B sb:Nat)(l:List UInt8),Kp D w0 w→w0.heap.size≤w.heap.size→(∀d,D d→d<B)→2≤B→ij w→Bf w B sb l→l.length+t.length≤17592186044416→iJ l=false→Calls Tryz.prog fn #[Pt b,Pt sb] w (hH w (rg B w) fun _ w'=>Bf w' B sb (l++t))
def Qs(w0:World)(D:Nat→Prop)(fn:Nat)(g:G)(t:List UInt8):Prop:=
 ∀(cs:Array Value),HR w0 D g cs→∀(b T:Nat),D b→w0.heap[b]? =some (.cells cs T (0,0))→∀(w:World)(B sb:Nat)(l:List UInt8),Kp D w0 w→w0.heap.size≤w.heap.size→(∀d,D d→d<B)→2≤B→ij w→Bf w B sb l→(ib l (true,t)).length≤17592186044416→Calls Tryz.prog fn #[Pt b,Pt sb] w (hH w (rg B w) fun _ w'=>Bf w' B sb (ib l (true,t)))
def NG(w0:World)(D:Nat→Prop)(fn:Nat)(g:G)(t:List UInt8):Prop:=
 ∀(cs:Array Value),HR w0 D g cs→∀(b T:Nat),D b→w0.heap[b]? =some (.cells cs T (0,0))→∀(w:World)(B sb:Nat)(l:List UInt8),Kp D w0 w→w0.heap.size≤w.heap.size→(∀d,D d→d<B)→2≤B→ij w→Bf w B sb l→l.length+t.length≤17592186044416→Calls Tryz.prog fn #[Pt b,Pt sb] w (hH w (rg B w) fun _ w'=>Bf w' B sb (l++t))
def RI:Nat→Nat
 |0=>40
 |1=>77
 |2=>75
 |3=>78
 |4=>117
 |6=>106
 |8=>107
 |9=>127
 |10=>108
 |12=>111
 |13=>128
 |14=>112
 |15=>113
 |16=>114
 |17=>115
 |18=>109
 |21=>105
 |_=>0
def WG(w0:World)(D:Nat→Prop):Nat→G→List UInt8→Prop
 |20=>Qs w0 D 116
 |22=>Qs w0 D 105
 |5=>NG w0 D 126
 |24=>NG w0 D 126
 |7=>NG w0 D 110
 |11=>NG w0 D 116
 |23=>fun g t=>(∃q u,t=92::u∧g=ui (.mk ([.v (.int .i64 20),.v (.pointer none),.v (.pointer none),.v (.pointer none),.v (.pointer none),.v (.string ⟨#[]⟩),.v (.pointer none),.v (.string ⟨#[]⟩),.v (.pointer none),.v (.pointer none),.v (.pointer none),.v (.pointer none),.v (.pointer none),.v (.pointer none),.v (.string ⟨#[]⟩),.p q]++[.l []]))∧Wr w0 D 40 g u)∨(∃s:ByteArray,t=iS s.data.toList∧g=ui (.mk ([.v (.int .i64 13),.v (.pointer none),.v (.pointer none),.v (.pointer none),.v (.pointer none),.v (.string ⟨#[]⟩),.v (.pointer none),.v (.string ⟨#[]⟩),.p (.mk [.v (.string s),nS]),.v (.pointer none),.v (.pointer none),.v (.pointer none),.v (.pointer none),.v (.pointer none),.v (.string ⟨#[]⟩),.v (.pointer none)]++[.l []]))∧Wr w0 D 40 g (qL s.data.toList))
 |k=>Wr w0 D (RI k)
theorem Y.uG{e:Env}{w:World}{dst:Option Tmp}{ty:TypeId}{pos:String}{af:Array Edge}{d:Option (Nat×Bool)}{x:Operand}{t u el:TypeId}{q:Option Addr}{n c:Nat}{b:Bool}(ht:Tryz.prog.underlying t=some (.slice el))(hx:ev e x=.slice q n c)(f:q.isNone=b):Y Tryz.prog e ⟨dst,.binOp .eql t x (.const Zl) u,ty,pos,af,d⟩ w (.bool b):=by
 subst f
 unfold Y
 have hc:ev e (.const Zl)=Zl:=rfl
 have h:=run_eql_slice_nil (P:=Tryz.prog) w t el q n c ht
 have g:eqGuard .eql t x (.const Zl) (.slice q n c) Zl=pure ():=by cases q<;>rfl
 simp only[execOp,hx,hc,g,Sem.run_bind,Sem.run_pure,Result.andThen_ok,h]
theorem kG{s:ByteArray}(x:List UInt8)(hs:s.data.toList=x)(h:Bf w m k L)(hlen:L.length+x.length≤140737488355328):Calls Tryz.prog 72 #[Pt k,.string s] w (hH w (rg m w) fun c b=>Bf b m k (L++x)):=by
 subst hs;exact WS h hlen
theorem IL(b:World):Calls Tryz.prog 79 #[.int .i64 1] b (hH b [] fun c _=>c=.string CI):=cY Tryz.func79 fun d=>ac 20<|rX d rfl
theorem JY(b:World):Calls Tryz.prog 79 #[.int .i64 2] b (hH b [] fun c _=>c=.string CM):=cY Tryz.func79 fun d=>ac 26<|rX d rfl
theorem IQ(b:World):Calls Tryz.prog 79 #[.int .i64 3] b (hH b [] fun c _=>c=.string ⟨#[43]⟩):=cY Tryz.func79 fun d=>ac 32<|rX d rfl
theorem I5(b:World):Calls Tryz.prog 79 #[.int .i64 4] b (hH b [] fun c _=>c=.string C5):=cY Tryz.func79 fun d=>ac 38<|rX d rfl
theorem KY(b:World):Calls Tryz.prog 79 #[.int .i64 5] b (hH b [] fun c _=>c=.string ⟨#[42]⟩):=cY Tryz.func79 fun d=>ac 40<|ac 4<|rX d rfl
theorem KP(b:World):Calls Tryz.prog 79 #[.int .i64 6] b (hH b [] fun c _=>c=.string CO):=cY Tryz.func79 fun d=>ac 40<|ac 10<|rX d rfl
theorem KH(b:World):Calls Tryz.prog 79 #[.int .i64 7] b (hH b [] fun c _=>c=.string ⟨#[37]⟩):=cY Tryz.func79 fun d=>ac 40<|ac 16<|rX d rfl
theorem I7(b:World):Calls Tryz.prog 79 #[.int .i64 8] b (hH b [] fun c _=>c=.string ⟨#[61,61]⟩):=cY Tryz.func79 fun d=>ac 40<|ac 22<|rX d rfl
theorem Js(b:World):Calls Tryz.prog 79 #[.int .i64 9] b (hH b [] fun c _=>c=.string ⟨#[33,61]⟩):=cY Tryz.func79 fun d=>ac 40<|ac 28<|rX d rfl
theorem FE(b:World):Calls Tryz.prog 79 #[.int .i64 10] b (hH b [] fun c _=>c=.string ⟨#[62]⟩):=cY Tryz.func79 fun d=>ac 40<|ac 32<|au 2<|rX d rfl
theorem G4(b:World):Calls Tryz.prog 79 #[.int .i64 11] b (hH b [] fun c _=>c=.string ⟨#[60]⟩):=cY Tryz.func79 fun d=>ac 40<|ac 32<|au 8<|rX d rfl
theorem Gx(b:World):Calls Tryz.prog 79 #[.int .i64 12] b (hH b [] fun c _=>c=.string ⟨#[62,61]⟩):=cY Tryz.func79 fun d=>ac 40<|ac 32<|au 14<|rX d rfl
theorem GS(b:World):Calls Tryz.prog 79 #[.int .i64 13] b (hH b [] fun c _=>c=.string ⟨#[60,61]⟩):=cY Tryz.func79 fun d=>ac 40<|ac 32<|au 20<|rX d rfl
theorem Fk(b:World):Calls Tryz.prog 79 #[.int .i64 14] b (hH b [] fun c _=>c=.string C7):=cY Tryz.func79 fun d=>ac 40<|ac 32<|au 26<|rX d rfl
theorem Hj(b:World):Calls Tryz.prog 79 #[.int .i64 15] b (hH b [] fun c _=>c=.string Ea):=cY Tryz.func79 fun d=>ac 40<|ac 32<|au 32<|rX d rfl
theorem HK(b:World):Calls Tryz.prog 79 #[.int .i64 16] b (hH b [] fun c _=>c=.string CY):=cY Tryz.func79 fun d=>ac 40<|ac 32<|au 38<|rX d rfl
theorem Gp(b:World):Calls Tryz.prog 79 #[.int .i64 17] b (hH b [] fun c _=>c=.string ⟨#[61]⟩):=cY Tryz.func79 fun d=>ac 40<|ac 32<|au 40<|ac 4<|rX d rfl
theorem Fz(b:World):Calls Tryz.prog 79 #[.int .i64 18] b (hH b [] fun c _=>c=.string ⟨#[124,61]⟩):=cY Tryz.func79 fun d=>ac 40<|ac 32<|au 40<|ac 10<|rX d rfl
theorem GX(b:World):Calls Tryz.prog 79 #[.int .i64 19] b (hH b [] fun c _=>c=.string ⟨#[43,61]⟩):=cY Tryz.func79 fun d=>ac 40<|ac 32<|au 40<|ac 16<|rX d rfl
theorem Hr(b:World):Calls Tryz.prog 79 #[.int .i64 20] b (hH b [] fun c _=>c=.string ⟨#[45,61]⟩):=cY Tryz.func79 fun d=>ac 40<|ac 32<|au 40<|ac 22<|rX d rfl
theorem G8(b:World):Calls Tryz.prog 79 #[.int .i64 21] b (hH b [] fun c _=>c=.string ⟨#[42,61]⟩):=cY Tryz.func79 fun d=>ac 40<|ac 32<|au 40<|ac 28<|rX d rfl
theorem GW(b:World):Calls Tryz.prog 79 #[.int .i64 22] b (hH b [] fun c _=>c=.string ⟨#[47,61]⟩):=cY Tryz.func79 fun d=>ac 40<|ac 32<|au 40<|ac 28<|ac 6<|rX d rfl
theorem Hc(b:World):Calls Tryz.prog 79 #[.int .i64 23] b (hH b [] fun c _=>c=.string ⟨#[37,61]⟩):=cY Tryz.func79 fun d=>ac 40<|ac 32<|au 40<|ac 28<|ac 12<|rX d rfl
theorem HB(b:World):Calls Tryz.prog 79 #[.int .i64 24] b (hH b [] fun c _=>c=.string ⟨#[47,47,61]⟩):=cY Tryz.func79 fun d=>ac 40<|ac 32<|au 40<|ac 28<|ac 18<|rX d rfl
def jQ:Nat→ByteArray
 |1=>⟨#[124]⟩
 |2=>⟨#[44]⟩
 |3=>⟨#[43]⟩
 |4=>⟨#[45]⟩
 |5=>⟨#[42]⟩
 |6=>⟨#[47]⟩
 |7=>⟨#[37]⟩
 |8=>⟨#[61,61]⟩
 |9=>⟨#[33,61]⟩
 |10=>⟨#[62]⟩
 |11=>⟨#[60]⟩
 |12=>⟨#[62,61]⟩
 |13=>⟨#[60,61]⟩
 |14=>⟨#[97,110,100]⟩
 |15=>⟨#[111,114]⟩
 |16=>⟨#[47,47]⟩
 |17=>⟨#[61]⟩
 |18=>⟨#[124,61]⟩
 |19=>⟨#[43,61]⟩
 |20=>⟨#[45,61]⟩
 |21=>⟨#[42,61]⟩
 |22=>⟨#[47,61]⟩
 |23=>⟨#[37,61]⟩
 |24=>⟨#[47,47,61]⟩
 |_=>⟨#[]⟩
theorem xJ:∀(n:Nat)(b:World),1≤n∧n≤24→Calls Tryz.prog 79 #[.int .i64 (n:Int)] b (hH b [] fun c _=>c=.string (jQ n))
 |0,_,h=>by omega
 |1,b,_=>IL b
 |2,b,_=>JY b
 |3,b,_=>IQ b
 |4,b,_=>I5 b
 |5,b,_=>KY b
 |6,b,_=>KP b
 |7,b,_=>KH b
 |8,b,_=>I7 b
 |9,b,_=>Js b
 |10,b,_=>FE b
 |11,b,_=>G4 b
 |12,b,_=>Gx b
 |13,b,_=>GS b
 |14,b,_=>Fk b
 |15,b,_=>Hj b
 |16,b,_=>HK b
 |17,b,_=>Gp b
 |18,b,_=>Fz b
 |19,b,_=>GX b
 |20,b,_=>Hr b
 |21,b,_=>G8 b
 |22,b,_=>GW b
 |23,b,_=>Hc b
 |24,b,_=>HB b
 |n+25,_,h=>by omega
theorem Mi:∀n,1≤n∧n≤24→(jQ n).data.toList=mI n
 |0,h=>by omega
 |1,_=>rfl
 |2,_=>rfl
 |3,_=>rfl
 |4,_=>rfl
 |5,_=>rfl
 |6,_=>rfl
 |7,_=>rfl
 |8,_=>rfl
 |9,_=>rfl
 |10,_=>rfl
 |11,_=>rfl
 |12,_=>rfl
 |13,_=>rfl
 |14,_=>rfl
 |15,_=>rfl
 |16,_=>rfl
 |17,_=>rfl
 |18,_=>rfl
 |19,_=>rfl
 |20,_=>rfl
 |21,_=>rfl
 |22,_=>rfl
 |23,_=>rfl
 |24,_=>rfl
 |n+25,h=>by omega
theorem Nl{s:ByteArray}(l:WG w D 0 gH L):WG w D 2 (.mk [.v (.string s),.s [],.p gH]) ([100,101,102,32]++s.data.toList++[58,32]++L++[59]):=by
 intro E d m F g o H p q I j J k r t b hlen hnd
 have f:=j.hO o g
 have K:=k m g
 have h0:=d.v 0 rfl
 obtain⟨M,O,h1,P⟩:=d.s 1 rfl
 obtain⟨u,v,y,h2,z,A,B⟩:=d.p 2 rfl
 exact cY Tryz.func75 fun C=>ac 3<|cX (kG [100,101,102,32] rfl b Aa) fun _ Q R S b=>au 4<|mf 0 (Gb f) h0 rfl<|cX (WS b Aa) fun _ T U W b=>au 4<|mf 1 (Gb f) h1 rfl<|au 8<|cX (kG [58,32] rfl b Aa) fun _ X Y Z b=>au 3<|mf 2 (Gb f) h2 rfl<|au 1<|cX (l y B u v z A _ p q _ j.g Ac k r t.g b Aa Ao) fun _ aa ab ad b=>au 3<|cX (WB (c:=59) b rfl Aa) fun _ ae af ag b=>au 1<|rE C.g (b.cast Al)
theorem Ma{s:ByteArray}{ks:List ByteArray}(Z:0<ks.length)(aa:ks.length≤1125899906842624)(A:WG w D 0 gH L):WG w D 2 (.mk [.v (.string s),.s ks,.p gH]) ([100,101,102,32]++s.data.toList++[40]++ih [59,32] (ks.map fun d=>d.data.toList)++[41]++[58,32]++L++[59]):=by
 intro ab l t ad u B ae m o C f E v H j b hlen hnd
 have g:=f.hO B u
 have I:=v t u
 have h0:=l.v 0 rfl
 obtain⟨J,K,h1,M⟩:=l.s 1 rfl
 obtain⟨O,P,Q,h2,R,S,T⟩:=l.p 2 rfl
 refine cY Tryz.func75 fun p=>ac 3<|cX (kG [100,101,102,32] rfl b Aa) fun _ af ag ah b=>au 4<|mf 0 (Gb g) h0 rfl<|cX (WS b Aa) fun _ aj ak al b=>au 4<|mf 1 (Gb g) h1 rfl<|au 1<|DL.y rfl rfl (Y.Hb (c:=true) rfl rfl Bw)<|au 5<|cX (WB (c:=40) b rfl Aa) fun _ y am an b=>au 4<|mf 1 (Gb g) h1 rfl<|au 4<|DC.jC (σ:=Nat) [(4,5),(27,39)] [(0,Pt t),(1,Pt o),(25,.slice J ks.length K),(26,.int .i64 (ks.length:Int))] (fun i=>[(27,.int .i64 (i:Int))]) (fun i k=>Fr (rg m y) y k∧i≤ks.length∧Bf k m o (C++[100,101,102,32]++s.data.toList++[40]++ih [59,32] ((ks.map fun d=>d.data.toList).take i))∧Kp D w k∧w.heap.size≤k.heap.size∧ij k) (fun i=>ks.length - i) 0 rfl ?_ ?_ ?_ ?_
 ·exact⟨rfl,rfl,rfl,rfl⟩
 ·exact rfl
 ·exact⟨Fr.refl _ _,TE _,b.cast Cj,f.g,Ac,j.g⟩
 rintro ao i ap aq ⟨q,ar,b,f,E,j⟩
 have g:=FB.hO q (Gb g) I
 have p:=FB.tr p.g q
 have z:=q
 refine ac 2<|jX rfl rfl (fun U=>?_) (fun U=>?_)
 ·have hi:i<ks.length:=by omega
  obtain⟨av,aw,rfl,W,r⟩:=M.str hi
  have r:=f.cell r W
  have hit:i<(ks.map fun d=>d.data.toList).length:=by simpa using hi
  have hge:=nF [59,32] (ks.map fun d=>d.data.toList) i hit
  rw[Uw]at hge
  refine au 9<|iX F.ku hi rfl rfl rfl<|lC r rfl<|au 7<|jG rfl rfl (fun X=>?_) (fun X=>?_)
  ·exact au 4<|cX (kG [59,32] rfl b Am) fun _ ax ay az b=>au 4<|cX (WS b Am) fun _ a0 a1 a2 b=>au 2<|ai ((i+1:Nat):Int) rfl rfl<|au 2 ⟨i+1,⟨z.g,hi,b.cast AF,f.g,Ac,j.g⟩,by show ks.length - (i+1)<ks.length - i;omega,rfl⟩
  have a3:i=0:=by omega
  simp only[(by omega),Uu,ih,T3]at b
  exact au 6<|cX (WS b Am) fun _ a4 a5 a6 b=>au 2<|ai ((i+1:Nat):Int) rfl rfl<|au 2 ⟨i+1,⟨z.g,hi,b.cast AF,f.g,Ac,j.g⟩,by show ks.length - (i+1)<ks.length - i;omega,rfl⟩
 obtain rfl:i=ks.length:=by omega
 rw[TK B3]at b
 exact au 4<|ac 2<|cX (WB (c:=41) b rfl Aa) fun _ a7 a8 a9 b=>au 4<|cX (kG [58,32] rfl b Aa) fun _ aA aB aC b=>au 3<|mf 2 (Gb g) h2 rfl<|au 1<|cX (A Q T O P R S _ m o _ f.g Ac v H j.g b Aa Ao) fun _ aD aE aF b=>au 3<|cX (WB (c:=59) b rfl Aa) fun _ aG aH aI b=>au 1<|rE p.g (b.cast Al)
theorem JI{s:ByteArray}(g:s≠⟨#[]⟩):WG w D 3 (.mk [.v (.string s),.v Zl,.v Zl]) (s.data.toList):=by
 intro q j k r d l t u v y m z o A B b hlen hnd
 have f:=m.hO l d
 have C:=o k d
 have h0:=j.v 0 rfl
 exact cY Tryz.func78 fun p=>ac 2<|mf 0 f h0 rfl<|DL.y rfl rfl (Y.my (c:=true) rfl rfl (kR g))<|au 4<|mf 0 f h0 rfl<|cX (WS b Aa) fun _ E F G b=>au 1<|rE p.g (b.cast Al)
theorem KC(S:0<gA.length)(T:gA.length≤1125899906842624)(U:gA.length=lJ.length)(q:∀(i:Nat)(h1:i<gA.length)(h2:i<lJ.length),WG w D 3 gA[i] lJ[i]):WG w D 3 (.mk [.v Zs,.l gA,.v Zl]) ([91]++ih [44,32] lJ++[93]):=by
 intro W r t X u J Z j k K d v l y f b hlen hnd
 have m:=d.hO J u
 have aa:=l t u
 have h0:=r.v 0 rfl
 obtain⟨L,M,h1,O⟩:=r.l 1 rfl
 refine cY Tryz.func78 fun o=>ac 2<|mf 0 m h0 rfl<|au 5<|mf 1 m h1 rfl<|au 1<|DL.y rfl rfl (Y.Hb (c:=true) rfl rfl Bw)<|au 5<|cX (WB (c:=91) b rfl Aa) fun _ z ab ad b=>au 4<|mf 1 (Gb m) h1 rfl<|au 4<|DC.jC (σ:=Nat) [(4,5),(32,44)] [(0,Pt t),(1,Pt k),(30,.slice L gA.length M),(31,.int .i64 (gA.length:Int))] (fun i=>[(32,.int .i64 (i:Int))]) (fun i g=>Fr (rg j z) z g∧i≤gA.length∧Bf g j k (K++[91]++ih [44,32] (lJ.take i))∧Kp D w g∧w.heap.size≤g.heap.size∧ij g) (fun i=>gA.length - i) 0 rfl ?_ ?_ ?_ ?_
 ·exact⟨rfl,rfl,rfl,rfl⟩
 ·exact rfl
 ·exact⟨Fr.refl _ _,TE _,b.cast Cj,d.g,Ac,f.g⟩
 rintro ae i af ag ⟨A,ah,b,d,v,f⟩
 have o:=FB.tr o.g A
 have B:=A
 refine ac 2<|jX rfl rfl (fun P=>?_) (fun P=>?_)
 ·have hi:i<gA.length:=by omega
  obtain⟨aj,ak,C,al,am,rfl,Q,p,E,H,I⟩:=O.kH hi
  have p:=d.cell p Q
  have hit:i<lJ.length:=by omega
  have hge:=nF [44,32] lJ i hit
  refine au 9<|iX F.H5 hi rfl rfl rfl<|lC p rfl<|au 7<|jG rfl rfl (fun R=>?_) (fun R=>?_)
  ·exact au 4<|cX (kG [44,32] rfl b Am) fun _ an ao ap b=>au 4<|cX (q i hi hit _ I C _ E H _ j k _ d.g Ac l y f.g b Am Ao) fun _ aq ar av b=>au 2<|ai ((i+1:Nat):Int) rfl rfl<|au 2 ⟨i+1,⟨B.g,hi,b.cast AF,d.g,Ac,f.g⟩,by show gA.length - (i+1)<gA.length - i;omega,rfl⟩
  have aw:i=0:=by omega
  simp only[(by omega),Uu,ih,T3]at b
  exact au 6<|cX (q i hi hit _ I C _ E H _ j k _ d v l y f b Am Ao) fun _ ax ay az b=>au 2<|ai ((i+1:Nat):Int) rfl rfl<|au 2 ⟨i+1,⟨B.g,hi,b.cast AF,d.g,Ac,f.g⟩,by show gA.length - (i+1)<gA.length - i;omega,rfl⟩
 obtain rfl:i=gA.length:=by omega
 rw[TK B3]at b
 exact au 4<|ac 2<|cX (WB (c:=93) b rfl Aa) fun _ a0 a1 a2 b=>au 1<|rE o.g (b.cast Al)
theorem J1(S:0<gA.length)(T:gA.length≤1125899906842624)(U:gA.length=lJ.length)(r:∀(i:Nat)(h1:i<gA.length)(h2:i<lJ.length),WG w D 4 gA[i] lJ[i]):WG w D 3 (.mk [.v Zs,.v Zl,.l gA]) ([123]++ih [44,32] lJ++[125]):=by
 intro W m t X u J Z j k K d v o y f b hlen hnd
 have l:=d.hO J u
 have aa:=o t u
 have h0:=m.v 0 rfl
 have h1:=m.v 1 rfl
 obtain⟨L,M,h2,O⟩:=m.l 2 rfl
 refine cY Tryz.func78 fun p=>ac 2<|mf 0 l h0 rfl<|au 5<|mf 1 l h1 rfl<|au 6<|mf 2 l h2 rfl<|au 1<|DL.y rfl rfl (Y.Hb (c:=true) rfl rfl Bw)<|au 5<|cX (WB (c:=123) b rfl Aa) fun _ z ab ad b=>au 4<|mf 2 (Gb l) h2 rfl<|au 4<|DC.jC (σ:=Nat) [(6,7),(60,72)] [(0,Pt t),(1,Pt k),(58,.slice L gA.length M),(59,.int .i64 (gA.length:Int))] (fun i=>[(60,.int .i64 (i:Int))]) (fun i g=>Fr (rg j z) z g∧i≤gA.length∧Bf g j k (K++[123]++ih [44,32] (lJ.take i))∧Kp D w g∧w.heap.size≤g.heap.size∧ij g) (fun i=>gA.length - i) 0 rfl ?_ ?_ ?_ ?_
 ·exact⟨rfl,rfl,rfl,rfl⟩
 ·exact rfl
 ·exact⟨Fr.refl _ _,TE _,b.cast Cj,d.g,Ac,f.g⟩
 rintro ae i af ag ⟨A,ah,b,d,v,f⟩
 have p:=FB.tr p.g A
 have B:=A
 refine ac 2<|jX rfl rfl (fun P=>?_) (fun P=>?_)
 ·have hi:i<gA.length:=by omega
  obtain⟨aj,ak,C,al,am,rfl,Q,q,E,H,I⟩:=O.kH hi
  have q:=d.cell q Q
  have hit:i<lJ.length:=by omega
  have hge:=nF [44,32] lJ i hit
  refine au 9<|iX F.LC hi rfl rfl rfl<|lC q rfl<|au 7<|jG rfl rfl (fun R=>?_) (fun R=>?_)
  ·exact au 4<|cX (kG [44,32] rfl b Am) fun _ an ao ap b=>au 4<|cX (r i hi hit _ I C _ E H _ j k _ d.g Ac o y f.g b Am Ao) fun _ aq ar av b=>au 2<|ai ((i+1:Nat):Int) rfl rfl<|au 2 ⟨i+1,⟨B.g,hi,b.cast AF,d.g,Ac,f.g⟩,by show gA.length - (i+1)<gA.length - i;omega,rfl⟩
  have aw:i=0:=by omega
  simp only[(by omega),Uu,ih,T3]at b
  exact au 6<|cX (r i hi hit _ I C _ E H _ j k _ d v o y f b Am Ao) fun _ ax ay az b=>au 2<|ai ((i+1:Nat):Int) rfl rfl<|au 2 ⟨i+1,⟨B.g,hi,b.cast AF,d.g,Ac,f.g⟩,by show gA.length - (i+1)<gA.length - i;omega,rfl⟩
 obtain rfl:i=gA.length:=by omega
 rw[TK B3]at b
 exact au 4<|ac 2<|cX (WB (c:=125) b rfl Aa) fun _ a0 a1 a2 b=>au 1<|rE p.g (b.cast Al)
theorem Nr{s:ByteArray}(j:s≠⟨#[]⟩):WG w D 4 (.mk [.v (.string s),.v Zp,.v Zp,.v Zp]) (s.data.toList):=by
 intro r f k t g l u v y z m A o B C b hlen hnd
 have d:=m.hO l g
 have E:=o k g
 have h0:=f.v 0 rfl
 have p:=f.v 3 rfl
 exact cY Tryz.func117 fun q=>ac 3<|mf 0 d h0 rfl<|DL.y rfl rfl (Y.my (c:=true) rfl rfl (kR j))<|au 4<|mf 0 d h0 rfl<|cX (WS b Aa) fun _ F G H b=>au 3<|mf 3 (Gb d) p rfl<|au 4<|rE q.g (b.cast Al)
theorem KW{s:ByteArray}(m:s≠⟨#[]⟩)(o:WG w D 3 gH L):WG w D 4 (.mk [.v (.string s),.v Zp,.v Zp,.p gH]) (s.data.toList++[58,32]++L):=by
 intro H f p I g q J r t K j M k u v b hlen hnd
 have d:=j.hO q g
 have O:=k p g
 have h0:=f.v 0 rfl
 obtain⟨y,z,A,l,B,C,E⟩:=f.p 3 rfl
 exact cY Tryz.func117 fun F=>ac 3<|mf 0 d h0 rfl<|DL.y rfl rfl (Y.my (c:=true) rfl rfl (kR m))<|au 4<|mf 0 d h0 rfl<|cX (WS b Aa) fun _ P Q R b=>au 3<|mf 3 (Gb d) l rfl<|au 6<|cX (kG [58,32] rfl b Aa) fun _ S T U b=>au 2<|mf 3 (Gb d) l rfl<|au 1<|cX (o A E y z B C _ r t _ j.g Ac k u v.g b Aa Ao) fun _ W X Z b=>au 1<|rE F.g (b.cast Al)
theorem I2{ks:G}(q:WG w D 7 ks L)(r:WG w D 3 gH M):WG w D 4 (.mk [.v Zs,.p ks,.v Zp,.p gH]) (L++[58,32]++M):=by
 intro Q d t R j u S k l T f v g m o b hlen hnd
 have c:=f.hO u j
 have U:=g t j
 have h0:=d.v 0 rfl
 obtain⟨y,z,A,h1,B,C,E⟩:=d.p 1 rfl
 obtain⟨F,H,I,p,J,K,O⟩:=d.p 3 rfl
 exact cY Tryz.func117 fun P=>ac 3<|mf 0 c h0 rfl<|au 5<|mf 1 c h1 rfl<|au 4<|mf 1 c h1 rfl<|au 1<|cX (q A E y z B C _ k l _ f v g m o b Aa) fun _ W X Y b=>au 3<|mf 3 (Gb c) p rfl<|au 6<|cX (kG [58,32] rfl b Aa) fun _ Z aa ab b=>au 2<|mf 3 (Gb c) p rfl<|au 1<|cX (r I O F H J K _ k l _ f.g Ac g m o.g b Aa Ao) fun _ ad ae af b=>au 1<|rE P.g (b.cast Al)
theorem LH{s:ByteArray}(j:s≠⟨#[]⟩):WG w D 9 (.mk [.v (.string s),.v Zp,.v Zp,.v Zp]) (s.data.toList):=by
 intro r f k t g l u v y z m A o B C b hlen hnd
 have d:=m.hO l g
 have E:=o k g
 have h0:=f.v 0 rfl
 have p:=f.v 3 rfl
 exact cY Tryz.func127 fun q=>ac 3<|mf 0 d h0 rfl<|DL.y rfl rfl (Y.my (c:=true) rfl rfl (kR j))<|au 4<|mf 0 d h0 rfl<|cX (WS b Aa) fun _ F G H b=>au 3<|mf 3 (Gb d) p rfl<|au 4<|rE q.g (b.cast Al)
theorem KF{s:ByteArray}(m:s≠⟨#[]⟩)(o:WG w D 0 gH L):WG w D 9 (.mk [.v (.string s),.v Zp,.v Zp,.p gH]) (s.data.toList++[58,32]++L):=by
 intro H f p I g q J r t K j M k u v b hlen hnd
 have d:=j.hO q g
 have O:=k p g
 have h0:=f.v 0 rfl
 obtain⟨y,z,A,l,B,C,E⟩:=f.p 3 rfl
 exact cY Tryz.func127 fun F=>ac 3<|mf 0 d h0 rfl<|DL.y rfl rfl (Y.my (c:=true) rfl rfl (kR m))<|au 4<|mf 0 d h0 rfl<|cX (WS b Aa) fun _ P Q R b=>au 3<|mf 3 (Gb d) l rfl<|au 6<|cX (kG [58,32] rfl b Aa) fun _ S T U b=>au 2<|mf 3 (Gb d) l rfl<|au 1<|cX (o A E y z B C _ r t _ j.g Ac k u v.g b Aa Ao) fun _ W X Z b=>au 1<|rE F.g (b.cast Al)
theorem KG{ks:G}(q:WG w D 7 ks L)(r:WG w D 0 gH M):WG w D 9 (.mk [.v Zs,.p ks,.v Zp,.p gH]) (L++[58,32]++M):=by
 intro Q d t R j u S k l T f v g m o b hlen hnd
 have c:=f.hO u j
 have U:=g t j
 have h0:=d.v 0 rfl
 obtain⟨y,z,A,h1,B,C,E⟩:=d.p 1 rfl
 obtain⟨F,H,I,p,J,K,O⟩:=d.p 3 rfl
 exact cY Tryz.func127 fun P=>ac 3<|mf 0 c h0 rfl<|au 5<|mf 1 c h1 rfl<|au 4<|mf 1 c h1 rfl<|au 1<|cX (q A E y z B C _ k l _ f v g m o b Aa) fun _ W X Y b=>au 3<|mf 3 (Gb c) p rfl<|au 6<|cX (kG [58,32] rfl b Aa) fun _ Z aa ab b=>au 2<|mf 3 (Gb c) p rfl<|au 1<|cX (r I O F H J K _ k l _ f.g Ac g m o.g b Aa Ao) fun _ ad ae af b=>au 1<|rE P.g (b.cast Al)
theorem L7{ks:G}(k:WG w D 7 ks L):WG w D 9 (.mk [.v Zs,.p ks,.v Zp,.v Zp]) (L):=by
 intro F c l H f m I o p J g q j r t d hlen hnd
 have b:=g.hO m f
 have K:=j l f
 have h0:=c.v 0 rfl
 obtain⟨u,v,y,h1,z,A,B⟩:=c.p 1 rfl
 have C:=c.v 3 rfl
 exact cY Tryz.func127 fun E=>ac 3<|mf 0 b h0 rfl<|au 5<|mf 1 b h1 rfl<|au 4<|mf 1 b h1 rfl<|au 1<|cX (k y B u v z A _ o p _ g q j r t d Aa) fun _ M O P d=>au 3<|mf 3 (Gb b) C rfl<|au 4<|rE E.g (d.cast Al)
theorem KT(r:WG w D 0 gH L)(t:WG w D 0 gC M):WG w D 9 (.mk [.v Zs,.v Zp,.p gH,.p gC]) ([40]++L++[41]++[58,32]++M):=by
 intro Q f u R k v S l m T g U j o p b hlen hnd
 have d:=g.hO v k
 have W:=j u k
 have h0:=f.v 0 rfl
 have h1:=f.v 1 rfl
 obtain⟨y,z,A,h2,B,C,E⟩:=f.p 2 rfl
 obtain⟨F,H,I,q,J,K,O⟩:=f.p 3 rfl
 exact cY Tryz.func127 fun P=>ac 3<|mf 0 d h0 rfl<|au 5<|mf 1 d h1 rfl<|au 5<|mf 2 d h2 rfl<|au 6<|cX (WB (c:=40) b rfl Aa) fun _ X Y Z b=>au 3<|mf 2 (Gb d) h2 rfl<|au 1<|cX (r A E y z B C _ l m _ g.g Ac j o p.g b Aa Ao) fun _ aa ab ad b=>au 3<|cX (WB (c:=41) b rfl Aa) fun _ ae af ag b=>au 3<|mf 3 (Gb d) q rfl<|au 6<|cX (kG [58,32] rfl b Aa) fun _ ah ai aj b=>au 2<|mf 3 (Gb d) q rfl<|au 1<|cX (t I O F H J K _ l m _ g.g Ac j o p.g b Aa Ao) fun _ ak al am b=>au 1<|rE P.g (b.cast Al)
theorem MY{s:ByteArray}(g:s≠⟨#[]⟩):WG w D 5 (.mk [.v (.string s),.v Zp,.v Zp,.v Zp,.v (.bool false)]) (s.data.toList):=by
 intro q j k r d l t u v y m z o A B b hlen
 have f:=m.hO l d
 have C:=o k d
 have h0:=j.v 0 rfl
 exact cY Tryz.func126 fun p=>ac 2<|mf 0 f h0 rfl<|DL.y rfl rfl (Y.my (c:=true) rfl rfl (kR g))<|au 4<|mf 0 f h0 rfl<|cX (WS b Aa) fun _ E F G b=>au 1<|rE p.g (b.cast Al)
theorem LI{x:G}(k:WG w D 7 x L):WG w D 5 (.mk [.v Zs,.p x,.v Zp,.v Zp,.v (.bool false)]) (L):=by
 intro E d l F f m H o p I g q j r t b hlen
 have c:=g.hO m f
 have J:=j l f
 have h0:=d.v 0 rfl
 obtain⟨u,v,y,h1,z,A,B⟩:=d.p 1 rfl
 exact cY Tryz.func126 fun C=>ac 2<|mf 0 c h0 rfl<|au 5<|mf 1 c h1 rfl<|au 4<|mf 1 c h1 rfl<|au 1<|cX (k y B u v z A _ o p _ g q j r t b Aa) fun _ K M O b=>au 1<|rE C.g (b.cast Al)
theorem Lp(l:WG w D 0 gH L):WG w D 24 (.mk [.v Zs,.v Zp,.p gH,.v Zp,.v (.bool false)]) ([91]++L++[93]):=by
 intro F d m H g o I p q J j K k r t b hlen
 have f:=j.hO o g
 have M:=k m g
 have h0:=d.v 0 rfl
 have h1:=d.v 1 rfl
 obtain⟨u,v,y,h2,z,A,B⟩:=d.p 2 rfl
 have C:=d.v 4 rfl
 exact cY Tryz.func126 fun E=>ac 2<|mf 0 f h0 rfl<|au 5<|mf 1 f h1 rfl<|au 6<|cX (WB (c:=91) b rfl Aa) fun _ O P Q b=>au 4<|mf 4 (Gb f) C rfl<|au 3<|mf 2 (Gb f) h2 rfl<|au 1<|cX (l y B u v z A _ p q _ j.g Ac k r t.g b Aa Ao) fun _ R S T b=>au 3<|cX (WB (c:=93) b rfl Aa) fun _ U W X b=>au 1<|rE E.g (b.cast Al)
theorem IM(r:WG w D 0 gH L)(t:WG w D 0 gC M):WG w D 24 (.mk [.v Zs,.v Zp,.p gH,.p gC,.v (.bool true)]) ([91]++L++[58]++M++[93]):=by
 intro R f u S k v T l m U g W j o p b hlen
 have d:=g.hO v k
 have X:=j u k
 have h0:=f.v 0 rfl
 have h1:=f.v 1 rfl
 obtain⟨y,z,A,h2,B,C,E⟩:=f.p 2 rfl
 obtain⟨F,H,I,q,J,K,O⟩:=f.p 3 rfl
 have P:=f.v 4 rfl
 exact cY Tryz.func126 fun Q=>ac 2<|mf 0 d h0 rfl<|au 5<|mf 1 d h1 rfl<|au 6<|cX (WB (c:=91) b rfl Aa) fun _ Y Z aa b=>au 4<|mf 4 (Gb d) P rfl<|au 5<|mf 2 (Gb d) h2 rfl<|au 4<|mf 2 (Gb d) h2 rfl<|au 1<|cX (r A E y z B C _ l m _ g.g Ac j o p.g b Aa Ao) fun _ ab ad ae b=>au 4<|cX (WB (c:=58) b rfl Aa) fun _ af ag ah b=>au 3<|mf 3 (Gb d) q rfl<|au 4<|mf 3 (Gb d) q rfl<|au 1<|cX (t I O F H J K _ l m _ g.g Ac j o p.g b Aa Ao) fun _ ai aj ak b=>au 3<|cX (WB (c:=93) b rfl Aa) fun _ al am an b=>au 1<|rE Q.g (b.cast Al)
theorem Jc(l:WG w D 0 gH L):WG w D 24 (.mk [.v Zs,.v Zp,.p gH,.v Zp,.v (.bool true)]) ([91]++L++[58]++[93]):=by
 intro H f m I g o J p q K j M k r t b hlen
 have d:=j.hO o g
 have O:=k m g
 have h0:=f.v 0 rfl
 have h1:=f.v 1 rfl
 obtain⟨u,v,y,h2,z,A,B⟩:=f.p 2 rfl
 have C:=f.v 3 rfl
 have E:=f.v 4 rfl
 exact cY Tryz.func126 fun F=>ac 2<|mf 0 d h0 rfl<|au 5<|mf 1 d h1 rfl<|au 6<|cX (WB (c:=91) b rfl Aa) fun _ P Q R b=>au 4<|mf 4 (Gb d) E rfl<|au 5<|mf 2 (Gb d) h2 rfl<|au 4<|mf 2 (Gb d) h2 rfl<|au 1<|cX (l y B u v z A _ p q _ j.g Ac k r t.g b Aa Ao) fun _ S T U b=>au 4<|cX (WB (c:=58) b rfl Aa) fun _ W X Y b=>au 3<|mf 3 (Gb d) C rfl<|au 6<|cX (WB (c:=93) b rfl Aa) fun _ Z aa ab b=>au 1<|rE F.g (b.cast Al)
theorem J6(m:WG w D 0 gH L):WG w D 24 (.mk [.v Zs,.v Zp,.v Zp,.p gH,.v (.bool true)]) ([91]++[58]++L++[93]):=by
 intro H f o I g p J q r K j M k t u b hlen
 have d:=j.hO p g
 have O:=k o g
 have h0:=f.v 0 rfl
 have h1:=f.v 1 rfl
 have h2:=f.v 2 rfl
 obtain⟨v,y,z,l,A,B,C⟩:=f.p 3 rfl
 have E:=f.v 4 rfl
 exact cY Tryz.func126 fun F=>ac 2<|mf 0 d h0 rfl<|au 5<|mf 1 d h1 rfl<|au 6<|cX (WB (c:=91) b rfl Aa) fun _ P Q R b=>au 4<|mf 4 (Gb d) E rfl<|au 5<|mf 2 (Gb d) h2 rfl<|au 7<|cX (WB (c:=58) b rfl Aa) fun _ S T U b=>au 3<|mf 3 (Gb d) l rfl<|au 4<|mf 3 (Gb d) l rfl<|au 1<|cX (m z C v y A B _ q r _ j.g Ac k t u.g b Aa Ao) fun _ W X Y b=>au 3<|cX (WB (c:=93) b rfl Aa) fun _ Z aa ab b=>au 1<|rE F.g (b.cast Al)
theorem Me{s:ByteArray}:WG w D 6 (.mk [.v (.string s),.l []]) (s.data.toList):=by
 intro o c g p d j q r t u k v l y z b hlen hnd
 have f:=k.hO j d
 have A:=l g d
 have h0:=c.v 0 rfl
 obtain⟨B,C,h1,E⟩:=c.l 1 rfl
 exact cY Tryz.func106 fun m=>ac 3<|mf 0 f h0 rfl<|cX (WS b Aa) fun _ F G H b=>au 3<|mf 1 (Gb f) h1 rfl<|au 5<|rE m.g (b.cast Al)
theorem LG{s:ByteArray}(S:0<gA.length)(T:gA.length≤1125899906842624)(U:gA.length=lJ.length)(q:∀(i:Nat)(h1:i<gA.length)(h2:i<lJ.length),WG w D 0 gA[i] lJ[i]):WG w D 6 (.mk [.v (.string s),.l gA]) (s.data.toList++[40]++ih [59,32] lJ++[41]):=by
 intro W r t X u J Z j k K d v l y f b hlen hnd
 have m:=d.hO J u
 have aa:=l t u
 have h0:=r.v 0 rfl
 obtain⟨L,M,h1,O⟩:=r.l 1 rfl
 refine cY Tryz.func106 fun o=>ac 3<|mf 0 m h0 rfl<|cX (WS b Aa) fun _ ab ad ae b=>au 3<|mf 1 (Gb m) h1 rfl<|au 1<|DL.y rfl rfl (Y.Hb (c:=true) rfl rfl Bw)<|au 5<|cX (WB (c:=40) b rfl Aa) fun _ z af ag b=>au 4<|mf 1 (Gb m) h1 rfl<|au 4<|DC.jC (σ:=Nat) [(4,5),(25,37)] [(0,Pt t),(1,Pt k),(23,.slice L gA.length M),(24,.int .i64 (gA.length:Int))] (fun i=>[(25,.int .i64 (i:Int))]) (fun i g=>Fr (rg j z) z g∧i≤gA.length∧Bf g j k (K++s.data.toList++[40]++ih [59,32] (lJ.take i))∧Kp D w g∧w.heap.size≤g.heap.size∧ij g) (fun i=>gA.length - i) 0 rfl ?_ ?_ ?_ ?_
 ·exact⟨rfl,rfl,rfl,rfl⟩
 ·exact rfl
 ·exact⟨Fr.refl _ _,TE _,b.cast Cj,d.g,Ac,f.g⟩
 rintro ah i aj ak ⟨A,al,b,d,v,f⟩
 have o:=FB.tr o.g A
 have B:=A
 refine ac 2<|jX rfl rfl (fun P=>?_) (fun P=>?_)
 ·have hi:i<gA.length:=by omega
  obtain⟨am,an,C,ao,ap,rfl,Q,p,E,H,I⟩:=O.kH hi
  have p:=d.cell p Q
  have hit:i<lJ.length:=by omega
  have hge:=nF [59,32] lJ i hit
  refine au 9<|iX F.lq hi rfl rfl rfl<|lC p rfl<|au 7<|jG rfl rfl (fun R=>?_) (fun R=>?_)
  ·exact au 4<|cX (kG [59,32] rfl b Am) fun _ aq ar av b=>au 4<|cX (q i hi hit _ I C _ E H _ j k _ d.g Ac l y f.g b Am Ao) fun _ aw ax ay b=>au 2<|ai ((i+1:Nat):Int) rfl rfl<|au 2 ⟨i+1,⟨B.g,hi,b.cast AF,d.g,Ac,f.g⟩,by show gA.length - (i+1)<gA.length - i;omega,rfl⟩
  have az:i=0:=by omega
  simp only[(by omega),Uu,ih,T3]at b
  exact au 6<|cX (q i hi hit _ I C _ E H _ j k _ d v l y f b Am Ao) fun _ a0 a1 a2 b=>au 2<|ai ((i+1:Nat):Int) rfl rfl<|au 2 ⟨i+1,⟨B.g,hi,b.cast AF,d.g,Ac,f.g⟩,by show gA.length - (i+1)<gA.length - i;omega,rfl⟩
 obtain rfl:i=gA.length:=by omega
 rw[TK B3]at b
 exact au 4<|ac 2<|cX (WB (c:=41) b rfl Aa) fun _ a3 a4 a5 b=>au 1<|rE o.g (b.cast Al)
theorem MN{s:ByteArray}:WG w D 6 (.mk [.v (.string s),.v Zl]) (s.data.toList):=by
 intro o c g p d j q r t u k v l y z b hlen hnd
 have f:=k.hO j d
 have A:=l g d
 have h0:=c.v 0 rfl
 have h1:=c.v 1 rfl
 exact cY Tryz.func106 fun m=>ac 3<|mf 0 f h0 rfl<|cX (WS b Aa) fun _ B C E b=>au 3<|mf 1 (Gb f) h1 rfl<|au 5<|rE m.g (b.cast Al)
theorem ML{s:ByteArray}(j:Lib.validD s.data.toList):WG w D 7 (.mk [.v (.string s),.v Zl]) (qL s.data.toList):=by
 intro r c d t f k u v y z l A m o p b hlen
 have g:=l.hO k f
 have B:=m d f
 have h0:=c.v 0 rfl
 have h1:=c.v 1 rfl
 exact cY Tryz.func110 fun q=>ac 3<|mf 1 g h1 rfl<|DL.y rfl rfl (Y.uG (b:=true) Tryz.underlying127 rfl rfl)<|au 5<|mf 0 g h0 rfl<|cX (BJ b o p j (by have C:=hK s;have E:=Ix s.data.toList;first|omega|(simp only[Tl,To,Tw]at hlen⊢;omega))) fun _ F G H b=>au 2<|rY q.g (b.cast Al)
theorem Ng:WG w D 8 (.mk [.l []]) ([123,125]):=by
 intro o d f p c g q r t u j v k y z b hlen hnd
 have l:=j.hO g c
 have A:=k f c
 obtain⟨B,C,h0,E⟩:=d.l 0 rfl
 exact cY Tryz.func107 fun m=>ac 3<|mf 0 l h0 rfl<|au 7<|cX (kG [123,125] rfl b Aa) fun _ F G H b=>au 2<|rY m.g (b.cast Al)
theorem Mp(S:0<gA.length)(T:gA.length≤1125899906842624)(U:gA.length=lJ.length)(p:∀(i:Nat)(h1:i<gA.length)(h2:i<lJ.length),WG w D 9 gA[i] lJ[i]):WG w D 8 (.mk [.l gA]) ([123,32]++ih [44,32] lJ++[32,125]):=by
 intro W I q X r J Z j k K d t l u f b hlen hnd
 have v:=d.hO J r
 have aa:=l q r
 obtain⟨L,M,h0,O⟩:=I.l 0 rfl
 refine cY Tryz.func107 fun m=>ac 3<|mf 0 v h0 rfl<|au 1<|DL.y rfl rfl (Y.E1 (c:=false) rfl rfl (by exact Ti Ac))<|au 6<|cX (kG [123,32] rfl b Aa) fun _ y ab ad b=>au 4<|mf 0 (Gb v) h0 rfl<|au 4<|DC.jC (σ:=Nat) [(4,5),(21,33)] [(0,Pt q),(1,Pt k),(19,.slice L gA.length M),(20,.int .i64 (gA.length:Int))] (fun i=>[(21,.int .i64 (i:Int))]) (fun i g=>Fr (rg j y) y g∧i≤gA.length∧Bf g j k (K++[123,32]++ih [44,32] (lJ.take i))∧Kp D w g∧w.heap.size≤g.heap.size∧ij g) (fun i=>gA.length - i) 0 rfl ?_ ?_ ?_ ?_
 ·exact⟨rfl,rfl,rfl,rfl⟩
 ·exact rfl
 ·exact⟨Fr.refl _ _,TE _,b.cast Cj,d.g,Ac,f.g⟩
 rintro ae i af ag ⟨z,ah,b,d,t,f⟩
 have m:=FB.tr m.g z
 have A:=z
 refine ac 2<|jX rfl rfl (fun P=>?_) (fun P=>?_)
 ·have hi:i<gA.length:=by omega
  obtain⟨aj,ak,B,al,am,rfl,Q,o,C,E,H⟩:=O.kH hi
  have o:=d.cell o Q
  have hit:i<lJ.length:=by omega
  have hge:=nF [44,32] lJ i hit
  refine au 9<|iX F.My hi rfl rfl rfl<|lC o rfl<|au 7<|jG rfl rfl (fun R=>?_) (fun R=>?_)
  ·exact au 4<|cX (kG [44,32] rfl b Am) fun _ an ao ap b=>au 4<|cX (p i hi hit _ H B _ C E _ j k _ d.g Ac l u f.g b Am Ao) fun _ aq ar av b=>au 2<|ai ((i+1:Nat):Int) rfl rfl<|au 2 ⟨i+1,⟨A.g,hi,b.cast AF,d.g,Ac,f.g⟩,by show gA.length - (i+1)<gA.length - i;omega,rfl⟩
  have aw:i=0:=by omega
  simp only[(by omega),Uu,ih,T3]at b
  exact au 6<|cX (p i hi hit _ H B _ C E _ j k _ d t l u f b Am Ao) fun _ ax ay az b=>au 2<|ai ((i+1:Nat):Int) rfl rfl<|au 2 ⟨i+1,⟨A.g,hi,b.cast AF,d.g,Ac,f.g⟩,by show gA.length - (i+1)<gA.length - i;omega,rfl⟩
 obtain rfl:i=gA.length:=by omega
 rw[TK B3]at b
 exact au 4<|ac 2<|cX (kG [32,125] rfl b Aa) fun _ a0 a1 a2 b=>au 1<|rE m.g (b.cast Al)
theorem LZ:WG w D 10 (.mk [.v Zp]) ([91]++[93]):=by
 intro p f g q d j r t u v k y l z A b hlen hnd
 have m:=k.hO j d
 have B:=l g d
 have h0:=f.v 0 rfl
 exact cY Tryz.func108 fun o=>ac 3<|cX (WB (c:=91) b rfl Aa) fun _ C E F b=>au 4<|mf 0 (Gb m) h0 rfl<|au 6<|cX (WB (c:=93) b rfl Aa) fun _ G H I b=>au 1<|rE o.g (b.cast Al)
theorem Nb(k:WG w D 0 gH L):WG w D 10 (.mk [.p gH]) ([91]++L++[93]):=by
 intro E l m F d o H p q I f J g r t b hlen hnd
 have j:=f.hO o d
 have K:=g m d
 obtain⟨u,v,y,h0,z,A,B⟩:=l.p 0 rfl
 exact cY Tryz.func108 fun C=>ac 3<|cX (WB (c:=91) b rfl Aa) fun _ M O P b=>au 4<|mf 0 (Gb j) h0 rfl<|au 4<|mf 0 (Gb j) h0 rfl<|au 1<|cX (k y B u v z A _ p q _ f.g Ac g r t.g b Aa Ao) fun _ Q R S b=>au 3<|cX (WB (c:=93) b rfl Aa) fun _ T U W b=>au 1<|rE C.g (b.cast Al)
theorem MI{k:List Fd}(p:WG w D 24 (.mk (.v Zs::nP::k)) L):WG w D 11 (.mk [.p (.mk (.v Zs::nP::k)),.v (.bool false),.v (.bool false)]) (L):=by
 intro H q r I l t J u v K c y d z A f hlen
 have b:=c.hO t l
 have M:=d r l
 obtain⟨m,B,C,h0,g,o,j⟩:=q.p 0 rfl
 have hx:=c.hO o g
 have O:=d m g
 have E:=j.v 0 rfl
 have F:=j.v 1 rfl
 exact cY Tryz.func116 fun G=>ac 2<|mf 0 b h0 rfl<|au 5<|mf 0 b h0 rfl<|au 2<|lD hx rfl E<|au 5<|lD b rfl h0<|au 2<|lD hx rfl F<|au 5<|mf 0 b h0 rfl<|au 1<|cX (p C j m B g o _ u v _ c y d z A f Aa) fun _ P Q R f=>au 1<|rE G.g (f.cast Al)
theorem MP:WG w D 11 (.mk [.v Zp,.v (.bool true),.v (.bool false)]) ([91,93]):=by
 intro o c g p d j q r t u k v l y z b hlen
 have f:=k.hO j d
 have A:=l g d
 have h0:=c.v 0 rfl
 have h1:=c.v 1 rfl
 exact cY Tryz.func116 fun m=>ac 2<|mf 0 f h0 rfl<|au 5<|mf 1 f h1 rfl<|au 4<|cX (kG [91,93] rfl b Aa) fun _ B C E b=>au 1<|rE m.g (b.cast Al)
theorem Nu:WG w D 11 (.mk [.v Zp,.v (.bool false),.v (.bool true)]) ([63]):=by
 intro p b j q g k r t u v l y m z A d hlen
 have f:=l.hO k g
 have B:=m j g
 have h0:=b.v 0 rfl
 have h1:=b.v 1 rfl
 have h2:=b.v 2 rfl
 exact cY Tryz.func116 fun o=>ac 2<|mf 0 f h0 rfl<|au 5<|mf 1 f h1 rfl<|au 4<|mf 2 f h2 rfl<|au 4<|cX (WB (c:=63) d rfl Aa) fun _ C E F d=>au 1<|rE o.g (d.cast Al)
theorem JV{s:ByteArray}{k:List Fd}(q:s≠⟨#[]⟩)(r:WG w D 22 (.mk (.v (.string s)::k)) L):WG w D 20 (.mk [.p (.mk (.v (.string s)::k)),.v (.bool false),.v (.bool false)]) (L):=by
 intro I t u J l v K y z M b A d B C f hlen
 have g:=b.hO v l
 have O:=d u l
 obtain⟨m,E,F,h0,j,o,p⟩:=t.p 0 rfl
 have hx:=b.hO o j
 have P:=d m j
 have G:=p.v 0 rfl
 exact cY Tryz.func116 fun H=>ac 2<|mf 0 g h0 rfl<|au 5<|mf 0 g h0 rfl<|au 2<|lD hx rfl G<|DL.y rfl rfl (Y.my (c:=true) rfl rfl (kR q))<|au 13<|mf 0 g h0 rfl<|au 1<|cX (r F p m E j o _ y z _ b A d B C f Aa) fun _ Q R S f=>au 1<|rE H.g (f.cast Al)
theorem I8{k:List Fd}(p:WG w D 22 (.mk (.v Zs:: .p gH::k)) L):WG w D 20 (.mk [.p (.mk (.v Zs:: .p gH::k)),.v (.bool false),.v (.bool false)]) (L):=by
 intro I q r J l t K u v M c y d z A f hlen
 have b:=c.hO t l
 have O:=d r l
 obtain⟨m,B,C,h0,g,o,j⟩:=q.p 0 rfl
 have hx:=c.hO o g
 have P:=d m g
 have E:=j.v 0 rfl
 obtain⟨Q,_,_,F,_,_,_⟩:=j.p 1 rfl
 exact cY Tryz.func116 fun H=>ac 2<|mf 0 b h0 rfl<|au 5<|mf 0 b h0 rfl<|au 2<|lD hx rfl E<|au 5<|lD b rfl h0<|au 2<|lD hx rfl F<|au 5<|mf 0 b h0 rfl<|au 1<|cX (p C j m B g o _ u v _ c y d z A f Aa) fun _ R S T f=>au 1<|rE H.g (f.cast Al)
theorem Nq(y:WG w D 0 gH L)(z:WG w D 0 gC M)(al:gA.length≤1125899906842624)(am:gA.length=lJ.length)(A:∀(i:Nat)(h1:i<gA.length)(h2:i<lJ.length),WG w D 13 gA[i] lJ[i]):WG w D 12 (.mk [.p gH,.p gC,.l gA,.v Zp]) ([105,102,32]++L++[32,116,104,101,110,32]++M++(lJ.map (32::·)).flatten++[32,101,110,100]):=by
 intro an l t ao u B ap g j C c E m o d b hlen hnd
 have f:=c.hO B u
 have H:=m t u
 obtain⟨I,J,K,h0,O,P,Q⟩:=l.p 0 rfl
 obtain⟨R,S,T,h1,U,W,X⟩:=l.p 1 rfl
 obtain⟨Y,Z,h2,aa⟩:=l.l 2 rfl
 have ab:=l.v 3 rfl
 refine cY Tryz.func111 fun p=>ac 3<|cX (kG [105,102,32] rfl b Aa) fun _ aq ar av b=>au 3<|mf 0 (Gb f) h0 rfl<|au 1<|cX (y K Q I J O P _ g j _ c.g Ac m o d.g b Aa Ao) fun _ aw ax ay b=>au 4<|cX (kG [32,116,104,101,110,32] rfl b Aa) fun _ az a0 a1 b=>au 3<|mf 1 (Gb f) h1 rfl<|au 1<|cX (z T X R S U W _ g j _ c.g Ac m o d.g b Aa Ao) fun _ v a2 a3 b=>au 4<|mf 2 (Gb f) h2 rfl<|au 4<|DC.jC (σ:=Nat) [(5,5),(27,36)] [(0,Pt t),(1,Pt j),(25,.slice Y gA.length Z),(26,.int .i64 (gA.length:Int))] (fun i=>[(27,.int .i64 (i:Int))]) (fun i k=>Fr (rg g v) v k∧i≤gA.length∧Bf k g j (C++[105,102,32]++L++[32,116,104,101,110,32]++M++((lJ.take i).map (32::·)).flatten)∧Kp D w k∧w.heap.size≤k.heap.size∧ij k) (fun i=>gA.length - i) 0 rfl ?_ ?_ ?_ ?_
 ·exact⟨rfl,rfl,rfl,rfl⟩
 ·exact rfl
 ·exact⟨Fr.refl _ _,TE _,b.cast Al,c.g,Ac,d.g⟩
 rintro a4 i a5 a6 ⟨q,a7,b,c,E,d⟩
 have f:=FB.hO q (Gb f) H
 have p:=FB.tr p.g q
 have ad:=q
 refine ac 2<|jX rfl rfl (fun ae=>?_) (fun ae=>?_)
 ·have hi:i<gA.length:=by omega
  obtain⟨a8,a9,af,aA,aB,rfl,ag,r,ah,aj,ak⟩:=aa.kH hi
  have r:=c.cell r ag
  have hit:i<lJ.length:=by omega
  have hge:=mh (32::·) lJ i hit
  exact au 8<|iX F.Il hi rfl rfl rfl<|lC r rfl<|au 5<|cX (WB (c:=32) b rfl Am) fun _ aC aD aE b=>au 4<|cX (A i hi hit _ ak af _ ah aj _ g j _ c.g Ac m o d.g b Am Ao) fun _ aF aG aH b=>au 2<|ai ((i+1:Nat):Int) rfl rfl<|au 2 ⟨i+1,⟨ad.g,hi,b.cast Bv,c.g,Ac,d.g⟩,by show gA.length - (i+1)<gA.length - i;omega,rfl⟩
 obtain rfl:i=gA.length:=by omega
 rw[TK Ac]at b
 exact au 4<|ac 3<|mf 3 f ab rfl<|au 6<|cX (kG [32,101,110,100] rfl b Aa) fun _ aI aJ aK b=>au 1<|rE p.g (b.cast Al)
theorem MT{e:G}(z:WG w D 0 gH L)(A:WG w D 0 gC M)(av:gA.length≤1125899906842624)(aw:gA.length=lJ.length)(B:∀(i:Nat)(h1:i<gA.length)(h2:i<lJ.length),WG w D 13 gA[i] lJ[i])(C:WG w D 0 e lA):WG w D 12 (.mk [.p gH,.p gC,.l gA,.p e]) ([105,102,32]++L++[32,116,104,101,110,32]++M++(lJ.map (32::·)).flatten++[32,101,108,115,101,32]++lA++[32,101,110,100]):=by
 intro ax m t ay u E az g j H c I k o d b hlen hnd
 have f:=c.hO E u
 have J:=k t u
 obtain⟨K,O,P,h0,Q,R,S⟩:=m.p 0 rfl
 obtain⟨T,U,W,h1,X,Y,Z⟩:=m.p 1 rfl
 obtain⟨aa,ab,h2,ad⟩:=m.l 2 rfl
 obtain⟨ae,af,ag,v,ah,aj,ak⟩:=m.p 3 rfl
 refine cY Tryz.func111 fun p=>ac 3<|cX (kG [105,102,32] rfl b Aa) fun _ a0 a1 a2 b=>au 3<|mf 0 (Gb f) h0 rfl<|au 1<|cX (z P S K O Q R _ g j _ c.g Ac k o d.g b Aa Ao) fun _ a3 a4 a5 b=>au 4<|cX (kG [32,116,104,101,110,32] rfl b Aa) fun _ a6 a7 a8 b=>au 3<|mf 1 (Gb f) h1 rfl<|au 1<|cX (A W Z T U X Y _ g j _ c.g Ac k o d.g b Aa Ao) fun _ y a9 aA b=>au 4<|mf 2 (Gb f) h2 rfl<|au 4<|DC.jC (σ:=Nat) [(5,5),(27,36)] [(0,Pt t),(1,Pt j),(25,.slice aa gA.length ab),(26,.int .i64 (gA.length:Int))] (fun i=>[(27,.int .i64 (i:Int))]) (fun i l=>Fr (rg g y) y l∧i≤gA.length∧Bf l g j (H++[105,102,32]++L++[32,116,104,101,110,32]++M++((lJ.take i).map (32::·)).flatten)∧Kp D w l∧w.heap.size≤l.heap.size∧ij l) (fun i=>gA.length - i) 0 rfl ?_ ?_ ?_ ?_
 ·exact⟨rfl,rfl,rfl,rfl⟩
 ·exact rfl
 ·exact⟨Fr.refl _ _,TE _,b.cast Al,c.g,Ac,d.g⟩
 rintro aB i aC aD ⟨q,aE,b,c,I,d⟩
 have f:=FB.hO q (Gb f) J
 have p:=FB.tr p.g q
 have al:=q
 refine ac 2<|jX rfl rfl (fun am=>?_) (fun am=>?_)
 ·have hi:i<gA.length:=by omega
  obtain⟨aF,aG,an,aH,aI,rfl,ao,r,ap,aq,ar⟩:=ad.kH hi
  have r:=c.cell r ao
  have hit:i<lJ.length:=by omega
  have hge:=mh (32::·) lJ i hit
  exact au 8<|iX F.Il hi rfl rfl rfl<|lC r rfl<|au 5<|cX (WB (c:=32) b rfl Am) fun _ aJ aK aL b=>au 4<|cX (B i hi hit _ ar an _ ap aq _ g j _ c.g Ac k o d.g b Am Ao) fun _ aM aN aO b=>au 2<|ai ((i+1:Nat):Int) rfl rfl<|au 2 ⟨i+1,⟨al.g,hi,b.cast Bv,c.g,Ac,d.g⟩,by show gA.length - (i+1)<gA.length - i;omega,rfl⟩
 obtain rfl:i=gA.length:=by omega
 rw[TK Ac]at b
 exact au 4<|ac 3<|mf 3 f v rfl<|au 6<|cX (kG [32,101,108,115,101,32] rfl b Aa) fun _ aP aQ aR b=>au 2<|mf 3 (Gb f) v rfl<|au 1<|cX (C ag ak ae af ah aj _ g j _ c.g Ac k o d.g b Aa Ao) fun _ aS aT aU b=>au 3<|cX (kG [32,101,110,100] rfl b Aa) fun _ aV aW aX b=>au 1<|rE p.g (b.cast Al)
theorem JO(p:WG w D 0 gH L)(q:WG w D 0 gC M):WG w D 13 (.mk [.p gH,.p gC]) ([101,108,105,102,32]++L++[32,116,104,101,110,32]++M):=by
 intro O f r P g t Q j k R c S d l m b hlen hnd
 have o:=c.hO t g
 have T:=d r g
 obtain⟨u,v,y,h0,z,A,B⟩:=f.p 0 rfl
 obtain⟨C,E,F,h1,H,I,J⟩:=f.p 1 rfl
 exact cY Tryz.func128 fun K=>ac 3<|cX (kG [101,108,105,102,32] rfl b Aa) fun _ U W X b=>au 3<|mf 0 (Gb o) h0 rfl<|au 1<|cX (p y B u v z A _ j k _ c.g Ac d l m.g b Aa Ao) fun _ Y Z aa b=>au 4<|cX (kG [32,116,104,101,110,32] rfl b Aa) fun _ ab ad ae b=>au 2<|mf 1 (Gb o) h1 rfl<|au 1<|cX (q F J C E H I _ j k _ c.g Ac d l m.g b Aa Ao) fun _ af ag ah b=>au 1<|rE K.g (b.cast Al)
theorem JP(k:WG w D 0 gH L):WG w D 14 (.mk [.p gH,.v Zp]) ([116,114,121,32]++L):=by
 intro C c l E d m F o p H f I g q r b hlen hnd
 have j:=f.hO m d
 have J:=g l d
 obtain⟨t,u,v,h0,y,z,A⟩:=c.p 0 rfl
 have h1:=c.v 1 rfl
 exact cY Tryz.func112 fun B=>ac 3<|cX (kG [116,114,121,32] rfl b Aa) fun _ K M O b=>au 3<|mf 0 (Gb j) h0 rfl<|au 1<|cX (k v A t u y z _ o p _ f.g Ac g q r.g b Aa Ao) fun _ P Q R b=>au 3<|mf 1 (Gb j) h1 rfl<|au 4<|rE B.g (b.cast Al)
theorem J2(p:WG w D 0 gH L)(q:WG w D 0 gC M):WG w D 14 (.mk [.p gH,.p gC]) ([116,114,121,32]++L++[32,99,97,116,99,104,32]++M):=by
 intro O g r P j t Q k l R c S d m o b hlen hnd
 have f:=c.hO t j
 have T:=d r j
 obtain⟨u,v,y,h0,z,A,B⟩:=g.p 0 rfl
 obtain⟨C,E,F,h1,H,I,J⟩:=g.p 1 rfl
 exact cY Tryz.func112 fun K=>ac 3<|cX (kG [116,114,121,32] rfl b Aa) fun _ U W X b=>au 3<|mf 0 (Gb f) h0 rfl<|au 1<|cX (p y B u v z A _ k l _ c.g Ac d m o.g b Aa Ao) fun _ Y Z aa b=>au 3<|mf 1 (Gb f) h1 rfl<|au 6<|cX (kG [32,99,97,116,99,104,32] rfl b Aa) fun _ ab ad ae b=>au 2<|mf 1 (Gb f) h1 rfl<|au 1<|cX (q F J C E H I _ k l _ c.g Ac d m o.g b Aa Ao) fun _ af ag ah b=>au 1<|rE K.g (b.cast Al)
theorem Mt{a:G}(p:WG w D 0 gC L)(q:WG w D 3 a M)(r:WG w D 0 gH lA)(t:WG w D 0 gD lB):WG w D 15 (.mk [.p gC,.p a,.p gH,.p gD]) ([114,101,100,117,99,101,32]++L++[32,97,115,32]++M++[32,40]++lA++[59,32]++lB++[41]):=by
 intro af f u ag o v ah g j ai c aj d k l b hlen hnd
 have m:=c.hO v o
 have ak:=d u o
 obtain⟨y,z,A,h0,B,C,E⟩:=f.p 0 rfl
 obtain⟨F,H,I,h1,J,K,O⟩:=f.p 1 rfl
 obtain⟨P,Q,R,h2,S,T,U⟩:=f.p 2 rfl
 obtain⟨W,X,Y,Z,aa,ab,ad⟩:=f.p 3 rfl
 exact cY Tryz.func113 fun ae=>ac 3<|cX (kG [114,101,100,117,99,101,32] rfl b Aa) fun _ al am an b=>au 3<|mf 0 (Gb m) h0 rfl<|au 1<|cX (p A E y z B C _ g j _ c.g Ac d k l.g b Aa Ao) fun _ ao ap aq b=>au 4<|cX (kG [32,97,115,32] rfl b Aa) fun _ ar av aw b=>au 3<|mf 1 (Gb m) h1 rfl<|au 1<|cX (q I O F H J K _ g j _ c.g Ac d k l.g b Aa Ao) fun _ ax ay az b=>au 4<|cX (kG [32,40] rfl b Aa) fun _ a0 a1 a2 b=>au 3<|mf 2 (Gb m) h2 rfl<|au 1<|cX (r R U P Q S T _ g j _ c.g Ac d k l.g b Aa Ao) fun _ a3 a4 a5 b=>au 4<|cX (kG [59,32] rfl b Aa) fun _ a6 a7 a8 b=>au 3<|mf 3 (Gb m) Z rfl<|au 1<|cX (t Y ad W X aa ab _ g j _ c.g Ac d k l.g b Aa Ao) fun _ a9 aA aB b=>au 3<|cX (WB (c:=41) b rfl Aa) fun _ aC aD aE b=>au 1<|rE ae.g (b.cast Al)
theorem I1{a:G}(p:WG w D 0 gC L)(q:WG w D 3 a M)(r:WG w D 0 gH lA)(t:WG w D 0 gD lB):WG w D 16 (.mk [.p gC,.p a,.p gH,.p gD,.v Zp]) ([102,111,114,101,97,99,104,32]++L++[32,97,115,32]++M++[32,40]++lA++[59,32]++lB++[41]):=by
 intro ag c u ah o v ai j k aj d ak f l m b hlen hnd
 have g:=d.hO v o
 have al:=f u o
 obtain⟨y,z,A,h0,B,C,E⟩:=c.p 0 rfl
 obtain⟨F,H,I,h1,J,K,O⟩:=c.p 1 rfl
 obtain⟨P,Q,R,h2,S,T,U⟩:=c.p 2 rfl
 obtain⟨W,X,Y,Z,aa,ab,ad⟩:=c.p 3 rfl
 have ae:=c.v 4 rfl
 exact cY Tryz.func114 fun af=>ac 3<|cX (kG [102,111,114,101,97,99,104,32] rfl b Aa) fun _ am an ao b=>au 3<|mf 0 (Gb g) h0 rfl<|au 1<|cX (p A E y z B C _ j k _ d.g Ac f l m.g b Aa Ao) fun _ ap aq ar b=>au 4<|cX (kG [32,97,115,32] rfl b Aa) fun _ av aw ax b=>au 3<|mf 1 (Gb g) h1 rfl<|au 1<|cX (q I O F H J K _ j k _ d.g Ac f l m.g b Aa Ao) fun _ ay az a0 b=>au 4<|cX (kG [32,40] rfl b Aa) fun _ a1 a2 a3 b=>au 3<|mf 2 (Gb g) h2 rfl<|au 1<|cX (r R U P Q S T _ j k _ d.g Ac f l m.g b Aa Ao) fun _ a4 a5 a6 b=>au 4<|cX (kG [59,32] rfl b Aa) fun _ a7 a8 a9 b=>au 3<|mf 3 (Gb g) Z rfl<|au 1<|cX (t Y ad W X aa ab _ j k _ d.g Ac f l m.g b Aa Ao) fun _ aA aB aC b=>au 4<|mf 4 (Gb g) ae rfl<|au 6<|cX (WB (c:=41) b rfl Aa) fun _ aD aE aF b=>au 1<|rE af.g (b.cast Al)
theorem I0{a e:G}(q:WG w D 0 gC L)(r:WG w D 3 a M)(t:WG w D 0 gH lA)(u:WG w D 0 gD lB)(v:WG w D 0 e lC):WG w D 16 (.mk [.p gC,.p a,.p gH,.p gD,.p e]) ([102,111,114,101,97,99,104,32]++L++[32,97,115,32]++M++[32,40]++lA++[59,32]++lB++[59,32]++lC++[41]):=by
 intro an g y ao o z ap j k aq c ar d l m b hlen hnd
 have f:=c.hO z o
 have av:=d y o
 obtain⟨A,B,C,h0,E,F,H⟩:=g.p 0 rfl
 obtain⟨I,J,K,h1,O,P,Q⟩:=g.p 1 rfl
 obtain⟨R,S,T,h2,U,W,X⟩:=g.p 2 rfl
 obtain⟨Y,Z,aa,ab,ad,ae,af⟩:=g.p 3 rfl
 obtain⟨ag,ah,ai,p,aj,ak,al⟩:=g.p 4 rfl
 refine cY Tryz.func114 fun am=>ac 3<|cX (kG [102,111,114,101,97,99,104,32] rfl b Aa) fun _ aw ax ay b=>au 3<|mf 0 (Gb f) h0 rfl<|au 1<|cX (q C H A B E F _ j k _ c.g Ac d l m.g b Aa Ao) fun _ az a0 a1 b=>au 4<|cX (kG [32,97,115,32] rfl b Aa) fun _ a2 a3 a4 b=>au 3<|mf 1 (Gb f) h1 rfl<|au 1<|cX (r K Q I J O P _ j k _ c.g Ac d l m.g b Aa Ao) fun _ a5 a6 a7 b=>au 4<|cX (kG [32,40] rfl b Aa) fun _ a8 a9 aA b=>au 3<|mf 2 (Gb f) h2 rfl<|au 1<|cX (t T X R S U W _ j k _ c.g Ac d l m.g b Aa Ao) fun _ aB aC aD b=>au 4<|cX (kG [59,32] rfl b Aa) fun _ aE aF aG b=>au 3<|mf 3 (Gb f) ab rfl<|au 1<|cX (u aa af Y Z ad ae _ j k _ c.g Ac d l m.g b Aa Ao) fun _ aH aI aJ b=>au 4<|mf 4 (Gb f) p rfl<|au 6<|cX (kG [59,32] rfl b Aa) fun _ aK aL aM b=>au 2<|mf 4 (Gb f) p rfl<|au 1<|cX (v ai al ag ah aj ak _ j k _ c.g Ac d l m.g b Aa Ao) fun _ aN aO aP b=>au 3<|cX (WB (c:=41) b rfl Aa) ?_
 rintro _ aQ aR aS b
 exact au 1<|rE am.g (b.cast Al)
theorem Mr{s:ByteArray}(k:WG w D 0 gH L):WG w D 17 (.mk [.v (.string s),.p gH]) ([108,97,98,101,108,32]++s.data.toList++[32,124,32]++L):=by
 intro C c l E d m F o p H f I g q r b hlen hnd
 have j:=f.hO m d
 have J:=g l d
 have h0:=c.v 0 rfl
 obtain⟨t,u,v,h1,y,z,A⟩:=c.p 1 rfl
 exact cY Tryz.func115 fun B=>ac 3<|cX (kG [108,97,98,101,108,32] rfl b Aa) fun _ K M O b=>au 4<|mf 0 (Gb j) h0 rfl<|cX (WS b Aa) fun _ P Q R b=>au 4<|cX (kG [32,124,32] rfl b Aa) fun _ S T U b=>au 2<|mf 1 (Gb j) h1 rfl<|au 1<|cX (k v A t u y z _ o p _ f.g Ac g q r.g b Aa Ao) fun _ W X Y b=>au 1<|rE B.g (b.cast Al)
theorem Ph{x:G}(k:WG w D 1 x L):WG w D 18 (.mk [.v (.int .i64 4),.p x]) ([45]++L):=by
 intro C c l E d m F o p H f I g q r b hlen hnd
 have j:=f.hO m d
 have J:=g l d
 have h0:=c.v 0 rfl
 obtain⟨t,u,v,h1,y,z,A⟩:=c.p 1 rfl
 refine cY Tryz.func109 fun B=>ac 3<|mf 0 j h0 rfl<|cX (xJ 4 _ Ah) ?_
 rintro _ K M O rfl
 exact cX (kG [45] rfl b.g Aa) fun _ P Q R b=>au 2<|mf 1 (Gb j) h1 rfl<|au 1<|cX (k v A t u y z _ o p _ f.g Ac g q r.g b Aa Ao) fun _ S T U b=>au 1<|rE B.g (b.cast Al)
theorem Jj{x:G}(m:WG w D 5 x L):WG w D 21 x (46::L):=by
 intro o p f q g j H r t d k I l u v c hlen hnd
 have J:=k.hO j g
 have K:=l f g
 have A:0<d.length→∃b,d.getLast? =some b:=fun h=>⟨d.getLast (fun e=>by rw[e]at h;simp at h),U8 _⟩
 simp only[To]at hlen
 refine cY Tryz.func105 fun y=>ac 4<|cX (BL c) ?_
 rintro _ M O P rfl
 refine au 5<|jG rfl rfl (fun B=>?_) (fun B=>?_)
 ·obtain⟨b,hc⟩:=A Ac
  refine au 5<|cX (BS c.g) ?_
  rintro _ Q R S ⟨rfl,c⟩
  refine au 1<|si ((d.length - 1:Nat):Int) rfl rfl<|DL.y rfl rfl (Y.ma (i:=d.length - 1) (b:=b) Tryz.underlying9 rfl rfl rfl (by rw[←Vu];exact hc)) ?_
  refine au 5<|jE rfl rfl (fun C=>?_) (fun C=>?_)
  ·refine au 9 ?_
   have hdt:iJ d=true:=by{unfold iJ;rw[hc];show(b==46||(48≤b&&b≤57))=true;have z:=b.toNat_lt;rw[Uv];simp only[TO,Tx,Uh,TA,T1,←TV];simp;omega}
   rw[hdt]at hnd;cases hnd
  refine au 2<|jM rfl rfl (fun E=>?_) (fun E=>?_)
  ·refine au 2<|jM rfl rfl (fun F=>?_) (fun F=>?_)
   ·refine au 3 ?_
    have hdt:iJ d=true:=by{unfold iJ;rw[hc];show(b==46||(48≤b&&b≤57))=true;have z:=b.toNat_lt;rw[Uv];simp only[TO,Tx,Uh,TA,T1,←TV];simp;omega}
    rw[hdt]at hnd;cases hnd
   refine au 3 ?_
   have hdt:iJ d=false:=by{unfold iJ;rw[hc];show(b==46||(48≤b&&b≤57))=false;have z:=b.toNat_lt;rw[Uv];simp only[TO,Tx,Uh,TA,T1,←TV];simp;omega}
   exact ac 5<|cX (WB (c:=46) c rfl Aa) fun _ T U W c=>au 4<|cX (m o p f q g j _ r t _ k.g Ac l u v.g c Aa) fun _ X Z aa c=>au 1<|rE y.g (c.cast Al)
  refine au 6 ?_
  have hdt:iJ d=false:=by{unfold iJ;rw[hc];show(b==46||(48≤b&&b≤57))=false;have z:=b.toNat_lt;rw[Uv];simp only[TO,Tx,Uh,TA,T1,←TV];simp;omega}
  exact ac 5<|cX (WB (c:=46) c rfl Aa) fun _ ab ad ae c=>au 4<|cX (m o p f q g j _ r t _ k.g Ac l u v.g c Aa) fun _ af ag ah c=>au 1<|rE y.g (c.cast Al)
 refine au 6<|cX (WB (c:=46) c.g rfl Aa) fun _ ai aj ak c=>au 4<|cX (m o p f q g j _ r t _ k.g Ac l u v.g c Aa) fun _ al am an c=>au 1 ?_
 obtain rfl:d=[]:=Tn Ac
 exact rE y.g (c.cast Al)
theorem Gz{x:G}(m:WG w D 24 x L):WG w D 21 x (46::L):=by
 intro o p f q g j H r t d k I l u v c hlen hnd
 have J:=k.hO j g
 have K:=l f g
 have A:0<d.length→∃b,d.getLast? =some b:=fun h=>⟨d.getLast (fun e=>by rw[e]at h;simp at h),U8 _⟩
 simp only[To]at hlen
 refine cY Tryz.func105 fun y=>ac 4<|cX (BL c) ?_
 rintro _ M O P rfl
 refine au 5<|jG rfl rfl (fun B=>?_) (fun B=>?_)
 ·obtain⟨b,hc⟩:=A Ac
  refine au 5<|cX (BS c.g) ?_
  rintro _ Q R S ⟨rfl,c⟩
  refine au 1<|si ((d.length - 1:Nat):Int) rfl rfl<|DL.y rfl rfl (Y.ma (i:=d.length - 1) (b:=b) Tryz.underlying9 rfl rfl rfl (by rw[←Vu];exact hc)) ?_
  refine au 5<|jE rfl rfl (fun C=>?_) (fun C=>?_)
  ·refine au 9 ?_
   have hdt:iJ d=true:=by{unfold iJ;rw[hc];show(b==46||(48≤b&&b≤57))=true;have z:=b.toNat_lt;rw[Uv];simp only[TO,Tx,Uh,TA,T1,←TV];simp;omega}
   rw[hdt]at hnd;cases hnd
  refine au 2<|jM rfl rfl (fun E=>?_) (fun E=>?_)
  ·refine au 2<|jM rfl rfl (fun F=>?_) (fun F=>?_)
   ·refine au 3 ?_
    have hdt:iJ d=true:=by{unfold iJ;rw[hc];show(b==46||(48≤b&&b≤57))=true;have z:=b.toNat_lt;rw[Uv];simp only[TO,Tx,Uh,TA,T1,←TV];simp;omega}
    rw[hdt]at hnd;cases hnd
   refine au 3 ?_
   have hdt:iJ d=false:=by{unfold iJ;rw[hc];show(b==46||(48≤b&&b≤57))=false;have z:=b.toNat_lt;rw[Uv];simp only[TO,Tx,Uh,TA,T1,←TV];simp;omega}
   exact ac 5<|cX (WB (c:=46) c rfl Aa) fun _ T U W c=>au 4<|cX (m o p f q g j _ r t _ k.g Ac l u v.g c Aa) fun _ X Z aa c=>au 1<|rE y.g (c.cast Al)
  refine au 6 ?_
  have hdt:iJ d=false:=by{unfold iJ;rw[hc];show(b==46||(48≤b&&b≤57))=false;have z:=b.toNat_lt;rw[Uv];simp only[TO,Tx,Uh,TA,T1,←TV];simp;omega}
  exact ac 5<|cX (WB (c:=46) c rfl Aa) fun _ ab ad ae c=>au 4<|cX (m o p f q g j _ r t _ k.g Ac l u v.g c Aa) fun _ af ag ah c=>au 1<|rE y.g (c.cast Al)
 refine au 6<|cX (WB (c:=46) c.g rfl Aa) fun _ ai aj ak c=>au 4<|cX (m o p f q g j _ r t _ k.g Ac l u v.g c Aa) fun _ al am an c=>au 1 ?_
 obtain rfl:d=[]:=Tn Ac
 exact rE y.g (c.cast Al)
theorem Lu{x:G}(m:WG w D 5 x L):WG w D 22 x (46::L):=by
 intro o p f q g j H r t d k I l u v b hlen
 have J:=k.hO j g
 have K:=l f g
 have A:0<d.length→∃c,d.getLast? =some c:=fun h=>⟨d.getLast (fun e=>by rw[e]at h;simp at h),U8 _⟩
 rw[show(ib d (true,46::L)).length=d.length+(if iJ d=true then 1 else 0)+(L.length+1) by{simp only[ib,VH,Tl,To];split<;>simp<;>omega}]at hlen
 refine cY Tryz.func105 fun y=>ac 4<|cX (BL b) ?_
 rintro _ M O P rfl
 refine au 5<|jG rfl rfl (fun B=>?_) (fun B=>?_)
 ·obtain⟨c,hc⟩:=A Ac
  refine au 5<|cX (BS b.g) ?_
  rintro _ Q R S ⟨rfl,b⟩
  refine au 1<|si ((d.length - 1:Nat):Int) rfl rfl<|DL.y rfl rfl (Y.ma (i:=d.length - 1) (b:=c) Tryz.underlying9 rfl rfl rfl (by rw[←Vu];exact hc)) ?_
  refine au 5<|jE rfl rfl (fun C=>?_) (fun C=>?_)
  ·refine au 9 ?_
   have hdt:iJ d=true:=by{unfold iJ;rw[hc];show(c==46||(48≤c&&c≤57))=true;have z:=c.toNat_lt;rw[Uv];simp only[TO,Tx,Uh,TA,T1,←TV];simp;omega}
   rw[hdt]at hlen
   simp only[if_true,if_false,UN]at hlen
   exact ac 3<|cX (WB (c:=32) b rfl Aa) fun _ T U W b=>au 4<|cX (WB (c:=46) b rfl Aa) fun _ X Z aa b=>au 4<|cX (m o p f q g j _ r t _ k.g Ac l u v.g b Aa) fun _ ab ad ae b=>au 1<|rE y.g (b.cast Cf)
  refine au 2<|jM rfl rfl (fun E=>?_) (fun E=>?_)
  ·refine au 2<|jM rfl rfl (fun F=>?_) (fun F=>?_)
   ·refine au 3 ?_
    have hdt:iJ d=true:=by{unfold iJ;rw[hc];show(c==46||(48≤c&&c≤57))=true;have z:=c.toNat_lt;rw[Uv];simp only[TO,Tx,Uh,TA,T1,←TV];simp;omega}
    rw[hdt]at hlen
    simp only[if_true,if_false,UN]at hlen
    exact ac 3<|cX (WB (c:=32) b rfl Aa) fun _ af ag ah b=>au 4<|cX (WB (c:=46) b rfl Aa) fun _ ai aj ak b=>au 4<|cX (m o p f q g j _ r t _ k.g Ac l u v.g b Aa) fun _ al am an b=>au 1<|rE y.g (b.cast Cf)
   refine au 3 ?_
   have hdt:iJ d=false:=by{unfold iJ;rw[hc];show(c==46||(48≤c&&c≤57))=false;have z:=c.toNat_lt;rw[Uv];simp only[TO,Tx,Uh,TA,T1,←TV];simp;omega}
   rw[hdt]at hlen
   simp only[if_true,if_false,UN]at hlen
   exact ac 5<|cX (WB (c:=46) b rfl Aa) fun _ ao ap aq b=>au 4<|cX (m o p f q g j _ r t _ k.g Ac l u v.g b Aa) fun _ ar av aw b=>au 1<|rE y.g (b.cast Cf)
  refine au 6 ?_
  have hdt:iJ d=false:=by{unfold iJ;rw[hc];show(c==46||(48≤c&&c≤57))=false;have z:=c.toNat_lt;rw[Uv];simp only[TO,Tx,Uh,TA,T1,←TV];simp;omega}
  rw[hdt]at hlen
  simp only[if_true,if_false,UN]at hlen
  exact ac 5<|cX (WB (c:=46) b rfl Aa) fun _ ax ay az b=>au 4<|cX (m o p f q g j _ r t _ k.g Ac l u v.g b Aa) fun _ a0 a1 a2 b=>au 1<|rE y.g (b.cast Cf)
 have hdt:iJ d=false:=by{rw[Tn (show d.length=0 by omega)];rfl}
 rw[hdt]at hlen
 simp only[if_false,UN]at hlen
 refine au 6<|cX (WB (c:=46) b.g rfl Aa) fun _ a3 a4 a5 b=>au 4<|cX (m o p f q g j _ r t _ k.g Ac l u v.g b Aa) fun _ a6 a7 a8 b=>au 1 ?_
 obtain rfl:d=[]:=Tn Ac
 exact rE y.g (b.cast (by simp[ib,iJ]))
theorem QS(h:Wr W D 40 gH L)(q:HR W D gH c)(r:D m)(t:W.heap[m]? =some (.cells c k (0,0)))(j:Kp D W w)(d:W.heap.size≤w.heap.size)(u:∀f,D f→f<w.heap.size)(h2:2≤w.heap.size)(l:ij w)(hlen:L.length≤17592186044416):
  Calls Tryz.prog 13 #[Pt m] w (hH w [] fun v M=>v=.string ⟨L.toArray⟩):=by
 refine cY Tryz.func13 fun b=>ac 6<|al F.PL rfl fun o y g p O z=>have p:=Tq b.size p;have b:=b.jP g.f;have j:=j.step d g.f Az;have d:=Tq d g.size;have l:=l.fr g.f Az;au 4 ?_
 have A:=Bf.new z
 have B:=h _ q m k r t y o o [] j d (fun f C=>by have:=u f C;omega) Ac l A (by simpa using hlen) rfl
 refine cX (B) fun _ E H _ I=>have b:Fr [] w E:=b.put H.f (fun i hi=>Tk (by have:=(kA.1 hi).1;omega));au 3<|cX (BS I) ?_
 rintro _ J K _ ⟨rfl,_⟩
 have b:Fr [] w J:=b.put K.f (fun i hi=>Tk (by have:=(kA.1 hi).1;omega))
 exact au 3<|rX b rfl
theorem LO(aq:0<gA.length)(ar:gA.length≤1125899906842624)(av:gA.length=lJ.length)(U:∀(i:Nat)(h1:i<gA.length)(h2:i<lJ.length),WG w D 23 gA[i] lJ[i]):WG w D 7 (.mk [.v Zs,.l gA]) ([34]++lJ.flatten++[34]):=by
 intro aw W q ax L X ay r t Z d M u aa f b hlen
 have O:=d.hO X L
 have az:=u q L
 obtain⟨y,ab,h1,P⟩:=W.l 1 rfl
 have ad:y≠none:=by{obtain⟨ae,af,Q,ag,ah,e,_⟩:=P.kH (i:=0) Ac;rw[e];simp}
 refine cY Tryz.func110 fun z=>ac 3<|mf 1 O h1 rfl<|DL.y rfl rfl (Y.uG (b:=false) Tryz.underlying127 rfl (by cases y with|none=>exact Tu rfl ad|some _=>rfl))<|au 6<|cX (WB (c:=34) b rfl Aa) fun _ R a0 a1 b=>au 4<|mf 1 (Gb O) h1 rfl<|au 4<|DC.jC (σ:=Nat) [(5,6),(25,51)] [(0,Pt q),(1,Pt t),(23,.slice y gA.length ab),(24,.int .i64 (gA.length:Int))] (fun i=>[(25,.int .i64 (i:Int))]) (fun i j=>Fr (rg r R) R j∧i≤gA.length∧Bf j r t (Z++[34]++(lJ.take i).flatten)∧Kp D w j∧w.heap.size≤j.heap.size∧ij j) (fun i=>gA.length - i) 0 rfl ?_ ?_ ?_ ?_
 ·exact⟨rfl,rfl,rfl,rfl⟩
 ·exact rfl
 ·exact⟨Fr.refl _ _,TE _,b.cast Al,d.g,Ac,f.g⟩
 rintro a2 i a3 a4 ⟨S,a5,b,d,M,f⟩
 have z:=FB.tr z.g S
 have T:=S
 refine ac 2<|jX rfl rfl (fun aj=>?_) (fun aj=>?_)
 ·have hi:i<gA.length:=by omega
  obtain⟨ae,af,Q,ag,ah,rfl,ak,m,o,p,g⟩:=P.kH hi
  have m:=d.cell m ak
  have hit:i<lJ.length:=by omega
  have hge:=sU lJ i hit
  rcases U i hi hit with⟨a6,a7,k,A,l⟩|⟨s,k,A,l⟩
  ·rw[A]at g l
   obtain⟨al,am,an,B,C,E,H⟩:=g.p 3 rfl
   have I:=d.hO p o
   have J:=d.hO E C
   rw[k]at hge
   have K:=H.v 8 rfl
   exact au 8<|iX F.lq hi rfl rfl rfl<|lC m rfl<|au 4<|mf 3 I B rfl<|au 2<|lD J rfl K<|au 6<|cX (kG [92] rfl b Bd) fun _ a8 a9 aA b=>au 4<|cX (l _ g Q _ o p _ r t _ d.g Ac u aa f.g b Bd Ao) fun _ aB aC aD b=>au 2<|ai ((i+1:Nat):Int) rfl rfl<|au 2 ⟨i+1,⟨T.g,hi,b.cast (by rw[r8 hit,k];simp),d.g,Ac,f.g⟩,by show gA.length - (i+1)<gA.length - i;omega,rfl⟩
  rw[A]at g l
  obtain⟨al,am,an,B,C,E,H⟩:=g.p 3 rfl
  have I:=d.hO p o
  have J:=d.hO E C
  rw[k]at hge
  obtain⟨_,_,_,K,_,_,_⟩:=H.p 8 rfl
  simp only[Tl,To,Tw]at hlen
  have aE:(qL s.data.toList).length=(iS s.data.toList).length+2:=by simp[qL]
  refine au 8<|iX F.lq hi rfl rfl rfl<|lC m rfl<|au 4<|mf 3 I B rfl<|au 2<|lD J rfl K<|au 6<|cX (QS l g o p d M (fun ao ap=>by have:=u ao ap;have:=b.le;omega) (by have:=b.le;omega) f Ac) ?_
  rintro _ aF aG aH rfl
  exact au 7<|DL.y rfl rfl (Y.n8 (c:=(((⟨(qL s.data.toList).toArray⟩:ByteArray).size - 1:Nat):Int)) rfl rfl Bp Ac (by have e:=hK ⟨(qL s.data.toList).toArray⟩;simp at e;omega))<|DL.y rfl rfl (v:=.string ⟨(iS s.data.toList).toArray⟩) (by rw[←Oa];exact Y.nh Tryz.underlying9 rfl rfl rfl Ac Bp Ac)<|cX (kG (iS s.data.toList) Al b.g Bd) fun _ aI aJ aK b=>au 2<|ai ((i+1:Nat):Int) rfl rfl<|au 2 ⟨i+1,⟨T.g,hi,b.cast (by rw[r8 hit,k];simp),d.g,Ac,f.g⟩,by show gA.length - (i+1)<gA.length - i;omega,rfl⟩
 obtain rfl:i=gA.length:=by omega
 rw[TK Ac]at b
 exact au 4<|ac 2<|cX (WB (c:=34) b rfl Aa) fun _ aL aM aN b=>au 1<|rE z.g (b.cast Al)
end Go.Proofs.YtlojelcoibpphaaGreatDoor
