/- FnQueryText, second form: own texts, joined and made short by a program (part 10): for every argument of bulk at most 1048576 the law answers true. -/
import Derived.Test.YtlojelcoibpphaaGreatDoorMx01
import Derived.Test.YtlojelcoibpphaaGreatDoorMx06
import Derived.Test.YtlojelcoibpphaaGreatDoorMx03
import Derived.Shelf.Strconv.Itoa3
import Derived.Test.YtlojelcoibpphaaGreatDoorProg
import Derived.Test.YtlojelcoibpphaaGreatDoorMx02
import Derived.Lib.ItoaMem
import Derived.Test.YtlojelcoibpphaaGreatDoorMx09
set_option maxRecDepth 100000
set_option maxHeartbeats 2000000
set_option linter.unusedVariables false
set_option linter.unusedSimpArgs false
set_option linter.unusedSectionVars false
set_option linter.defProp false
namespace Go.Proofs.YtlojelcoibpphaaGreatDoor
open Go Go.RowKit D Go.Deep Go.Proofs
variable{L:List UInt8}{m k:Nat}{w:World}{D:Nat→Prop}{c:Array Value}{v:Value}{gH:G}
theorem Dm.mZ{hi b:Nat}(h0:∀c,D c→c<m)(f:m≤b)(g:b<k∨hi≤b):∀x,Dm D k hi x→x∉[b]:=fun x h d=>by
 rcases Tt.1 d with rfl
 rcases h with h|h
 ·have:=h0 _ h;omega
 ·omega
theorem jv{s:ByteArray}(h:hB w m k c)(hs:c[0]? =some (.string s)):w.cell? ⟨m,k+0,none⟩=some (.string s):=h.cell 0 hs
theorem lb{n:N}(h:RN w D 0 n c):c[0]? =some (.string (iz n)):=by
 obtain⟨b,d,f,g,j,k,l⟩:=n
 obtain⟨m,o,p,q,r,t,u,v,y,z,A,B,C,E,rfl⟩:=h.hI
 rfl
theorem oE{s:ByteArray}(h:jI s.data.toList):s≠⟨#[]⟩:=fun e=>by rw[e]at h;cases h
theorem j0(s:ByteArray):(Cx++s:ByteArray)≠⟨#[]⟩:=fun e=>by
 have:=TR (fun b:ByteArray=>b.data.toList.length) e
 simp[Un]at this
theorem jO(s:ByteArray):(Cx++s:ByteArray).data.toList=36::s.data.toList:=by simp[Un]
theorem IC(b:D m)(c:w.heap[m]? =some (.cells #[.int .i64 1,Zp,Zp,Zp,Zp,Zs,Zp,Zs,Zp,Zp,Zp,Zp,Zp,Zp,Zs,Zp,Zl] 125 (0,0))):Tm w D ([46]) m (fun d f=>d=1∧f=nP):=
 ⟨b,[.v (.int .i64 1),.v Zp,.v Zp,.v Zp,.v Zp,.v Zs,.v Zp,.v Zs,.v Zp,.v Zp,.v Zp,.v Zp,.v Zp,.v Zp,.v Zs,.v Zp],[],_,_,_,c,HR.c (.cons .vv (.cons .vv (.cons .vv (.cons .vv (.cons .vv (.cons .vv (.cons .vv (.cons .vv (.cons .vv (.cons .vv (.cons .vv (.cons .vv (.cons .vv (.cons .vv (.cons .vv (.cons .vv (.cons .l0 .nil))))))))))))))))),rfl,rfl,rfl,Pr.NM (ss:=[]) (fun s h=>by cases h) rfl oW,⟨rfl,rfl⟩⟩
theorem F6(b:D m)(c:w.heap[m]? =some (.cells #[.int .i64 2,Zp,Zp,Zp,Zp,Zs,Zp,Zs,Zp,Zp,Zp,Zp,Zp,Zp,Zs,Zp,Zl] 125 (0,0))):Tm w D ([46,46]) m (fun d f=>d=2∧f=nP):=
 ⟨b,[.v (.int .i64 2),.v Zp,.v Zp,.v Zp,.v Zp,.v Zs,.v Zp,.v Zs,.v Zp,.v Zp,.v Zp,.v Zp,.v Zp,.v Zp,.v Zs,.v Zp],[],_,_,_,c,HR.c (.cons .vv (.cons .vv (.cons .vv (.cons .vv (.cons .vv (.cons .vv (.cons .vv (.cons .vv (.cons .vv (.cons .vv (.cons .vv (.cons .vv (.cons .vv (.cons .vv (.cons .vv (.cons .vv (.cons .l0 .nil))))))))))))))))),rfl,rfl,rfl,Pr.Hm (ss:=[]) (fun s h=>by cases h) rfl oW,⟨rfl,rfl⟩⟩
theorem El(b:D m)(c:w.heap[m]? =some (.cells #[.int .i64 3,Zp,Zp,Zp,Zp,Zs,Zp,Zs,Zp,Zp,Zp,Zp,Zp,Zp,Zs,Zp,Zl] 125 (0,0))):Tm w D ([110,117,108,108]) m (fun d f=>d=3∧f=nP):=
 ⟨b,[.v (.int .i64 3),.v Zp,.v Zp,.v Zp,.v Zp,.v Zs,.v Zp,.v Zs,.v Zp,.v Zp,.v Zp,.v Zp,.v Zp,.v Zp,.v Zs,.v Zp],[],_,_,_,c,HR.c (.cons .vv (.cons .vv (.cons .vv (.cons .vv (.cons .vv (.cons .vv (.cons .vv (.cons .vv (.cons .vv (.cons .vv (.cons .vv (.cons .vv (.cons .vv (.cons .vv (.cons .vv (.cons .vv (.cons .l0 .nil))))))))))))))))),rfl,rfl,rfl,Pr.wU (ss:=[]) (fun s h=>by cases h) rfl oW,⟨rfl,rfl⟩⟩
theorem BY(b:D m)(c:w.heap[m]? =some (.cells #[.int .i64 4,Zp,Zp,Zp,Zp,Zs,Zp,Zs,Zp,Zp,Zp,Zp,Zp,Zp,Zs,Zp,Zl] 125 (0,0))):Tm w D ([116,114,117,101]) m (fun d f=>d=4∧f=nP):=
 ⟨b,[.v (.int .i64 4),.v Zp,.v Zp,.v Zp,.v Zp,.v Zs,.v Zp,.v Zs,.v Zp,.v Zp,.v Zp,.v Zp,.v Zp,.v Zp,.v Zs,.v Zp],[],_,_,_,c,HR.c (.cons .vv (.cons .vv (.cons .vv (.cons .vv (.cons .vv (.cons .vv (.cons .vv (.cons .vv (.cons .vv (.cons .vv (.cons .vv (.cons .vv (.cons .vv (.cons .vv (.cons .vv (.cons .vv (.cons .l0 .nil))))))))))))))))),rfl,rfl,rfl,Pr.xI (ss:=[]) (fun s h=>by cases h) rfl oW,⟨rfl,rfl⟩⟩
theorem x3(b:D m)(c:w.heap[m]? =some (.cells #[.int .i64 5,Zp,Zp,Zp,Zp,Zs,Zp,Zs,Zp,Zp,Zp,Zp,Zp,Zp,Zs,Zp,Zl] 125 (0,0))):Tm w D ([102,97,108,115,101]) m (fun d f=>d=5∧f=nP):=
 ⟨b,[.v (.int .i64 5),.v Zp,.v Zp,.v Zp,.v Zp,.v Zs,.v Zp,.v Zs,.v Zp,.v Zp,.v Zp,.v Zp,.v Zp,.v Zp,.v Zs,.v Zp],[],_,_,_,c,HR.c (.cons .vv (.cons .vv (.cons .vv (.cons .vv (.cons .vv (.cons .vv (.cons .vv (.cons .vv (.cons .vv (.cons .vv (.cons .vv (.cons .vv (.cons .vv (.cons .vv (.cons .vv (.cons .vv (.cons .l0 .nil))))))))))))))))),rfl,rfl,rfl,Pr.sH (ss:=[]) (fun s h=>by cases h) rfl oW,⟨rfl,rfl⟩⟩
theorem J0{w:World}{D:Nat→Prop}{x:G}(b:D m)(c:w.heap[m]? =some (.cells #[.int .i64 6,v,Zp,Zp,Zp,Zs,Zp,Zs,Zp,Zp,Zp,Zp,Zp,Zp,Zs,Zp,Zl] 125 (0,0)))(d:HF w D (.p x) v)(f:Pr 21 x L)(g:L≠[]):Tm w D (L) m (fun j k=>j=6∧k=nP):=
 ⟨b,[.v (.int .i64 6),.p x,.v Zp,.v Zp,.v Zp,.v Zs,.v Zp,.v Zs,.v Zp,.v Zp,.v Zp,.v Zp,.v Zp,.v Zp,.v Zs,.v Zp],[],_,_,_,c,HR.c (.cons .vv (.cons d (.cons .vv (.cons .vv (.cons .vv (.cons .vv (.cons .vv (.cons .vv (.cons .vv (.cons .vv (.cons .vv (.cons .vv (.cons .vv (.cons .vv (.cons .vv (.cons .vv (.cons .l0 .nil))))))))))))))))),rfl,rfl,rfl,Pr.NK (ss:=[]) (fun s h=>by cases h) rfl oW g f,⟨rfl,rfl⟩⟩
theorem o6{w:World}{D:Nat→Prop}{x:G}(b:D m)(c:w.heap[m]? =some (.cells #[.int .i64 7,Zp,v,Zp,Zp,Zs,Zp,Zs,Zp,Zp,Zp,Zp,Zp,Zp,Zs,Zp,Zl] 125 (0,0)))(d:HF w D (.p x) v)(f:Pr 6 x L)(g:L≠[]):Tm w D (L) m (fun j k=>j=7∧k=nP):=
 ⟨b,[.v (.int .i64 7),.v Zp,.p x,.v Zp,.v Zp,.v Zs,.v Zp,.v Zs,.v Zp,.v Zp,.v Zp,.v Zp,.v Zp,.v Zp,.v Zs,.v Zp],[],_,_,_,c,HR.c (.cons .vv (.cons .vv (.cons d (.cons .vv (.cons .vv (.cons .vv (.cons .vv (.cons .vv (.cons .vv (.cons .vv (.cons .vv (.cons .vv (.cons .vv (.cons .vv (.cons .vv (.cons .vv (.cons .l0 .nil))))))))))))))))),rfl,rfl,rfl,Pr.NZ (ss:=[]) (fun s h=>by cases h) rfl oW g f,⟨rfl,rfl⟩⟩
theorem Dh{D:Nat→Prop}{x:G}(b:D m)(c:w.heap[m]? =some (.cells #[.int .i64 8,Zp,Zp,v,Zp,Zs,Zp,Zs,Zp,Zp,Zp,Zp,Zp,Zp,Zs,Zp,Zl] 125 (0,0)))(d:HF w D (.p x) v)(f:Pr 8 x L)(g:L≠[]):Tm w D (L) m (fun j k=>j=8∧k=nP):=
 ⟨b,[.v (.int .i64 8),.v Zp,.v Zp,.p x,.v Zp,.v Zs,.v Zp,.v Zs,.v Zp,.v Zp,.v Zp,.v Zp,.v Zp,.v Zp,.v Zs,.v Zp],[],_,_,_,c,HR.c (.cons .vv (.cons .vv (.cons .vv (.cons d (.cons .vv (.cons .vv (.cons .vv (.cons .vv (.cons .vv (.cons .vv (.cons .vv (.cons .vv (.cons .vv (.cons .vv (.cons .vv (.cons .vv (.cons .l0 .nil))))))))))))))))),rfl,rfl,rfl,Pr.NI (ss:=[]) (fun s h=>by cases h) rfl oW g f,⟨rfl,rfl⟩⟩
theorem wc{w:World}{D:Nat→Prop}{x:G}(b:D m)(c:w.heap[m]? =some (.cells #[.int .i64 9,Zp,Zp,Zp,v,Zs,Zp,Zs,Zp,Zp,Zp,Zp,Zp,Zp,Zs,Zp,Zl] 125 (0,0)))(d:HF w D (.p x) v)(f:Pr 10 x L)(g:L≠[]):Tm w D (L) m (fun j k=>j=9∧k=nP):=
 ⟨b,[.v (.int .i64 9),.v Zp,.v Zp,.v Zp,.p x,.v Zs,.v Zp,.v Zs,.v Zp,.v Zp,.v Zp,.v Zp,.v Zp,.v Zp,.v Zs,.v Zp],[],_,_,_,c,HR.c (.cons .vv (.cons .vv (.cons .vv (.cons .vv (.cons d (.cons .vv (.cons .vv (.cons .vv (.cons .vv (.cons .vv (.cons .vv (.cons .vv (.cons .vv (.cons .vv (.cons .vv (.cons .vv (.cons .l0 .nil))))))))))))))))),rfl,rfl,rfl,Pr.N2 (ss:=[]) (fun s h=>by cases h) rfl oW g f,⟨rfl,rfl⟩⟩
theorem EL{w:World}{D:Nat→Prop}{x:G}(b:D m)(c:w.heap[m]? =some (.cells #[.int .i64 11,Zp,Zp,Zp,Zp,Zs,v,Zs,Zp,Zp,Zp,Zp,Zp,Zp,Zs,Zp,Zl] 125 (0,0)))(d:HF w D (.p x) v)(f:Pr 18 x L)(g:L≠[]):Tm w D (L) m (fun j k=>j=11∧k=.p x):=
 ⟨b,[.v (.int .i64 11),.v Zp,.v Zp,.v Zp,.v Zp,.v Zs,.p x,.v Zs,.v Zp,.v Zp,.v Zp,.v Zp,.v Zp,.v Zp,.v Zs,.v Zp],[],_,_,_,c,HR.c (.cons .vv (.cons .vv (.cons .vv (.cons .vv (.cons .vv (.cons .vv (.cons d (.cons .vv (.cons .vv (.cons .vv (.cons .vv (.cons .vv (.cons .vv (.cons .vv (.cons .vv (.cons .vv (.cons .l0 .nil))))))))))))))))),rfl,rfl,rfl,Pr.NQ (ss:=[]) (fun s h=>by cases h) rfl oW g f,⟨rfl,rfl⟩⟩
theorem zM{w:World}{D:Nat→Prop}{x:G}(b:D m)(c:w.heap[m]? =some (.cells #[.int .i64 13,Zp,Zp,Zp,Zp,Zs,Zp,Zs,v,Zp,Zp,Zp,Zp,Zp,Zs,Zp,Zl] 125 (0,0)))(d:HF w D (.p x) v)(f:Pr 7 x L)(g:L≠[]):Tm w D (L) m (fun j k=>j=13∧k=nP):=
 ⟨b,[.v (.int .i64 13),.v Zp,.v Zp,.v Zp,.v Zp,.v Zs,.v Zp,.v Zs,.p x,.v Zp,.v Zp,.v Zp,.v Zp,.v Zp,.v Zs,.v Zp],[],_,_,_,c,HR.c (.cons .vv (.cons .vv (.cons .vv (.cons .vv (.cons .vv (.cons .vv (.cons .vv (.cons .vv (.cons d (.cons .vv (.cons .vv (.cons .vv (.cons .vv (.cons .vv (.cons .vv (.cons .vv (.cons .l0 .nil))))))))))))))))),rfl,rfl,rfl,Pr.Nj (ss:=[]) (fun s h=>by cases h) rfl oW g f,⟨rfl,rfl⟩⟩
theorem AS{D:Nat→Prop}{x:G}(b:D m)(c:w.heap[m]? =some (.cells #[.int .i64 14,Zp,Zp,Zp,Zp,Zs,Zp,Zs,Zp,v,Zp,Zp,Zp,Zp,Zs,Zp,Zl] 125 (0,0)))(d:HF w D (.p x) v)(f:Pr 12 x L)(g:L≠[]):Tm w D (L) m (fun j k=>j=14∧k=nP):=
 ⟨b,[.v (.int .i64 14),.v Zp,.v Zp,.v Zp,.v Zp,.v Zs,.v Zp,.v Zs,.v Zp,.p x,.v Zp,.v Zp,.v Zp,.v Zp,.v Zs,.v Zp],[],_,_,_,c,HR.c (.cons .vv (.cons .vv (.cons .vv (.cons .vv (.cons .vv (.cons .vv (.cons .vv (.cons .vv (.cons .vv (.cons d (.cons .vv (.cons .vv (.cons .vv (.cons .vv (.cons .vv (.cons .vv (.cons .l0 .nil))))))))))))))))),rfl,rfl,rfl,Pr.NR (ss:=[]) (fun s h=>by cases h) rfl oW g f,⟨rfl,rfl⟩⟩
theorem xc{D:Nat→Prop}{x:G}(b:D m)(c:w.heap[m]? =some (.cells #[.int .i64 15,Zp,Zp,Zp,Zp,Zs,Zp,Zs,Zp,Zp,v,Zp,Zp,Zp,Zs,Zp,Zl] 125 (0,0)))(d:HF w D (.p x) v)(f:Pr 14 x L)(g:L≠[]):Tm w D (L) m (fun j k=>j=15∧k=nP):=
 ⟨b,[.v (.int .i64 15),.v Zp,.v Zp,.v Zp,.v Zp,.v Zs,.v Zp,.v Zs,.v Zp,.v Zp,.p x,.v Zp,.v Zp,.v Zp,.v Zs,.v Zp],[],_,_,_,c,HR.c (.cons .vv (.cons .vv (.cons .vv (.cons .vv (.cons .vv (.cons .vv (.cons .vv (.cons .vv (.cons .vv (.cons .vv (.cons d (.cons .vv (.cons .vv (.cons .vv (.cons .vv (.cons .vv (.cons .l0 .nil))))))))))))))))),rfl,rfl,rfl,Pr.GP (ss:=[]) (fun s h=>by cases h) rfl oW g f,⟨rfl,rfl⟩⟩
theorem GG{w:World}{D:Nat→Prop}{x:G}(b:D m)(c:w.heap[m]? =some (.cells #[.int .i64 16,Zp,Zp,Zp,Zp,Zs,Zp,Zs,Zp,Zp,Zp,v,Zp,Zp,Zs,Zp,Zl] 125 (0,0)))(d:HF w D (.p x) v)(f:Pr 15 x L)(g:L≠[]):Tm w D (L) m (fun j k=>j=16∧k=nP):=
 ⟨b,[.v (.int .i64 16),.v Zp,.v Zp,.v Zp,.v Zp,.v Zs,.v Zp,.v Zs,.v Zp,.v Zp,.v Zp,.p x,.v Zp,.v Zp,.v Zs,.v Zp],[],_,_,_,c,HR.c (.cons .vv (.cons .vv (.cons .vv (.cons .vv (.cons .vv (.cons .vv (.cons .vv (.cons .vv (.cons .vv (.cons .vv (.cons .vv (.cons d (.cons .vv (.cons .vv (.cons .vv (.cons .vv (.cons .l0 .nil))))))))))))))))),rfl,rfl,rfl,Pr.Ho (ss:=[]) (fun s h=>by cases h) rfl oW g f,⟨rfl,rfl⟩⟩
theorem w7{w:World}{D:Nat→Prop}{x:G}(b:D m)(c:w.heap[m]? =some (.cells #[.int .i64 17,Zp,Zp,Zp,Zp,Zs,Zp,Zs,Zp,Zp,Zp,Zp,v,Zp,Zs,Zp,Zl] 125 (0,0)))(d:HF w D (.p x) v)(f:Pr 16 x L)(g:L≠[]):Tm w D (L) m (fun j k=>j=17∧k=nP):=
 ⟨b,[.v (.int .i64 17),.v Zp,.v Zp,.v Zp,.v Zp,.v Zs,.v Zp,.v Zs,.v Zp,.v Zp,.v Zp,.v Zp,.p x,.v Zp,.v Zs,.v Zp],[],_,_,_,c,HR.c (.cons .vv (.cons .vv (.cons .vv (.cons .vv (.cons .vv (.cons .vv (.cons .vv (.cons .vv (.cons .vv (.cons .vv (.cons .vv (.cons .vv (.cons d (.cons .vv (.cons .vv (.cons .vv (.cons .l0 .nil))))))))))))))))),rfl,rfl,rfl,Pr.G3 (ss:=[]) (fun s h=>by cases h) rfl oW g f,⟨rfl,rfl⟩⟩
theorem FV{w:World}{D:Nat→Prop}{x:G}(b:D m)(c:w.heap[m]? =some (.cells #[.int .i64 18,Zp,Zp,Zp,Zp,Zs,Zp,Zs,Zp,Zp,Zp,Zp,Zp,v,Zs,Zp,Zl] 125 (0,0)))(d:HF w D (.p x) v)(f:Pr 17 x L)(g:L≠[]):Tm w D (L) m (fun j k=>j=18∧k=nP):=
 ⟨b,[.v (.int .i64 18),.v Zp,.v Zp,.v Zp,.v Zp,.v Zs,.v Zp,.v Zs,.v Zp,.v Zp,.v Zp,.v Zp,.v Zp,.p x,.v Zs,.v Zp],[],_,_,_,c,HR.c (.cons .vv (.cons .vv (.cons .vv (.cons .vv (.cons .vv (.cons .vv (.cons .vv (.cons .vv (.cons .vv (.cons .vv (.cons .vv (.cons .vv (.cons .vv (.cons d (.cons .vv (.cons .vv (.cons .l0 .nil))))))))))))))))),rfl,rfl,rfl,Pr.Hl (ss:=[]) (fun s h=>by cases h) rfl oW g f,⟨rfl,rfl⟩⟩
theorem xA{w:World}{D:Nat→Prop}{s:ByteArray}(b:D m)(c:w.heap[m]? =some (.cells #[.int .i64 10,Zp,Zp,Zp,Zp,.string s,Zp,Zs,Zp,Zp,Zp,Zp,Zp,Zp,Zs,Zp,Zl] 125 (0,0)))(d:s≠⟨#[]⟩):Tm w D (s.data.toList) m (fun f g=>f=10∧g=nP):=
 ⟨b,[.v (.int .i64 10),.v Zp,.v Zp,.v Zp,.v Zp,.v (.string s),.v Zp,.v Zs,.v Zp,.v Zp,.v Zp,.v Zp,.v Zp,.v Zp,.v Zs,.v Zp],[],_,_,_,c,HR.c (.cons .vv (.cons .vv (.cons .vv (.cons .vv (.cons .vv (.cons .vv (.cons .vv (.cons .vv (.cons .vv (.cons .vv (.cons .vv (.cons .vv (.cons .vv (.cons .vv (.cons .vv (.cons .vv (.cons .l0 .nil))))))))))))))))),rfl,rfl,rfl,Pr.FF (ss:=[]) (fun s h=>by cases h) rfl oW d,⟨rfl,rfl⟩⟩
theorem xM{s:ByteArray}(b:D m)(c:w.heap[m]? =some (.cells #[.int .i64 12,Zp,Zp,Zp,Zp,Zs,Zp,.string s,Zp,Zp,Zp,Zp,Zp,Zp,Zs,Zp,Zl] 125 (0,0)))(d:s≠⟨#[]⟩):Tm w D (s.data.toList) m (fun f g=>f=12∧g=nP):=
 ⟨b,[.v (.int .i64 12),.v Zp,.v Zp,.v Zp,.v Zp,.v Zs,.v Zp,.v (.string s),.v Zp,.v Zp,.v Zp,.v Zp,.v Zp,.v Zp,.v Zs,.v Zp],[],_,_,_,c,HR.c (.cons .vv (.cons .vv (.cons .vv (.cons .vv (.cons .vv (.cons .vv (.cons .vv (.cons .vv (.cons .vv (.cons .vv (.cons .vv (.cons .vv (.cons .vv (.cons .vv (.cons .vv (.cons .vv (.cons .l0 .nil))))))))))))))))),rfl,rfl,rfl,Pr.Hi (ss:=[]) (fun s h=>by cases h) rfl oW d,⟨rfl,rfl⟩⟩
theorem GZ{s:ByteArray}{x:G}(b:D m)(c:w.heap[m]? =some (.cells #[.int .i64 12,Zp,Zp,Zp,Zp,Zs,Zp,.string s,v,Zp,Zp,Zp,Zp,Zp,Zs,Zp,Zl] 125 (0,0)))(d:HF w D (.p x) v)(f:Pr 7 x L):Tm w D (s.data.toList++[32]++L) m (fun g j=>g=12∧j=nP):=
 ⟨b,[.v (.int .i64 12),.v Zp,.v Zp,.v Zp,.v Zp,.v Zs,.v Zp,.v (.string s),.p x,.v Zp,.v Zp,.v Zp,.v Zp,.v Zp,.v Zs,.v Zp],[],_,_,_,c,HR.c (.cons .vv (.cons .vv (.cons .vv (.cons .vv (.cons .vv (.cons .vv (.cons .vv (.cons .vv (.cons d (.cons .vv (.cons .vv (.cons .vv (.cons .vv (.cons .vv (.cons .vv (.cons .vv (.cons .l0 .nil))))))))))))))))),rfl,rfl,rfl,Pr.FA (ss:=[]) (fun s h=>by cases h) rfl oW f,⟨rfl,rfl⟩⟩
theorem xL{w:World}{D:Nat→Prop}{s:ByteArray}(b:D m)(c:w.heap[m]? =some (.cells #[.int .i64 19,Zp,Zp,Zp,Zp,Zs,Zp,Zs,Zp,Zp,Zp,Zp,Zp,Zp,.string s,Zp,Zl] 125 (0,0))):Tm w D ([98,114,101,97,107,32]++s.data.toList) m (fun d f=>d=19∧f=nP):=
 ⟨b,[.v (.int .i64 19),.v Zp,.v Zp,.v Zp,.v Zp,.v Zs,.v Zp,.v Zs,.v Zp,.v Zp,.v Zp,.v Zp,.v Zp,.v Zp,.v (.string s),.v Zp],[],_,_,_,c,HR.c (.cons .vv (.cons .vv (.cons .vv (.cons .vv (.cons .vv (.cons .vv (.cons .vv (.cons .vv (.cons .vv (.cons .vv (.cons .vv (.cons .vv (.cons .vv (.cons .vv (.cons .vv (.cons .vv (.cons .l0 .nil))))))))))))))))),rfl,rfl,rfl,Pr.Fv (ss:=[]) (fun s h=>by cases h) rfl oW,⟨rfl,rfl⟩⟩
theorem oI{D:Nat→Prop}(b:D m)(c:w.heap[m]? =some (.cells #[.int .i64 20,Zp,Zp,Zp,Zp,Zs,Zp,Zs,Zp,Zp,Zp,Zp,Zp,Zp,Zs,v,Zl] 125 (0,0)))(d:HF w D (.p gH) v)(f:Pr 0 gH L):Tm w D ([40]++L++[41]) m (fun g j=>g=20∧j=nP):=
 ⟨b,[.v (.int .i64 20),.v Zp,.v Zp,.v Zp,.v Zp,.v Zs,.v Zp,.v Zs,.v Zp,.v Zp,.v Zp,.v Zp,.v Zp,.v Zp,.v Zs,.p gH],[],_,_,_,c,HR.c (.cons .vv (.cons .vv (.cons .vv (.cons .vv (.cons .vv (.cons .vv (.cons .vv (.cons .vv (.cons .vv (.cons .vv (.cons .vv (.cons .vv (.cons .vv (.cons .vv (.cons .vv (.cons d (.cons .l0 .nil))))))))))))))))),rfl,rfl,rfl,Pr.hQ (ss:=[]) (fun s h=>by cases h) rfl oW f,⟨rfl,rfl⟩⟩
end Go.Proofs.YtlojelcoibpphaaGreatDoor
namespace Go.Proofs
open Go.Shelf
def Tryz.s6:Go.Shelf.Ren:=⟨fun|171=>120|243=>131|246=>136|283=>142|284=>143|285=>144|286=>145|129=>154|317=>153|318=>155|319=>156|320=>157|337=>163|338=>164|n=>n,fun|3=>3|9=>9|2=>2|4=>4|171=>230|0=>0|53=>188|37=>86|5=>5|173=>233|212=>236|51=>237|20=>20|213=>238|46=>154|232=>242|233=>212|n=>n,fun|17=>2|18=>3|19=>4|n=>n⟩
theorem Tryz.zQ:Go.Proofs.LaysM.n171 Tryz.prog Tryz.s6:={
 mixed:=by kernel_rfl
 f129:=Tryz.func154.trans (TR some (by kernel_rfl))
 f171:=Tryz.func120.trans (TR some (by kernel_rfl))
 f243:=Tryz.func131.trans (TR some (by kernel_rfl))
 f246:=Tryz.func136.trans (TR some (by kernel_rfl))
 f283:=Tryz.func142.trans (TR some (by kernel_rfl))
 f284:=Tryz.func143.trans (TR some (by kernel_rfl))
 f285:=Tryz.func144.trans (TR some (by kernel_rfl))
 f286:=Tryz.func145.trans (TR some (by kernel_rfl))
 f317:=Tryz.func153.trans (TR some (by kernel_rfl))
 f318:=Tryz.func155.trans (TR some (by kernel_rfl))
 f319:=Tryz.func156.trans (TR some (by kernel_rfl))
 f320:=Tryz.func157.trans (TR some (by kernel_rfl))
 f337:=Tryz.func163.trans (TR some (by kernel_rfl))
 f338:=Tryz.func164.trans (TR some (by kernel_rfl))
 t0:=Tryz.underlying0
 a0:=Tryz.isAgg0
 z0:=Tryz.sizeOf0
 v0:=Tryz.zeroValue0
 t2:=Tryz.underlying2
 a2:=Tryz.isAgg2
 z2:=Tryz.sizeOf2
 v2:=Tryz.zeroValue2
 t3:=Tryz.underlying3
 a3:=Tryz.isAgg3
 z3:=Tryz.sizeOf3
 v3:=Tryz.zeroValue3
 t4:=Tryz.underlying4
 a4:=Tryz.isAgg4
 z4:=Tryz.sizeOf4
 v4:=Tryz.zeroValue4
 t5:=Tryz.underlying5
 a5:=Tryz.isAgg5
 z5:=Tryz.sizeOf5
 v5:=Tryz.zeroValue5
 t9:=Tryz.underlying9
 a9:=Tryz.isAgg9
 z9:=Tryz.sizeOf9
 v9:=Tryz.zeroValue9
 t20:=Tryz.underlying20
 a20:=Tryz.isAgg20
 z20:=Tryz.sizeOf20
 v20:=Tryz.zeroValue20
 t37:=Tryz.underlying86
 a37:=Tryz.isAgg86
 z37:=Tryz.sizeOf86
 v37:=Tryz.zeroValue86
 t46:=Tryz.underlying154
 a46:=Tryz.isAgg154
 z46:=Tryz.sizeOf154
 v46:=Tryz.zeroValue154
 t51:=Tryz.underlying237
 a51:=Tryz.isAgg237
 z51:=Tryz.sizeOf237
 v51:=Tryz.zeroValue237
 t53:=Tryz.underlying188
 a53:=Tryz.isAgg188
 z53:=Tryz.sizeOf188
 v53:=Tryz.zeroValue188
 t171:=Tryz.underlying230
 a171:=Tryz.isAgg230
 z171:=Tryz.sizeOf230
 v171:=Tryz.zeroValue230
 t173:=Tryz.underlying233
 a173:=Tryz.isAgg233
 z173:=Tryz.sizeOf233
 v173:=Tryz.zeroValue233
 t212:=Tryz.underlying236
 a212:=Tryz.isAgg236
 z212:=Tryz.sizeOf236
 v212:=Tryz.zeroValue236
 t213:=Tryz.underlying238
 a213:=Tryz.isAgg238
 z213:=Tryz.sizeOf238
 t232:=Tryz.underlying242
 a232:=Tryz.isAgg242
 z232:=Tryz.sizeOf242
 v232:=Tryz.zeroValue242
 t233:=Tryz.underlying212
 a233:=Tryz.isAgg212
 z233:=Tryz.sizeOf212
 v233:=Tryz.zeroValue212
 g17:=by kernel_rfl
 g18:=by kernel_rfl
 g19:=by kernel_rfl
 i0:=by kernel_rfl
 i2:=by kernel_rfl
 i3:=by kernel_rfl
 i4:=by kernel_rfl
 i5:=by kernel_rfl
 i9:=by kernel_rfl
 i20:=by kernel_rfl
 i37:=by kernel_rfl
 i46:=by kernel_rfl
 i51:=by kernel_rfl
 i53:=by kernel_rfl
 i171:=by kernel_rfl
 i173:=by kernel_rfl
 i212:=by kernel_rfl
 i232:=by kernel_rfl
 i233:=by kernel_rfl
 m17:=by kernel_rfl
 m18:=by kernel_rfl
 m19:=by kernel_rfl}
end Go.Proofs
namespace Go.Proofs.YtlojelcoibpphaaGreatDoor
open Go Go.RowKit D Go.Deep Go.Proofs
variable{L M:List UInt8}{m k:Nat}{w W:World}{D:Nat→Prop}{c:Array Value}{q p:N}{v:Value}{R:List Nat}{lJ:List (List UInt8)}{bA bB:Bool}{gA:List G}{gH:G}{vH:V}{vJ:List V}
theorem H8(c b:Nat)(hk:0<b):(c:Int).tmod (b:Int)=((c%b:Nat):Int):=by
 rw[Vm Ac];omega
theorem Mf(c b:Nat)(hk:0<b):(c:Int).tdiv (b:Int)=((c/b:Nat):Int):=by
 rw[Int.tdiv_eq_ediv_of_nonneg Ac];omega
theorem uF:∀n:Nat,Lib.decDigits n=kJ n:=by
 intro n
 induction n using Nat.strongRecOn with
 |_ n b=>
  by_cases h:n<10
  ·rw[Lib.decDigits,dif_pos h,mx h]
  rw[Lib.decDigits,dif_neg h,nk Ac,b _ Ac]
theorem EI{n:Nat}(d:n≤9223372036854775807)(h:TB w):Calls Tryz.prog 120 #[.int .i64 (n:Int)] w (hH w [] fun b _=>∃s:ByteArray,b=.string s∧s.data.toList=kJ n):=by
 refine(Any.strconv_Itoa Tryz.zQ (n:Int) Ac Ac w h).mono fun e f c=>?_
 obtain⟨rfl,g,j,rfl⟩:=c
 refine hH.mk ⟨rfl,rfl,rfl,by simp[Go.Sort.grow,World.drewN],fun i hi _=>?_⟩ ⟨_,rfl,?_⟩
 ·simp only[Go.Sort.grow,World.drewN]
  exact VN hi
 rw[Lib.itoa_nonneg,uF]
theorem wI(h:Nat):mi h≠[]:=by
 have:kJ (h/2)≠[]:=by
  by_cases h1:h/2<10
  ·rw[mx h1];simp
  rw[nk Ac];simp
 unfold mi;simp[this]
theorem xC{s:ByteArray}(h:s.data.toList=L)(hl:L≠[]):s≠⟨#[]⟩:=fun e=>by rw[e]at h;exact hl h.symm
def q4:V→Bool
 | .mk kind half _ _ _ _=>decide (kind=3)&&decide (half<0)
def P2(v:V)(ty:Int)(un:Fd):Prop:=(q4 v=true→∃g,un=.p g)∧(q4 v=false→un=nP∧ty≠20)
def qn(v:V)(t:List UInt8):Prop:=∀(w:World)(D0:Nat→Prop)(cs:Array Value),j3 w D0 v cs→(∀c,D0 c→c<w.heap.size)→TB w→v.wt≤1048576→
 Calls Tryz.prog 64 #[.agg cs] w (hH w [] fun r w'=>∃b,r=.tuple #[Pt b,.bool true]∧w.heap.size≤b∧Tm w' (Dm D0 w.heap.size w'.heap.size) t b (P2 v))
theorem qx{h:Nat}(m:h≤18014398509481984)(f:TB w):Calls Tryz.prog 94 #[.int .i64 (h:Int)] w (hH w [] fun g _=>∃s:ByteArray,g=.string s∧s.data.toList=mi h):=by
 refine cY Tryz.func94 fun b=>ac 7<|DL.y rfl rfl (Y.OA (c:=((h/2:Nat):Int)) rfl rfl Ah (by rw[show(2:Int)=((2:Nat):Int)from rfl,Mf h 2 Ah];exact wrap_i64 Ac Ac))<|cX (EI (n:=h/2) Ac (f.at b)) ?_
 rintro _ o p q ⟨j,rfl,d⟩
 refine au 6<|DL.y rfl rfl (Y.Pk (c:=((h%2:Nat):Int)) rfl rfl Ah (H8 h 2 Ah))<|jN rfl rfl (fun k=>?_) (fun k=>?_)
 ·refine au 4<|DL.L8 rfl rfl rfl rfl (by have:=hK j;rw[d]at this;have:=oJ 19 (h/2) Ac;rw[show(⟨#[46,53]⟩:ByteArray).size=2 from rfl];omega) (fun r l=>?_)
  refine au 8<|rX b.g ⟨_,rfl,?_⟩
  rw[l,d,mi,TU Ac]
 refine au 9<|rX b.g ⟨_,rfl,?_⟩
 rw[d,mi,TI Ac,T3]
theorem zC:qn (.mk 0 0 ⟨#[]⟩ [] [] []) [110,117,108,108]:=by
 intro q r k l hD0 t hw
 obtain⟨b,c,d,f,g,j,rfl⟩:∃b c d f g j,k=#[Zi,Zi,Zs,.slice b ([]:List V).length c,.slice d ([]:List ByteArray).length f,.slice g ([]:List V).length j]:=by cases l;exact⟨_,_,_,_,_,_,rfl⟩
 exact cY Tryz.func64 fun m=>ac 2<|bX rfl fun u v w y z o=>au 7<|lD o rfl rfl<|au 10<|bD #[.int .i64 3,Zp,Zp,Zp,Zp,Zs,Zp,Zs,Zp,Zp,Zp,Zp,Zp,Zp,Zs,Zp,Zl]<|bX rfl fun A B C D E p=>au 4<|hD.ia rfl rfl (hH.mk m.g ⟨_,rfl,Ac,(El (Tk ⟨Ac,Ac⟩) p).up (fun _ h=>h) (fun F G hc=>⟨fun h=>(by cases h),fun _=>⟨hc.2,BP⟩⟩)⟩)
theorem Dd:qn (.mk 1 0 ⟨#[]⟩ [] [] []) [102,97,108,115,101]:=by
 intro q r k l hD0 t hw
 obtain⟨b,c,d,f,g,j,rfl⟩:∃b c d f g j,k=#[.int .i64 1,Zi,Zs,.slice b ([]:List V).length c,.slice d ([]:List ByteArray).length f,.slice g ([]:List V).length j]:=by cases l;exact⟨_,_,_,_,_,_,rfl⟩
 exact cY Tryz.func64 fun m=>ac 2<|bX rfl fun u v w y z o=>au 7<|lD o rfl rfl<|au 16<|bD #[.int .i64 5,Zp,Zp,Zp,Zp,Zs,Zp,Zs,Zp,Zp,Zp,Zp,Zp,Zp,Zs,Zp,Zl]<|bX rfl fun A B C D E p=>au 4<|hD.ia rfl rfl (hH.mk m.g ⟨_,rfl,Ac,(x3 (Tk ⟨Ac,Ac⟩) p).up (fun _ h=>h) (fun F G hc=>⟨fun h=>(by cases h),fun _=>⟨hc.2,BP⟩⟩)⟩)
theorem GQ:qn (.mk 2 0 ⟨#[]⟩ [] [] []) [116,114,117,101]:=by
 intro q r k l hD0 t hw
 obtain⟨b,c,d,f,g,j,rfl⟩:∃b c d f g j,k=#[.int .i64 2,Zi,Zs,.slice b ([]:List V).length c,.slice d ([]:List ByteArray).length f,.slice g ([]:List V).length j]:=by cases l;exact⟨_,_,_,_,_,_,rfl⟩
 exact cY Tryz.func64 fun m=>ac 2<|bX rfl fun u v w y z o=>au 7<|lD o rfl rfl<|au 22<|bD #[.int .i64 4,Zp,Zp,Zp,Zp,Zs,Zp,Zs,Zp,Zp,Zp,Zp,Zp,Zp,Zs,Zp,Zl]<|bX rfl fun A B C D E p=>au 4<|hD.ia rfl rfl (hH.mk m.g ⟨_,rfl,Ac,(BY (Tk ⟨Ac,Ac⟩) p).up (fun _ h=>h) (fun F G hc=>⟨fun h=>(by cases h),fun _=>⟨hc.2,BP⟩⟩)⟩)
theorem Gf{h:Nat}(t:h≤18014398509481984):qn (.mk 3 (h:Int) ⟨#[]⟩ [] [] []) (mi h):=by
 intro u v w y hD0 z hw
 obtain⟨d,f,g,j,k,l,rfl⟩:∃d f g j k l,w=#[.int .i64 3,.int .i64 (h:Int),Zs,.slice d ([]:List V).length f,.slice g ([]:List ByteArray).length j,.slice k ([]:List V).length l]:=by cases y;exact⟨_,_,_,_,_,_,rfl⟩
 refine cY Tryz.func64 fun m=>ac 2<|bX rfl fun F G H I J b=>au 7<|lD b rfl rfl<|au 30<|lD b rfl rfl<|DL.y rfl rfl (Y.Le (c:=true) rfl rfl (Th Ac))<|au 5<|lD b rfl rfl<|cX (qx t (z.at m.g)) ?_
 rintro _ K L M ⟨A,rfl,o⟩
 refine bD #[.int .i64 10,Zp,Zp,Zp,Zp,.string A,Zp,Zs,Zp,Zp,Zp,Zp,Zp,Zp,Zs,Zp,Zl]<|bX rfl fun O B P Q R C=>au 4 ?_
 have p:=(xA (D:=Dm v u.heap.size B.heap.size) (Tk ⟨Ac,Ac⟩) C (xC o (wI h))).up (fun _ h=>h) (fun q r hc=>⟨fun E=>Tu E (by simp only[q4,Tx,TA];omega),fun _=>⟨hc.2,BP⟩⟩:∀q r,_→P2 (.mk 3 (h:Int) ⟨#[]⟩ [] [] []) q r)
 rw[o]at p
 exact hD.ia rfl rfl (hH.mk m.g ⟨_,rfl,Ac,p⟩)
theorem G5{h:Nat}(h0:0<h)(u:h≤18014398509481984):qn (.mk 3 (-(h:Int)) ⟨#[]⟩ [] [] []) (45::mi h):=by
 intro b g v w hD0 y hw
 obtain⟨j,k,l,m,o,p,rfl⟩:∃j k l m o p,v=#[.int .i64 3,.int .i64 (-(h:Int)),Zs,.slice j ([]:List V).length k,.slice l ([]:List ByteArray).length m,.slice o ([]:List V).length p]:=by cases w;exact⟨_,_,_,_,_,_,rfl⟩
 refine cY Tryz.func64 fun q=>ac 2<|bX rfl fun J K L M O d=>au 7<|lD d rfl rfl<|au 30<|lD d rfl rfl<|DL.y rfl rfl (Y.Le (c:=false) rfl rfl (Ti Ac))<|au 7<|lD d rfl rfl<|DL.y rfl rfl (Y.Jz (c:=(h:Int)) rfl Ac Ac Ac)<|DL.y rfl rfl (Y.xz (c:=false) rfl rfl (Ti Ac))<|au 6<|lD d rfl rfl<|DL.y rfl rfl (Y.Jz (c:=(h:Int)) rfl Ac Ac Ac)<|cX (qx u (y.at q.g)) ?_
 rintro _ P Q R ⟨z,rfl,r⟩
 refine bD #[.int .i64 10,Zp,Zp,Zp,Zp,.string z,Zp,Zs,Zp,Zp,Zp,Zp,Zp,Zp,Zs,Zp,Zl]<|bX rfl fun A S T U W B=>au 5<|bD #[.int .i64 4,Pt A]<|bX rfl fun C X Z aa ab E=>bD #[.int .i64 11,Zp,Zp,Zp,Zp,Zs,Pt C,Zs,Zp,Zp,Zp,Zp,Zp,Zp,Zs,Zp,Zl]<|bX rfl fun ad f ae af ag F=>au 4 ?_
 obtain⟨ah,G,t⟩:=(xA (w:=f) (D:=Dm g b.heap.size f.heap.size) (Tk ⟨Ac,Ac⟩) (Gb B) (xC r (wI h))).hf
 rw[r]at t
 have H:=EL (w:=f) (D:=Dm g b.heap.size f.heap.size) (Tk ⟨Ac,Ac⟩) F (HF.ph (Tk ⟨Ac,Ac⟩) (Gb E) (HR.c (.cons .vv (.cons G .nil)))) (Pr.un t) Al
 exact hD.ia rfl rfl (hH.mk q.g ⟨_,rfl,Ac,H.up (fun _ h=>h) (fun ai aj hc=>⟨fun _=>⟨_,hc.2⟩,fun I=>Tu I (by simp[q4,h0])⟩)⟩)
theorem zE{s:ByteArray}(w:Lib.validD s.data.toList):qn (.mk 4 0 s [] [] []) (qL s.data.toList):=by
 intro f y z A hD0 I hw
 obtain⟨g,j,k,l,m,o,rfl⟩:∃g j k l m o,z=#[.int .i64 4,Zi,.string s,.slice g ([]:List V).length j,.slice k ([]:List ByteArray).length l,.slice m ([]:List V).length o]:=by cases A;exact⟨_,_,_,_,_,_,rfl⟩
 refine cY Tryz.func64 fun b=>ac 2<|bX rfl fun p B J q C r=>have q:=Tq b.size q;au 7<|lD r rfl rfl<|au 35<|lD r rfl rfl ?_
 have E:_≤B.heap.size:=b.g.size
 have K:=C
 refine cX (mC _ _) ?_
 rintro _ L M O ⟨c,rfl,t,P,F⟩
 have Q:p<c:=Ac
 have t:=Tq E t
 refine bD #[.int .i64 13,Zp,Zp,Zp,Zp,Zs,Zp,Zs,Pt c,Zp,Zp,Zp,Zp,Zp,Zs,Zp,Zl]<|bX rfl fun u v R d S G=>have T:p<u:=Ac;have U:c<u:=Ac;have d:=Tq b.g.size d;au 4 ?_
 have H:=zM (w:=v) (D:=Dm y f.heap.size v.heap.size) (Tk ⟨Ac,Ac⟩) G (HF.ph (Tk ⟨Ac,Ac⟩) (Gb F) (HR.c (.cons .vv (.cons .vv .nil)))) (Pr.Fb w) (by simp[qL])
 exact hD.ia rfl rfl (hH.mk b.g ⟨_,rfl,d,H.up (fun _ h=>h) (fun W X hc=>⟨fun h=>(by cases h),fun _=>⟨hc.2,BP⟩⟩)⟩)
def QE(l:List V)(ts:List (List UInt8)):Prop:=∀(w:World)(D0:Nat→Prop)(a:Option Addr)(c:Nat)(cl:Nat→Array Value),hT w D0 a l.length 6 cl→(∀(i:Nat)(h:i<l.length),j3 w D0 l[i] (cl i))→(∀c,D0 c→c<w.heap.size)→TB w→V.h9 l≤1048576→
 Calls Tryz.prog 96 #[.slice a l.length c] w (hH w [] fun r w'=>∃b,r=.tuple #[Pt b,.bool true]∧w.heap.size≤b∧Tm w' (Dm D0 w.heap.size w'.heap.size) ([91]++ih [44,32] ts++[93]) b (fun ty un=>ty=9∧un=nP))
theorem Dl(u:QE vJ lJ):qn (.mk 5 0 ⟨#[]⟩ vJ [] []) ([91]++ih [44,32] lJ++[93]):=by
 intro k f v l hD0 w hw
 obtain⟨d,g,m,o,p,q,rfl⟩:∃d g m o p q,v=#[.int .i64 5,Zi,Zs,.slice d vJ.length g,.slice m ([]:List ByteArray).length o,.slice p ([]:List V).length q]:=by cases l;exact⟨_,_,_,_,_,_,rfl⟩
 obtain⟨b,hl,j⟩:∃b,hT k f d vJ.length 6 b∧∀(i:Nat)(h:i<vJ.length),j3 k f vJ[i] (b i):=by cases l with|mk b cv hk hh ht ln kn vn ks hl j hks hv rv=>exact⟨b,hl,j⟩
 have y:V.h9 vJ≤1048576:=by simp only[V.wt]at hw;omega
 refine cY Tryz.func64 fun c=>ac 2<|bX rfl fun D z E F G r=>au 7<|lD r rfl rfl<|au 40<|au 1<|lD r rfl rfl ?_
 have t:_≤z.heap.size:=c.g.size
 refine cX (u _ f d g b (hl.fr c.g Az) (fun i h=>(j i h).fr c.g Az) (fun A hc=>Tj (hD0 A hc) c.g.size) (w.at c.g) y) ?_
 rintro _ H I J ⟨K,rfl,B,C⟩
 exact au 6<|hD.ia rfl rfl (hH.mk c.g ⟨_,rfl,Tq t B,C.up (Dm.mono t (Tv _)) (fun L M hc=>⟨fun h=>(by cases h),fun _=>⟨hc.2,BP⟩⟩)⟩)
theorem Hn{ks:List ByteArray}(hk:ks.length=vJ.length)(hl:vJ.length=lJ.length)(W:∀u∈ks,Lib.validD u.data.toList=true)(a6:∀(i:Nat)(h1:i<vJ.length)(h2:i<lJ.length),qn vJ[i] lJ[i]):qn (.mk 6 0 ⟨#[]⟩ [] ks vJ) (tB ks lJ):=by
 intro z m X ak hD0 a7 hw
 obtain⟨al,am,R,Z,aa,an,rfl⟩:∃al am R Z aa an,X=#[.int .i64 6,Zi,Zs,.slice al ([]:List V).length am,.slice R ks.length Z,.slice aa vJ.length an]:=by cases ak;exact⟨_,_,_,_,_,_,rfl⟩
 obtain⟨H,ab,a8,a9⟩:∃H,hT z m R ks.length 1 (strCells ks)∧hT z m aa vJ.length 6 H∧∀(i:Nat)(h:i<vJ.length),j3 z m vJ[i] (H i):=by cases ak with|mk cl H hk hh ht ln kn vn ks hl rl ab W rv=>exact⟨H,ab,W,rv⟩
 have bm:V.h9 vJ≤1048576:=by simp only[V.wt]at hw;omega
 have bn:=jY ks
 have bo:ks.length≤1048576:=by simp only[V.wt]at hw;omega
 refine cY Tryz.func64 fun b=>ac 2<|bX rfl fun o bp bq ao ap v=>have ao:=Tq b.size ao;au 7<|lD v rfl rfl<|au 40<|au 8<|lD v rfl rfl<|au 2<|lD v rfl rfl<|au 1<|DL.y rfl rfl (Y.yL (c:=false) rfl rfl (Ti Ac))<|au 5<|bD #[Zl]<|bX rfl fun d aq br ar A j=>have bs:o<d:=Ac;have ar:=Tq b.g.size ar;au 6<|lD (Gb v) rfl rfl<|au 4 ?_
 obtain⟨B,ad,aA⟩:=nl aq
 have bt:o<B:=by rw[ad];exact Ac
 have bu:d<B:=by rw[ad];exact A
 have bv:=j
 have bw:=b.g.le ad
 refine lE [d] aq (σ:=Nat×List G×Value×List Value×Nat) [(2,3),(6,9),(77,108)] [(1,(Pt o)),(5,(Pt d)),(75,.slice R ks.length Z),(76,.int .i64 (ks.length:Int))] (fun(i,g,w,ps,c)=>[(77,.int .i64 (i:Int))]) (fun(i,g,w,ps,c) ae=>i≤ks.length∧g.length=i∧ae.heap[d]? =some (.cells #[w] 161 (0,0))∧js ae m 162 B c g w ps∧B≤c∧c≤ae.heap.size∧(∀(k:Nat)(h1:k<g.length)(h2:k<(List.zipWith (fun u I=>qL u.data.toList++[58,32]++I) ks lJ).length),Pr 9 g[k] (List.zipWith (fun u I=>qL u.data.toList++[58,32]++I) ks lJ)[k])) (fun(i,g,w,ps,c)=>ks.length - i) ((0,[],Zl,[],B)) ?_ ?_
 ·exact⟨Fr.refl _ _,TE _,rfl,j,js.nil _ _ _ _ _,Tv _,aA,fun k h=>by simp at h⟩
 rintro bx ⟨i,g,w,ps,c⟩ k av ⟨J,bz,aw,j,q,ax,K,ay⟩
 have b:=b.g.oR J Ac
 have v:=J.jK (Gb v) Ac
 have b0:=J.size
 have A:=Tj A J.size
 have L:=J
 have az:=Fr.refl [d] av
 have M:i<ks.length→i<vJ.length:=fun h=>by omega
 refine ac 2<|jX rfl rfl (fun aB=>?_) (fun aB=>?_)
 ·have hi:i<ks.length:=by omega
  obtain⟨b1,b2,aC,b3,aD⟩:=ab.str hi
  obtain⟨b4,b5,aE,b6,aF,aH⟩:=a8 i (M hi)
  have aI:=a9 i (M hi)
  have b7:=V.iP (l:=vJ) (M hi)
  have hit:i<lJ.length:=by omega
  subst aC
  subst aE
  refine au 9<|iX F.ku (hi) rfl rfl rfl<|lC (b.cell aD Al) rfl<|au 6<|lD v rfl rfl<|au 1<|iX F.s7 (M hi) rfl rfl rfl<|lA (aF.fr b Al) aH rfl ?_
  obtain⟨af,C⟩:=nm av
  have b8:=b.le C
  have b9:o<af:=by rw[C];exact Ac
  have bA:d<af:=by rw[C];exact A
  have bB:c≤af:=by rw[C];exact K
  refine cX ((a6 i (M hi) hit) _ m _ (aI.fr b Az) (fun f hc=>Tj (hD0 f hc) b.size) (a7.at b) Ac) ?_
  rintro _ aJ bC bE ⟨bF,rfl,aK,a0⟩
  obtain⟨S,aL,a1⟩:=nl aJ
  rw[←C,←aL]at a0
  rw[←C]at aK
  refine au 14<|dR [] 12 fun aM bG bH E=>aG [0,1,2,3]<|DG.take 4 rfl Au Au Au Au Au rfl rfl (fun aN aO=>Y.hY F.LL rfl (aO.il (Gb j)) rfl)<|aG [5,7]<|gp 6 ?_
  have aP:_≤aM.heap.size:=b.g.size
  have bI:=ap
  have bJ:=A
  have bK:=K
  have bL:=a1
  refine cX (mC _ _) ?_
  rintro _ aQ bM bN ⟨r,rfl,a2,aR,aS⟩
  have bO:o<r:=Ac
  have bP:d<r:=Ac
  have bQ:c≤r:=Ac
  have bR:S≤r:=Ac
  have a2:=Tq aP a2
  refine gn E.g<|gp 8 ?_
  have aT:_≤aQ.heap.size:=b.g.size
  have bS:=ap
  have bT:=A
  have bU:=K
  have bV:=a1
  have bW:=aR
  refine cX (kb _ _) ?_
  rintro _ bY bZ ca ⟨t,rfl,a3,cb,aU⟩
  have cc:o<t:=Ac
  have cd:d<t:=Ac
  have ce:c≤t:=Ac
  have cf:S≤t:=Ac
  have cg:r<t:=Ac
  have a3:=Tq aT a3
  refine gn E.g<|gf 9 rfl (fun aN=>Y.build (cs:=#[Zs,Pt r,Zp,Pt t]) Au)<|gp 10<|bX rfl fun p ch ci O cj aV=>have ck:o<p:=Ac;have cm:d<p:=Ac;have cn:c≤p:=Ac;have co:S≤p:=Ac;have cp:r<p:=Ac;have cq:t<p:=Ac;have cr:=Tq L.g.size O;have cs:=Tq az.g.size O;have ct:=Tq E.g.size O;have O:=Tq b.g.size O;gn E.g<|gp 11<|DL.iu (cs:=#[Pt p]) rfl rfl (F.rP) rfl rfl rfl fun y T a4 P cu aW=>have a4:=Sp.mk a4;have cv:o<y:=Ac;have cw:d<y:=Ac;have cx:c≤y:=Ac;have cy:S≤y:=Ac;have cz:r<y:=Ac;have c0:t<y:=Ac;have c1:p<y:=Ac;have c2:=Tq L.g.size P;have c3:=Tq az.g.size P;have c4:=Tq E.g.size P;have P:=Tq b.g.size P;gn E.g<|gp 12 ?_
  obtain⟨aX,aY,aZ⟩:=a0.g.hf
  obtain⟨ba,bb⟩:=ng (w:=T) (D:=fun f=>m f∨(c≤f∧f<T.heap.size)) (aY.up oZ) aZ (Tk ⟨Ac,Ac⟩) (Gb aU)
  have bc:HF T (fun f=>m f∨(c≤f∧f<T.heap.size)) (.p (.mk [.v Zs,.p (.mk [.v (.string ks[i]),nS]),nP,.p (ui aX)])) (Pt p):=
   HF.ph (Tk ⟨Ac,Ac⟩) (Gb aV) (HR.c (.cons .vv (.cons (HF.ph (Tk ⟨Ac,Ac⟩) (Gb aS) (HR.c (.cons .vv (.cons .vv .nil)))) (.cons .vv (.cons ba .nil)))))
  refine DL.hJ rfl rfl F.rP rfl rfl q.g.own (hB.hE aW) rfl AQ (by have:=V.iw vJ;omega) (by have:=V.iw vJ;omega) Ac ?_
  intro c5 a5 U bd be
  have bf:c≤a5.heap.size:=by have:=U.size;omega
  have hlo':∀x∈hX w,B≤x:=fun x Q=>(ik q.g.own x Q).1
  have c6:∀x∈hX w,x<c:=fun x Q=>q.lt x (hF.1 Q)
  have q:=q.g.snoc Ac ax (fun f hc=>by have:=hD0 f hc;omega) bc U bd be
  have L:=L.g.put U (fun x hx=>Tk A9)
  have j:=U.hO (Gb j) (fun Q=>by have:=hlo' _ Q;omega)
  clear K
  have K:=Tv a5.heap.size
  refine gl<|aG [13,14]<|gp 15<|sc j rfl rfl q.one rfl fun c7 c8 c9 j=>gl<|gD<|ac 1<|ai ((i+1:Nat):Int) rfl rfl<|au 2 ?_
  refine⟨(i+1,_,_,_,_),⟨L.g,hi,by simp[aw],j,q.g,Tq ax bf,Ac,fun k h1 h2=>?_⟩,by show ks.length - (i+1)<ks.length - i;omega,rfl⟩
  by_cases hj:k<g.length
  ·rw[TC hj];exact ay k hj h2
  have bg:k=g.length:=by simp only[Tl,TG]at h1;omega
  subst bg
  rw[Tz (Tv _)]
  simp only[UF,TF]
  simp only[List.getElem_zipWith,aw]
  have:=Pr.Nw (Pr.Fb (s:=ks[i]) (W _ (T2 hi))) bb
  simpa using this
 have cA:i=ks.length:=by omega
 refine au 4<|ac 3<|bD #[.int .i64 8,Zp,Zp,Pt d,Zp,Zs,Zp,Zs,Zp,Zp,Zp,Zp,Zp,Zp,Zs,Zp,Zl]<|bX rfl fun ag ah cB aj cC bh=>have cD:o<ag:=Ac;have cE:d<ag:=Ac;have cF:c≤ag:=Ac;have aj:=Tq b.size aj;au 4 ?_
 obtain⟨a,f,rfl,hL⟩:=q.g.done
 have hgz:g.length=ks.length:=by omega
 have bi:HF ah (Dm m z.heap.size ah.heap.size) (.p (.mk [.l g])) (Pt d):=HF.ph (Tk ⟨Ac,Ac⟩) (Gb j) (HR.c (.cons (.lh (hL.up oZ)) .nil))
 have bj:(List.zipWith (fun u I=>qL u.data.toList++[58,32]++I) ks lJ).length=ks.length:=by rw[List.length_zipWith];omega
 have bk:Pr 8 (.mk [.l g]) (tB ks lJ):=by
  unfold tB
  by_cases h0:ks=[]
  ·rw[TU h0];have:g=[]:=Tn (by rw[hgz,h0];rfl);subst this;exact Pr.Ox
  rw[TI h0];exact Pr.OR (by rw[hgz];exact UJ.2 h0) Cb (by rw[bj,hgz]) ay
 have bl:=Dh (D:=Dm m z.heap.size ah.heap.size) (Tk ⟨Ac,Ac⟩) bh bi bk (by unfold tB;split<;>simp)
 exact hD.ia rfl rfl (hH.mk b.g ⟨_,rfl,aj,bl.up (fun _ h=>h) (fun cG cH hc=>⟨fun h=>(by cases h),fun _=>⟨hc.2,BP⟩⟩)⟩)
def o7(w:World)(D:Nat→Prop)(i:Nat)(y:Value)(g:G)(t:List UInt8):Prop:=(i=0∧y=Zp)∨(0<i∧HF w D (.p g) y∧Pr 0 g t)
theorem o7.fr{i:Nat}(h:o7 w D i v gH L)(c:Fr R w W)(hs:∀b,D b→b∉R):o7 W D i v gH L:=by
 rcases h with h|h
 ·exact Ts h
 exact Tk ⟨h.1,h.2.1.fr c hs,h.2.2⟩
theorem o7.g{g j:World}{b:Nat→Prop}{i:Nat}{c:Value}{d:G}{f:List UInt8}(h:o7 g b i c d f)(k:o7 g b i c d f→o7 j b i c d f:=by exact Gq):o7 j b i c d f:=k h
theorem O1(hl:vJ.length=lJ.length)(ar:∀(i:Nat)(h1:i<vJ.length)(h2:i<lJ.length),qn vJ[i] lJ[i]):QE vJ lJ:=by
 intro o k a b aS av aa hD0 aw hw
 have aT:=V.iw vJ
 refine cY Tryz.func96 fun c=>ac 7<|bD #[Zp]<|bX rfl fun d ab aU ad t g=>have ad:=Tq c.size ad;au 10 ?_
 obtain⟨l,ae,ax⟩:=nl ab
 have aV:d<l:=by rw[ae];exact t
 have aW:=c.g.le ae
 refine lE [d] ab (σ:=Nat×Value×G×Nat) [(2,3),(6,8),(13,45)] [(0,.slice a vJ.length b),(4,(Pt d)),(11,.slice a vJ.length b),(12,.int .i64 (vJ.length:Int))] (fun(i,m,y,f)=>[(13,.int .i64 (i:Int))]) (fun(i,m,y,f) H=>i≤vJ.length∧H.heap[d]? =some (.cells #[m] 173 (0,0))∧o7 H (fun b=>k b∨(l≤b∧b<f)) i m y (ih [44,32] (lJ.take i))∧l≤f∧f≤H.heap.size) (fun(i,m,y,f)=>vJ.length - i) ((0,Zp,.mk [],l)) ?_ ?_
 ·exact⟨Fr.refl _ _,TE _,g,Ts ⟨rfl,rfl⟩,Tv _,ax⟩
 rintro aX ⟨i,m,y,f⟩ aY ay ⟨I,aZ,g,j,ba,af⟩
 have c:=c.g.oR I Ac
 have t:=Tj t I.size
 have z:=I
 have ag:=Fr.refl [d] ay
 refine ac 2<|jX rfl rfl (fun az=>?_) (fun az=>?_)
 ·have hi:i<vJ.length:=by omega
  have hit:i<lJ.length:=by omega
  obtain⟨bb,bc,rfl,bd,a0,J⟩:=av i hi
  have a1:=aa i hi
  have be:=V.iP (l:=vJ) hi
  refine au 8<|iX F.s7 (hi) rfl rfl rfl<|lA (a0.fr c Al) J rfl<|al F.NX rfl fun p bf a2 A ah K=>have bg:d<p:=Ac;have bh:f≤p:=Ac;have bi:=Tq z.size A;have bj:=Tq ag.size A;have A:=Tq c.size A;have j:=o7.fr j a2.f AP;sA K rfl rfl rfl J (aa i hi).one fun a3 a4 bk K=>have j:=o7.fr j a4.f AP;au 3<|lw K rfl J ?_
  obtain⟨L,q⟩:=nm a3
  have bl:=c.g.le q
  have bm:d<L:=by rw[q];exact Ac
  have bn:p<L:=by rw[q];exact Ac
  have bo:f≤L:=by rw[q];exact Ac
  refine cX ((ar i hi hit) _ k _ (a1.fr c.g Az) (fun b hc=>Tj (hD0 b hc) c.g.size) (aw.at c.g) Ac) ?_
  rintro _ aj a5 bp ⟨bq,rfl,a6,M⟩
  have j:=o7.fr j a5.f AP
  obtain⟨O,a7,ak⟩:=nl aj
  rw[←q,←a7]at M
  rw[←q]at a6
  refine au 19<|lD (Gb g) rfl rfl ?_
  rcases j with⟨am,rfl⟩|⟨br,an,a8⟩
  ·refine au 6 ?_
   have a9:_≤aj.heap.size:=c.g.size
   have bs:=t
   have bt:=af
   have bu:=ah
   have bv:=ak
   refine cX (kb _ _) ?_
   rintro _ bw bx bz ⟨B,rfl,ao,b0,aA⟩
   have b1:d<B:=Ac
   have b2:f≤B:=Ac
   have b3:p<B:=Ac
   have b4:O≤B:=Ac
   have ao:=Tq a9 ao
   refine au 2<|sc (Gb g) rfl rfl rfl rfl fun P b5 b6 aB=>have g:=aB;au 2<|ai ((i+1:Nat):Int) rfl rfl<|au 2 ?_
   obtain⟨aC,Q,R⟩:=M.g.hf
   obtain⟨S,T⟩:=ng (w:=P) (D:=fun b=>k b∨(l≤b∧b<P.heap.size)) (Q.up oZ) R (Tk ⟨Ac,Ac⟩) (Gb aA)
   refine⟨(i+1,_,_,P.heap.size),⟨z.g,hi,g,Tk ⟨Nat.succ_pos _,S,?_⟩,Ac,Tv _⟩,by show vJ.length - (i+1)<vJ.length - i;omega,rfl⟩
   rw[o3 _ hit,TU am,T3,show lJ.take i=[] by rw[am];rfl];simp only[ih,TN]
   exact T
  obtain⟨aD,rfl⟩:∃U,m=Pt U:=by obtain⟨U,_,_,e,_⟩:=an.ptr;exact⟨U,e⟩
  refine au 3<|dR [] 11 fun aE b7 b8 W=>aG [0,1,2,3]<|DG.take 4 rfl Au Au Au Au Au rfl rfl (fun aF aH=>Y.hY F.sP rfl (aH.il (Gb g)) rfl)<|aG [5]<|gp 6 ?_
  have aI:_≤aE.heap.size:=c.g.size
  have b9:=t
  have bA:=af
  have bB:=ah
  have bC:=ak
  refine cX (kb _ _) ?_
  rintro _ bE bF bG ⟨r,rfl,ap,bH,aJ⟩
  have bI:d<r:=Ac
  have bJ:f≤r:=Ac
  have bK:p<r:=Ac
  have bL:O≤r:=Ac
  have ap:=Tq aI ap
  refine gn W.g<|gf 7 rfl (fun aF=>Y.build (cs:=#[Zp,Zl,Zl,Zp,Pt aD,Pt r,Zl,.int .i64 2]) Au)<|gp 8<|bX rfl fun u bM bN v bO aK=>have bP:d<u:=Ac;have bQ:f≤u:=Ac;have bR:p<u:=Ac;have bS:O≤u:=Ac;have bT:r<u:=Ac;have bU:=Tq z.g.size v;have bV:=Tq ag.g.size v;have bW:=Tq W.g.size v;have v:=Tq c.g.size v;gn W.g<|aG [9,10]<|gp 11<|sc (Gb g) rfl rfl rfl rfl fun w bY bZ g=>gl<|gD<|ac 1<|ai ((i+1:Nat):Int) rfl rfl<|au 2 ?_
  obtain⟨aC,Q,R⟩:=M.g.hf
  obtain⟨S,T⟩:=ng (w:=w) (D:=fun b=>k b∨(l≤b∧b<w.heap.size)) (Q.up oZ) R (Tk ⟨Ac,Ac⟩) (Gb aJ)
  have aL:=HF.ph (w:=w) (D:=fun b=>k b∨(l≤b∧b<w.heap.size)) (Tk ⟨Ac,Ac⟩) (Gb aK) (HR.c (.cons .vv (.cons .vv (.cons .l0 (.cons .vv (.cons (an.g.up (fun b hc=>hc.imp id (fun hc=>⟨hc.1,Ac⟩))) (.cons S (.cons .vv (.cons .vv .nil)))))))))
  refine⟨(i+1,_,_,w.heap.size),⟨z.g,hi,g,Tk ⟨Nat.succ_pos _,aL,?_⟩,Ac,Tv _⟩,by show vJ.length - (i+1)<vJ.length - i;omega,rfl⟩
  rw[o3 _ hit,TI Ac]
  have:=Pr.qC (fds:=[]) (ds:=[]) rfl oW a8 T
  simpa using this
 have ca:i=vJ.length:=by omega
 refine au 4<|ac 3<|bD #[.int .i64 9,Zp,Zp,Zp,Pt d,Zs,Zp,Zs,Zp,Zp,Zp,Zp,Zp,Zp,Zs,Zp,Zl]<|bX rfl fun aq C aM X cb aN=>have cc:d<aq:=Ac;have cd:f≤aq:=Ac;have X:=Tq c.size X;have j:=o7.fr j aM.f AP;au 4 ?_
 have aO:∃Z,HF C (Dm k o.heap.size C.heap.size) Z m∧Pr 10 (.mk [Z]) ([91]++ih [44,32] lJ++[93]):=by
  rcases j with⟨h0,rfl⟩|⟨h0,aP,E⟩
  ·have:lJ=[]:=Tn Ac
   subst this;exact⟨_,.vv,Pr.N7⟩
  rw[TK Ac]at E;exact⟨_,aP.up oZ,Pr.OT E⟩
 obtain⟨Z,aQ,E⟩:=aO
 have aR:=wc (w:=C) (D:=Dm k o.heap.size C.heap.size) (Tk ⟨Ac,Ac⟩) aN (HF.ph (Tk ⟨Ac,Ac⟩) (Gb g) (HR.c (.cons aQ .nil))) E Al
 exact hD.ia rfl rfl (hH.mk c.g ⟨_,rfl,X,aR⟩)
theorem HJ{f:V}{g:List UInt8}(h:sk f g):qn f g:=by
 induction h with
 |null=>exact zC
 |vQ=>exact Dd
 |IA=>exact GQ
 |num b=>exact Gf b
 |neg h0 b=>exact G5 h0 b
 |text c=>exact zE c
 |list hl h d=>exact Dl (O1 hl d)
 |map hk hl c h d=>exact Hn hk hl c d
def S3(ks:List N)(ts:List (List UInt8)):Prop:=∀(w:World)(D0:Nat→Prop)(a:Option Addr)(c:Nat)(cl:Nat→Array Value),hT w D0 a ks.length 12 cl→(∀(i:Nat)(h:i<ks.length),RN w D0 0 ks[i] (cl i))→(∀c,D0 c→c<w.heap.size)→TB w→N.h9 ks≤1048576→
 Calls Tryz.prog 68 #[.slice a ks.length c] w (hH w [] fun r w'=>∃a' c' gs,r=.tuple #[.slice a' ks.length c',.bool true]∧gs.length=ks.length∧HL w' (Dm D0 w.heap.size w'.heap.size) a' 0 gs∧∀(j:Nat)(h1:j<gs.length)(h2:j<ts.length),Pr 0 gs[j] ts[j])
theorem K3{n:N}(h:nN n):Ig n=true:=by
 unfold nN at h
 unfold Ig
 simp only[TO,Tx]at h⊢
 exact h.imp id (fun h=>h.1)
theorem pw{n:N}(h:nL.any (fun x=>decide (iz n=x))):nN n=true:=by unfold nN;rw[h];rfl
theorem JA{n:N}(h:iz n=iL)(b:isNeg n=false):nN n=true:=by
 unfold nN;rw[b,Th h];simp
theorem Dr{n:N}(h:nL.any (fun x=>decide (iz n=x))=false)(b:iz n≠iL∨isNeg n=true):nN n=false:=by
 unfold nN;rw[h]
 rcases b with b|b
 ·rw[Ti b];rfl
 rw[b];simp
theorem Ge{n:N}(h:iz n=iL):Ig n=true:=by unfold Ig;rw[Th h];simp
theorem jW{ks:List N}{ts:List (List UInt8)}(hl:ks.length=ts.length)(R:∀(i:Nat)(h1:i<ks.length)(h2:i<ts.length),CQ ks[i] ts[i]):S3 ks ts:=by
 intro A o a d ar S B hD0 T hw
 have av:=N.iw ks
 refine cY Tryz.func68 fun f=>ac 17 ?_
 obtain⟨m,U,W⟩:=nl A
 have aw:=f.le U
 refine lE [] A (σ:=Nat×List G×Value×List Value×Nat) [(2,4),(6,8),(11,26)] [(9,.slice a ks.length d),(10,.int .i64 (ks.length:Int))] (fun(i,b,j,ps,g)=>[(11,.int .i64 (i:Int)),(4,j)]) (fun(i,b,j,ps,g) C=>i≤ks.length∧b.length=i∧js C o 46 m g b j ps∧m≤g∧g≤C.heap.size∧(∀(c:Nat)(h1:c<b.length)(h2:c<ts.length),Pr 0 b[c] ts[c])) (fun(i,b,j,ps,g)=>ks.length - i) ((0,[],Zl,[],m)) ?_ ?_
 ·exact⟨Fr.refl _ _,TE _,rfl,js.nil _ _ _ _ _,Tv _,W,fun c h=>by simp at h⟩
 rintro ax ⟨i,b,j,ps,g⟩ c X ⟨p,ay,D,k,E,H,I⟩
 have f:=f.jP p
 have az:=p.size
 have q:=p
 have a0:=Fr.refl [] X
 refine ac 2<|jX rfl rfl (fun Y=>?_) (fun Y=>?_)
 ·have hi:i<ks.length:=by omega
  have hit:i<ts.length:=by omega
  obtain⟨a1,a2,rfl,a3,Z,r⟩:=S i hi
  have aa:=B i hi
  have a4:=N.iP (l:=ks) hi
  refine au 8<|iX F.iI (hi) rfl rfl rfl<|lA (Z.fr f Al) r rfl<|al F.z31 rfl fun a5 a6 a7 a8 a9 t=>sA t rfl rfl rfl r (B i hi).one fun ab aA aB t=>au 3<|lw t rfl r ?_
  obtain⟨aC,u⟩:=nm ab
  have aD:=f.g.le u
  refine cX ((R i hi hit) _ o _ (aa.fr f.g Az) (fun d hc=>Tj (hD0 d hc) f.g.size) (T.at f.g) Ac) ?_
  rintro _ ad aE aF ⟨J,rfl,K,ae,af⟩
  obtain⟨ag,L,ah⟩:=af.hf (Tk ⟨K,ae⟩)
  obtain⟨aG,aj,aH⟩:=nl ad
  rw[←u,←aj]at L
  rw[←u]at K
  refine au 17<|DL.iu (cs:=#[Pt J]) rfl rfl (F.pF) rfl rfl rfl ?_
  intro aI M w aJ aK ak
  have w:=Sp.mk w
  have aL:=w.size
  have am:HF M (fun d=>o d∨(g≤d∧d<M.heap.size)) (.p ag) (Pt J):=
   L.g.up oZ
  refine DL.hJ rfl rfl F.pF rfl rfl k.g.own (hB.hE ak) rfl AQ Bu Bu Ac ?_
  intro aM O y an ao
  have ap:g≤O.heap.size:=by have:=y.size;omega
  have hlo':∀x∈hX j,m≤x:=fun x z=>(ik k.g.own x z).1
  have aN:∀x∈hX j,x<g:=fun x z=>k.lt x (hF.1 z)
  have k:=k.g.snoc Ac E (fun d hc=>by have:=hD0 d hc;omega) am y an ao
  have q:=q.g.put y (fun x hx=>Tk A9)
  clear H
  have H:=Tv O.heap.size
  refine au 3<|ai ((i+1:Nat):Int) rfl rfl<|au 2 ?_
  refine⟨(i+1,_,_,_,_),⟨q,hi,by simp[D],k,Tq E ap,Ac,fun c h1 h2=>?_⟩,by show ks.length - (i+1)<ks.length - i;omega,⟨rfl,rfl⟩⟩
  by_cases hj:c<b.length
  ·rw[TC hj];exact I c hj h2
  have aq:c=b.length:=by simp only[Tl,TG]at h1;omega
  subst aq
  rw[Tz (Tv _)]
  simp only[UF,TF]
  simp only[D]
  exact ah
 have aO:i=ks.length:=by omega
 refine au 4<|ac 7 ?_
 obtain⟨P,Q,rfl,hL⟩:=k.done
 have hgz:b.length=ks.length:=by omega
 refine hD.ia (v:=.slice P b.length Q) (x:=.bool true) rfl rfl (hH.mk f ⟨P,Q,b,by rw[hgz],hgz,hL.up oZ,I⟩)
theorem o2{n:N}(az:CQ n L):km 69 n (bx n L) (S2 n):=by
 intro y r aG ao hD0 a0 hw
 obtain⟨c,d,g,j,k,l,m⟩:=n
 obtain⟨aH,aI,aJ,aK,aL,aM,aN,aO,aP,aQ,aR,aS,aT,aU,rfl⟩:=ao.hI
 refine cY Tryz.func69 fun o=>ac 2<|bX rfl fun a1 a2 aV aW aX z=>au 5<|lw z rfl rfl ?_
 obtain⟨ap,G⟩:=nm a2
 have aY:=o.g.le G
 refine cX (az _ r _ (ao.fr o.g Az) (fun t hc=>Tj (hD0 t hc) o.g.size) (a0.at o.g) hw) ?_
 rintro _ H aZ ba ⟨A,rfl,I,J,p⟩
 obtain⟨aq,ar,bb⟩:=nl H
 rw[←G,←ar]at p
 rw[←G]at I
 rw[←ar]at J
 refine au 18<|lD (Gb z) rfl rfl<|au 2 ?_
 have b:=Fr.refl [] H
 refine DC.lG (σ:=Bool) (fun s=>[(1,Pt a1),(4,Pt A),(14,.string c),(15,.bool s)]) (fun a3 K=>Fr [] H K∧(fun s K=>s=nL.any (fun x=>decide (c=x))) a3 K) ?_ ?_
 ·refine ac 2<|jS rfl rfl (fun M=>?_) (fun M=>?_)
  ·refine au 4 ?_
   refine⟨true,⟨rfl,rfl,rfl,rfl⟩,b,?_⟩
   simp only[nL,Uf,Uj]
   rw[M];decide
  refine au 5<|jS rfl rfl (fun O=>?_) (fun O=>?_)
  ·refine au 4 ?_
   refine⟨true,⟨rfl,rfl,rfl,rfl⟩,b,?_⟩
   simp only[nL,Uf,Uj]
   rw[O];decide
  refine au 5<|jS rfl rfl (fun P=>?_) (fun P=>?_)
  ·refine au 4 ?_
   refine⟨true,⟨rfl,rfl,rfl,rfl⟩,b,?_⟩
   simp only[nL,Uf,Uj]
   rw[P];decide
  refine au 5<|jS rfl rfl (fun Q=>?_) (fun Q=>?_)
  ·refine au 4 ?_
   refine⟨true,⟨rfl,rfl,rfl,rfl⟩,b,?_⟩
   simp only[nL,Uf,Uj]
   rw[Q];decide
  refine au 5<|jS rfl rfl (fun R=>?_) (fun R=>?_)
  ·refine au 4 ?_
   refine⟨true,⟨rfl,rfl,rfl,rfl⟩,b,?_⟩
   simp only[nL,Uf,Uj]
   rw[R];decide
  refine au 5<|jS rfl rfl (fun S=>?_) (fun S=>?_)
  ·refine au 4 ?_
   refine⟨true,⟨rfl,rfl,rfl,rfl⟩,b,?_⟩
   simp only[nL,Uf,Uj]
   rw[S];decide
  refine au 5<|jS rfl rfl (fun T=>?_) (fun T=>?_)
  ·refine au 4 ?_
   refine⟨true,⟨rfl,rfl,rfl,rfl⟩,b,?_⟩
   simp only[nL,Uf,Uj]
   rw[T];decide
  refine au 5<|jS rfl rfl (fun U=>?_) (fun U=>?_)
  ·refine au 4 ?_
   refine⟨true,⟨rfl,rfl,rfl,rfl⟩,b,?_⟩
   simp only[nL,Uf,Uj]
   rw[U];decide
  refine au 5<|jS rfl rfl (fun W=>?_) (fun W=>?_)
  ·refine au 4 ?_
   refine⟨true,⟨rfl,rfl,rfl,rfl⟩,b,?_⟩
   simp only[nL,Uf,Uj]
   rw[W];decide
  refine au 5<|jS rfl rfl (fun X=>?_) (fun X=>?_)
  ·refine au 4 ?_
   refine⟨true,⟨rfl,rfl,rfl,rfl⟩,b,?_⟩
   simp only[nL,Uf,Uj]
   rw[X];decide
  refine au 5<|jS rfl rfl (fun Y=>?_) (fun Y=>?_)
  ·refine au 4 ?_
   refine⟨true,⟨rfl,rfl,rfl,rfl⟩,b,?_⟩
   simp only[nL,Uf,Uj]
   rw[Y];decide
  refine au 5<|jS rfl rfl (fun Z=>?_) (fun Z=>?_)
  ·refine au 4 ?_
   refine⟨true,⟨rfl,rfl,rfl,rfl⟩,b,?_⟩
   simp only[nL,Uf,Uj]
   rw[Z];decide
  refine au 5<|jS rfl rfl (fun aa=>?_) (fun aa=>?_)
  ·refine au 4 ?_
   refine⟨true,⟨rfl,rfl,rfl,rfl⟩,b,?_⟩
   simp only[nL,Uf,Uj]
   rw[aa];decide
  refine au 5<|jS rfl rfl (fun ab=>?_) (fun ab=>?_)
  ·refine au 4 ?_
   refine⟨true,⟨rfl,rfl,rfl,rfl⟩,b,?_⟩
   simp only[nL,Uf,Uj]
   rw[ab];decide
  refine au 5<|jS rfl rfl (fun ad=>?_) (fun ad=>?_)
  ·refine au 4 ?_
   refine⟨true,⟨rfl,rfl,rfl,rfl⟩,b,?_⟩
   simp only[nL,Uf,Uj]
   rw[ad];decide
  refine au 5<|jS rfl rfl (fun ae=>?_) (fun ae=>?_)
  ·refine au 4 ?_
   refine⟨true,⟨rfl,rfl,rfl,rfl⟩,b,?_⟩
   simp only[nL,Uf,Uj]
   rw[ae];decide
  refine au 5<|jS rfl rfl (fun af=>?_) (fun af=>?_)
  ·refine au 4 ?_
   refine⟨true,⟨rfl,rfl,rfl,rfl⟩,b,?_⟩
   simp only[nL,Uf,Uj]
   rw[af];decide
  refine au 4<|jS rfl rfl (fun ag=>?_) (fun ag=>?_)
  ·refine au 2 ?_
   refine⟨true,⟨rfl,rfl,rfl,rfl⟩,b,?_⟩
   simp only[nL,Uf,Uj]
   rw[ag];decide
  refine au 2 ?_
  refine⟨false,⟨rfl,rfl,rfl,rfl⟩,b,?_⟩
  simp only[nL,Uf,Uj]
  rw[Ti M,Ti O,Ti P,Ti Q,Ti R,Ti S,Ti T,Ti U,Ti W,Ti X,Ti Y,Ti Z,Ti aa,Ti ab,Ti ad,Ti ae,Ti af,Ti ag];rfl
 rintro s bc a4 ⟨B,hs⟩
 have o:=o.g.jP B
 have bd:=B.size
 have z:=B.il (Gb z)
 have p:=p.fr B Az Al
 refine DC.cond rfl (fun u=>?_) (fun u=>?_)
 ·refine ac 3 ?_
  have hu:nN (.mk c d g j k l m)=true:=pw (hs.symm.trans u)
  have ah:=K3 hu
  obtain⟨a5,v,_,C⟩:=p
  obtain⟨a6,rfl,E⟩:=C ah
  refine au 2<|lD v rfl rfl<|au 4 ?_
  rw[show bx (.mk c d g j k l m) L=L from TU hu]
  exact rZ o ⟨_,rfl,trivial,E.up (fun t hc=>Dm.mono Ac Ac t hc.1) (fun F w hc=>⟨fun _ ai=>ai.elim (fun h=>Tu (u.symm.trans (hs.trans (show nL.any (fun x=>decide (c=x))=false by rw[show c=iL from h];decide))) Ah) (fun h=>hc.2.2 h),fun h=>Tu hu (by rw[h];decide)⟩)⟩
 refine ac 2<|jS rfl rfl (fun q=>?_) (fun q=>?_)
 ·refine au 6 ?_
  have ah:Ig (.mk c d g j k l m)=true:=Ge q
  obtain⟨a5,v,a7,C⟩:=p
  obtain⟨a6,rfl,E⟩:=C ah
  have p:Qy a4 _ (.mk c d g j k l m) L A:=⟨_,v,a7,C⟩
  obtain⟨hdt,be,bf,bg,F,w,a8,a9,hfl,bh,aA,bi,av⟩:=id E
  obtain⟨aw,aB,aj⟩:=a9.at 6 (f:=w) (by rw[UB Ac];exact aA)
  refine au 2<|lD v rfl rfl<|au 2<|lD a8 rfl (by rw[T9];exact aB) ?_
  cases hn:isNeg (.mk c d g j k l m)
  ·obtain⟨rfl,_⟩:=av.2.1 q hn
   obtain rfl:aw=Zp:=by unfold HF at aj;exact aj
   refine au 8<|lD v rfl rfl<|au 4 ?_
   have hu:nN (.mk c d g j k l m)=true:=JA q hn
   rw[show bx (.mk c d g j k l m) L=L from TU hu]
   exact rZ o ⟨_,rfl,trivial,E.up (fun t hc=>Dm.mono Ac Ac t hc.1) (fun F w hc=>⟨fun _ ai=>ai.elim (fun h=>(hc.2.1 h hn).2) (fun h=>hc.2.2 h),fun h=>Tu hu (by rw[h];decide)⟩)⟩
  obtain⟨bj,rfl⟩:=av.1 q hn
  obtain⟨bk,rfl⟩:∃ak,aw=Pt ak:=by obtain⟨ak,_,_,e,_⟩:=aj.ptr;exact⟨ak,e⟩
  refine au 7<|bD #[.int .i64 20,Zp,Zp,Zp,Zp,Zs,Zp,Zs,Zp,Zp,Zp,Zp,Zp,Zp,Zs,Pt A,Zl]<|bX rfl fun aC ax bl aD aE al=>au 4 ?_
  have hu:nN (.mk c d g j k l m)=false:=Dr (hs.symm.trans u) (Tk hn)
  obtain⟨aF,am,an⟩:=Qy.hf (w:=ax) (D:=Dm r ap aq) p.g (Tk ⟨I,J⟩)
  rw[show bx (.mk c d g j k l m) L=[40]++L++[41]from TI Cg]
  exact hD.ia rfl rfl (hH.mk o.g ⟨_,rfl,trivial,(oI (D:=Dm r y.heap.size ax.heap.size) (Tk ⟨Ac,Ac⟩) al (am.up (Dm.mono Ac Ac)) an).up (fun _ h=>h) (fun F w hc=>⟨fun h=>Tu h Cg,fun _=>hc.1⟩)⟩)
 refine au 7<|bD #[.int .i64 20,Zp,Zp,Zp,Zp,Zs,Zp,Zs,Zp,Zp,Zp,Zp,Zp,Zp,Zs,Pt A,Zl]<|bX rfl fun aC ay bm aD aE al=>au 4 ?_
 have hu:nN (.mk c d g j k l m)=false:=Dr (hs.symm.trans u) (Ts q)
 obtain⟨aF,am,an⟩:=Qy.hf (w:=ay) (D:=Dm r ap aq) p.g (Tk ⟨I,J⟩)
 rw[show bx (.mk c d g j k l m) L=[40]++L++[41]from TI Cg]
 exact hD.ia rfl rfl (hH.mk o.g ⟨_,rfl,trivial,(oI (D:=Dm r y.heap.size ay.heap.size) (Tk ⟨Ac,Ac⟩) al (am.up (Dm.mono Ac Ac)) an).up (fun _ h=>h) (fun F w hc=>⟨fun h=>Tu h Cg,fun _=>hc.1⟩)⟩)
theorem kZ{n:N}(k:CQ n L):NO n (bx n L):=by
 intro l c G d hD0 m hw
 obtain⟨H,I,J,K,M,O,P⟩:=n
 obtain⟨Q,R,S,T,U,W,X,Y,Z,aa,ab,ad,ae,af,rfl⟩:=d.hI
 refine cY Tryz.func61 fun b=>ac 2<|bX rfl fun ag o ah ai aj p=>au 5<|lw p rfl rfl ?_
 obtain⟨ak,f⟩:=nm o
 have al:=b.g.le f
 refine cX (o2 k _ c _ (d.fr b.g Az) (fun q hc=>Tj (hD0 q hc) b.g.size) (m.at b.g) hw) ?_
 rintro _ g am an ⟨ao,rfl,_,j⟩
 obtain⟨r,t,u⟩:=nl g
 rw[←f,←t]at j
 refine au 9 ?_
 have v:_≤g.heap.size:=b.g.size
 have ap:=u
 refine cX (kb _ _) ?_
 rintro _ w aq ar ⟨y,rfl,z,av,A⟩
 have aw:r≤y:=Ac
 have z:=Tq v Ac
 refine au 5 ?_
 obtain⟨ax,B,C⟩:=j.g.hf
 obtain⟨E,F⟩:=ng (D:=Dm c l.heap.size w.heap.size) (B.up (Dm.mono Ac Ac)) C (Tk ⟨Ac,Ac⟩) A
 exact hD.ia rfl rfl (hH.mk b.g ⟨_,rfl,Ac,_,E,F⟩)
def Mm(o:Nat)(n:N)(t:List UInt8):Prop:=∀(w:World)(D0:Nat→Prop)(cs:Array Value),RN w D0 0 n cs→(∀c,D0 c→c<w.heap.size)→TB w→n.wt≤1048576→
 Calls Tryz.prog 35 #[.agg cs,.int .i64 (o:Int)] w (hH w [] fun r w'=>∃b,r=.tuple #[Pt b,.bool true]∧w.heap.size≤b∧b<w'.heap.size∧Qy w' (fun c=>Dm D0 w.heap.size w'.heap.size c∧c≠b) n t b)
theorem E9.bin{a:G}(b:1≤m∧m≤24)(c:Pr 0 a L)(d:Pr 0 gH M):E9 nP (.p a) (.p gH) nS (.v (.int .i64 (m:Int))) (L++(if m=2 then[]else[32])++mI m++[32]++M):=by
 intro g j hl f
 by_cases h2:m=2
 ·subst h2
  have:=Pr.qC hl f c d
  simpa[mI]using this
 rw[TI h2]
 have:=Pr.qB hl f ⟨b.1,b.2,h2⟩ c d
 simpa using this
theorem oF:∀b:Nat,1≤b∧b≤24→nL.any (fun x=>decide (jQ b=x))=false∧jQ b≠iL∧jQ b≠Cy∧jQ b≠Cs:=by
 have:∀b:Fin 25,1≤b.val→nL.any (fun x=>decide (jQ b.val=x))=false∧jQ b.val≠iL∧jQ b.val≠Cy∧jQ b.val≠Cs:=by decide+kernel
 intro b c;exact this ⟨b,Ac⟩ c.1
theorem sV{n:N}(h:nL.any (fun x=>decide (iz n=x))=false)(b:iz n≠iL):Ig n=false:=by unfold Ig;rw[h,Ti b];rfl
theorem vi(g:1≤m∧m≤24)(y:NO q L)(z:NO p M):Mm m (.mk (jQ m) ⟨#[]⟩ V0 [] [q,p] [] []) (L++(if m=2 then[]else[32])++mI m++[32]++M):=by
 intro A j af d hD0 o hw
 obtain⟨ag,ah,ai,aj,ak,al,am,an,ao,ap,aq,ar,av,aw,rfl⟩:=d.hI
 obtain⟨ax,ay,az,a0,a1,a2⟩:=d.hV
 obtain⟨a3,a4,a5,B,a6,C,D,E⟩:=d.kF (i:=0) Al
 cases B
 have G:N.wt q≤1048576:=by simp only[N.wt,N.h9]at hw;omega
 obtain⟨a7,a8,a9,H,aA,I,J,K⟩:=d.kF (i:=1) Al
 cases H
 have O:N.wt p≤1048576:=by simp only[N.wt,N.h9]at hw;omega
 refine cY Tryz.func35 fun b=>ac 2<|bX rfl fun aB P aC aD aE k=>au 7<|lD k rfl rfl<|au 8<|lD k rfl rfl<|iX F.iI Al rfl rfl rfl<|lA (C.fr b.g Al) D rfl ?_
 obtain⟨aF,l⟩:=nm P
 have aG:=b.g.le l
 refine cX (y _ j _ (E.fr b.g Az) (fun c hc=>Tj (hD0 c hc) b.g.size) (o.at b.g) G) ?_
 rintro _ r aH aI ⟨Q,rfl,R,aJ,t,S⟩
 obtain⟨T,U,aK⟩:=nl r
 rw[←l,←U]at t
 rw[←l]at R
 refine au 9<|lD (Gb k) rfl rfl<|iX F.iI Al rfl rfl rfl<|lA (I.fr b.g Al) J rfl ?_
 obtain⟨W,f⟩:=nm r
 have aL:=b.g.le f
 have aM:T≤W:=by rw[f];exact Ac
 refine cX (z _ j _ (K.fr b.g Az) (fun c hc=>Tj (hD0 c hc) b.g.size) (o.at b.g) O) ?_
 rintro _ X aN aO ⟨Y,rfl,Z,aP,u,aa⟩
 obtain⟨aQ,ab,aR⟩:=nl X
 rw[←f,←ab]at u
 rw[←f]at Z
 refine au 11<|bD #[Zp,Zl,Zl,Zp,Pt Q,Pt Y,Zl,.int .i64 (m:Int)]<|bX rfl fun v w aS aT aU ad=>au 8 ?_
 have ae:Qy w (fun c=>Dm j A.heap.size w.heap.size c∧c≠v) (.mk (jQ m) ⟨#[]⟩ V0 [] [q,p] [] []) (L++(if m=2 then[]else[32])++mI m++[32]++M) v:=
  ⟨_,ad,⟨[],_,_,_,_,_,[],_,HR.c (.cons .vv (.cons .vv (.cons .l0 (.cons .vv (.cons (t.g.up (Dm.y7 hD0 Ac Ac Ac Ac)) (.cons (u.g.up (Dm.y7 hD0 Ac Ac Ac Ac)) (.cons .vv (.cons .vv .nil)))))))),rfl,fun i h=>by simp at h,E9.bin g S aa,by simp⟩,fun h=>Tu h (by rw[sV (n:=.mk (jQ m) ⟨#[]⟩ V0 [] [q,p] [] []) (oF m g).1 (oF m g).2.1];decide)⟩
 exact hD.ia rfl rfl (hH.mk b.g ⟨_,rfl,Ac,Ac,ae⟩)
theorem y3{n:N}(f:1≤m∧m≤24)(g:iz n=jQ m)(p:Mm m n L):CQ n L:=by
 intro C q D j hD0 r hw
 obtain⟨t,E,F,G,H,I,J⟩:=n
 obtain⟨K,M,O,P,Q,R,S,T,U,W,X,Y,Z,aa,rfl⟩:=j.hI
 refine cY Tryz.func12 fun b=>ac 2<|bX rfl fun ab ad ae af ag k=>au 7<|lD k rfl rfl<|cX (lr t _) ?_
 rintro _ u ah ai (⟨aj,v,w,rfl⟩|⟨y,rfl⟩)
 ·obtain rfl:=GB _ _ f v (g.symm.trans w)
  refine au 13<|lw (Gb k) rfl rfl<|au 1 ?_
  obtain⟨ak,c⟩:=nm u
  have al:=b.g.le c
  refine cX (p _ q _ (j.fr b.g Az) (fun d hc=>Tj (hD0 d hc) b.g.size) (r.at b.g) hw) ?_
  rintro _ z am an ⟨ao,rfl,A,B,l⟩
  obtain⟨ap,o,aq⟩:=nl z
  rw[←c,←o]at l
  rw[←c]at A
  rw[←o]at B
  exact au 6<|hD.ia rfl rfl (hH.mk b.g ⟨_,rfl,Ac,Ac,l.up (fun d hc=>⟨Dm.mono Ac Ac d hc.1,hc.2⟩)⟩)
 exact Tu g (y m f)
theorem zj{n:N}(m:iz n=Cy)(o:∀c,1≤c∧c≤24→¬iz n=jQ c)(p:KO 36 n L):CQ n L:=by
 intro C q D j hD0 r hw
 obtain⟨t,E,F,G,H,I,J⟩:=n
 obtain⟨K,M,O,P,Q,R,S,T,U,W,X,Y,Z,aa,rfl⟩:=j.hI
 refine cY Tryz.func12 fun b=>ac 2<|bX rfl fun ab ad ae af ag d=>au 7<|lD d rfl rfl<|cX (lr t _) ?_
 rintro _ u ah ai (⟨v,w,y,rfl⟩|⟨aj,rfl⟩)
 ·exact Tu y (o v w)
 refine au 16<|lD (Gb d) rfl rfl<|au 4<|sT m rfl rfl<|au 5<|lw (Gb d) rfl rfl ?_
 obtain⟨ak,f⟩:=nm u
 have al:=b.g.le f
 refine cX (p _ q _ (j.fr b.g Az) (fun g hc=>Tj (hD0 g hc) b.g.size) (r.at b.g) hw) ?_
 rintro _ z am an ⟨ao,rfl,A,B,k⟩
 obtain⟨ap,l,aq⟩:=nl z
 rw[←f,←l]at k
 rw[←f]at A
 rw[←l]at B
 exact au 6<|hD.ia rfl rfl (hH.mk b.g ⟨_,rfl,Ac,Ac,k.up (fun g hc=>⟨Dm.mono Ac Ac g hc.1,hc.2⟩)⟩)
theorem yD{n:N}(j:iz n=Cs)(p:∀c,1≤c∧c≤24→¬iz n=jQ c)(q:KO 37 n L):CQ n L:=by
 intro C r D k hD0 t hw
 obtain⟨l,E,F,G,H,I,J⟩:=n
 obtain⟨K,M,O,P,Q,R,S,T,U,W,X,Y,Z,aa,rfl⟩:=k.hI
 refine cY Tryz.func12 fun b=>ac 2<|bX rfl fun ab ad ae af ag d=>au 7<|lD d rfl rfl<|cX (lr l _) ?_
 rintro _ u ah ai (⟨v,w,y,rfl⟩|⟨aj,rfl⟩)
 ·exact Tu y (p v w)
 refine au 16<|lD (Gb d) rfl rfl<|au 2<|DC.pH rfl rfl (by rw[Ti];rw[show l=_ from j];decide)<|ac 2<|sT j rfl rfl<|au 5<|lw (Gb d) rfl rfl ?_
 obtain⟨ak,f⟩:=nm u
 have al:=b.g.le f
 refine cX (q _ r _ (k.fr b.g Az) (fun g hc=>Tj (hD0 g hc) b.g.size) (t.at b.g) hw) ?_
 rintro _ z am an ⟨ao,rfl,A,B,m⟩
 obtain⟨ap,o,aq⟩:=nl z
 rw[←f,←o]at m
 rw[←f]at A
 rw[←o]at B
 exact au 6<|hD.ia rfl rfl (hH.mk b.g ⟨_,rfl,Ac,Ac,m.up (fun g hc=>⟨Dm.mono Ac Ac g hc.1,hc.2⟩)⟩)
theorem F9{n:N}(p:∀d,1≤d∧d≤24→¬iz n=jQ d)(q:iz n≠Cy)(r:iz n≠Cs)(t:km 38 n L (kr n)):CQ n L:=by
 intro u v M j hD0 w hw
 obtain⟨y,O,P,Q,R,S,T⟩:=n
 obtain⟨U,W,X,Y,Z,aa,ab,ad,ae,af,ag,ah,ai,aj,rfl⟩:=j.hI
 refine cY Tryz.func12 fun c=>ac 2<|bX rfl fun ak al am an ao f=>au 7<|lD f rfl rfl<|cX (lr y _) ?_
 rintro _ z ap aq (⟨A,B,C,rfl⟩|⟨ar,rfl⟩)
 ·exact Tu C (p A B)
 refine au 16<|lD (Gb f) rfl rfl<|au 2<|DC.pH rfl rfl (Ti q)<|DC.pH rfl rfl (Ti r)<|ac 3<|lw (Gb f) rfl rfl ?_
 obtain⟨av,k⟩:=nm z
 have aw:=c.g.le k
 refine cX (t _ v _ (j.fr c.g Az) (fun g hc=>Tj (hD0 g hc) c.g.size) (w.at c.g) hw) ?_
 rintro _ l ax ay ⟨az,rfl,_,m⟩
 obtain⟨D,E,F⟩:=nl l
 rw[←k,←E]at m
 refine au 9 ?_
 have G:_≤l.heap.size:=c.g.size
 have a0:=F
 refine cX (kb _ _) ?_
 rintro _ H a1 a2 ⟨o,rfl,I,a3,J⟩
 have a4:D≤o:=Ac
 have I:=Tq G Ac
 refine au 5 ?_
 have K:=m.g.up (fun g hc=>Dm.y7 hD0 (lo':=u.heap.size) (hi':=H.heap.size) (b:=o) Ac Ac Ac Ac g hc) (fun _ _ h=>h)
 exact hD.ia rfl rfl (hH.mk c.g ⟨_,rfl,Ac,Ac,Qy.Py K J⟩)
theorem zz:km 38 (.mk CE ⟨#[]⟩ V0 [] [] [] []) [46] (kr (.mk CE ⟨#[]⟩ V0 [] [] [] [])):=by
 intro g j k b hD0 l hw
 obtain⟨m,o,p,q,r,t,u,v,w,y,z,A,B,C,rfl⟩:=b.hI
 obtain⟨D,E,F,G,H,I⟩:=b.hV
 exact cY Tryz.func38 fun d=>ac 2<|bX rfl fun J K L M O c=>au 6<|lD c rfl rfl<|au 7<|lD c rfl rfl<|au 10<|bD #[.int .i64 1,Zp,Zp,Zp,Zp,Zs,Zp,Zs,Zp,Zp,Zp,Zp,Zp,Zp,Zs,Zp,Zl]<|bX rfl fun P Q R S T f=>au 6<|hD.ia rfl rfl (hH.mk d.g ⟨_,rfl,trivial,(IC (Tk ⟨Ac,Ac⟩) f).up (fun _ h=>h) (fun U W hc=>⟨fun h=>Tu h (show ¬(CE:ByteArray)=iL by decide),fun h=>Tu h (show ¬(CE:ByteArray)=iL by decide),fun h=>Tu h (show ¬(CE:ByteArray)=jn by decide)⟩)⟩)
theorem EY:km 38 (.mk CL ⟨#[]⟩ V0 [] [] [] []) [46,46] (kr (.mk CL ⟨#[]⟩ V0 [] [] [] [])):=by
 intro g j k b hD0 l hw
 obtain⟨m,o,p,q,r,t,u,v,w,y,z,A,B,C,rfl⟩:=b.hI
 obtain⟨D,E,F,G,H,I⟩:=b.hV
 exact cY Tryz.func38 fun d=>ac 2<|bX rfl fun J K L M O c=>au 6<|lD c rfl rfl<|au 7<|lD c rfl rfl<|au 16<|bD #[.int .i64 2,Zp,Zp,Zp,Zp,Zs,Zp,Zs,Zp,Zp,Zp,Zp,Zp,Zp,Zs,Zp,Zl]<|bX rfl fun P Q R S T f=>au 6<|hD.ia rfl rfl (hH.mk d.g ⟨_,rfl,trivial,(F6 (Tk ⟨Ac,Ac⟩) f).up (fun _ h=>h) (fun U W hc=>⟨fun h=>Tu h (show ¬(CL:ByteArray)=iL by decide),fun h=>Tu h (show ¬(CL:ByteArray)=iL by decide),fun h=>Tu h (show ¬(CL:ByteArray)=jn by decide)⟩)⟩)
theorem zf(h:sk vH L):km 38 (.mk Cr ⟨#[]⟩ vH [] [] [] []) L (kr (.mk Cr ⟨#[]⟩ vH [] [] [] [])):=by
 intro D l E c hD0 m hw
 obtain⟨G,H,I,J,K,M,O,P,o,p,q,r,t,u,rfl⟩:=c.hI
 obtain⟨Q,R,S,T,U,W⟩:=c.hV
 have v:=c.oM
 have w:vH.wt≤1048576:=by simp only[N.wt]at hw;omega
 refine cY Tryz.func38 fun b=>ac 2<|bX rfl fun X y Z aa ab d=>au 6<|lD d rfl rfl<|au 7<|lD d rfl rfl<|au 23<|DL.y rfl rfl (Y.qW (sub:=#[o,p,q,r,t,u]) rfl d rfl F.rC) ?_
 obtain⟨ad,f⟩:=nm y
 have ae:=b.g.le f
 refine cX ((HJ h) _ l _ (v.fr b.g Az) (fun z hc=>Tj (hD0 z hc) b.g.size) (m.at b.g) w) ?_
 rintro _ A af ag ⟨ah,rfl,B,j⟩
 obtain⟨ai,C,aj⟩:=nl A
 rw[←f,←C]at j
 rw[←f]at B
 refine au 18 ?_
 have k:isNeg (.mk Cr ⟨#[]⟩ vH [] [] [] [])=q4 vH:=by cases vH;rfl
 exact hD.ia rfl rfl (hH.mk b.g ⟨_,rfl,trivial,j.up (Dm.mono Ac Ac) (fun ak al hc=>⟨fun _ g=>hc.1 (k.symm.trans g),fun _ g=>hc.2 (k.symm.trans g),fun h=>Tu h (show ¬(Cr:ByteArray)=jn by decide)⟩)⟩)
theorem EE{s:ByteArray}(hs:s∈ri):km 38 (.mk Cz s V0 [] [] [] []) s.data.toList (kr (.mk Cz s V0 [] [] [] [])):=by
 intro r t j f hD0 u hw
 obtain⟨v,w,y,z,A,B,C,D,E,F,G,H,I,J,rfl⟩:=f.hI
 obtain⟨K,L,M,O,P,Q⟩:=f.hV
 refine cY Tryz.func38 fun g=>ac 2<|bX rfl fun R S T U W b=>au 6<|lD b rfl rfl<|au 7<|lD b rfl rfl<|au 39<|dF fun X k Z c=>have aa:=k.size;aK [0]<|kL 1 (Gb b) rfl rfl rfl<|kT 2 rfl (fun ab ad=>Y.build (cs:=#[.int .i64 12,Zp,Zp,Zp,Zp,Zs,Zp,.string s,Zp,Zp,Zp,Zp,Zp,Zp,Zs,Zp,Zl]) Au)<|aK [4,5,6,7]<|kL 8 (Gb b) rfl rfl rfl<|kQ 3 9 ?_ ?_
 ·refine bX rfl fun l ae af m o d=>kN c.g<|kP 9<|cX (mw _ hs _) ?_
  rintro _ ag ah ai rfl
  exact kN c.g<|aK [10,11,12]<|kD<|ac 1<|hD.ia rfl rfl (hH.mk g.g ⟨_,rfl,trivial,(xM (Tk ⟨Ac,Ac⟩) (Gb d) (tu s hs).2.2.2.2.2).up (fun _ h=>h) (fun p q hc=>⟨fun h=>Tu h (show ¬(Cz:ByteArray)=iL by decide),fun h=>Tu h (show ¬(Cz:ByteArray)=iL by decide),fun h=>Tu h (show ¬(Cz:ByteArray)=jn by decide)⟩)⟩)
 refine cX (mw _ hs _) ?_
 rintro _ aj ak al rfl
 exact kN c.g<|aK [10]<|kP 3<|bX rfl fun l am an m o d=>kN c.g<|aK [11,12]<|kD<|ac 1<|hD.ia rfl rfl (hH.mk g.g ⟨_,rfl,trivial,(xM (Tk ⟨Ac,Ac⟩) d (tu s hs).2.2.2.2.2).up (fun _ h=>h) (fun p q hc=>⟨fun h=>Tu h (show ¬(Cz:ByteArray)=iL by decide),fun h=>Tu h (show ¬(Cz:ByteArray)=iL by decide),fun h=>Tu h (show ¬(Cz:ByteArray)=jn by decide)⟩)⟩)
theorem AJ{s:ByteArray}(hs:jI s.data.toList):km 38 (.mk CC s V0 [] [] [] []) ([98,114,101,97,107,32]++(36::s.data.toList)) (kr (.mk CC s V0 [] [] [] [])):=by
 intro g k p l hD0 B hw
 obtain⟨C,E,F,G,H,I,J,K,L,M,O,P,Q,R,rfl⟩:=l.hI
 obtain⟨S,T,U,W,X,Z⟩:=l.hV
 refine cY Tryz.func38 fun m=>ac 2<|bX rfl fun aa ab ad ae af d=>au 6<|lD d rfl rfl<|au 7<|lD d rfl rfl<|au 38<|ac 19<|dF fun ag q ah f=>have ai:=q.size;aK [0]<|kL 1 (Gb d) rfl rfl rfl<|kT 2 rfl (fun r t=>Y.cat (a:=Cx) (b:=s) rfl rfl A0)<|kT 3 rfl (fun r t=>Y.build (cs:=#[.int .i64 19,Zp,Zp,Zp,Zp,Zs,Zp,Zs,Zp,Zp,Zp,Zp,Zp,Zp,.string (Cx++s),Zp,Zl]) Au)<|aK [5,6,7,8]<|kL 9 (Gb d) rfl rfl rfl<|kQ 4 10 ?_ ?_
 ·refine bX rfl fun u aj ak v w j=>kN f.g<|kP 10<|cX (ig _ Ac _) ?_
  rintro _ o al am rfl
  rw[hs]
  refine kN f.g<|aK [11,12,13]<|kD<|ac 1 ?_
  have c:=xL (w:=o) (D:=Dm k g.heap.size o.heap.size) (Tk ⟨Ac,Ac⟩) (Gb j)
  rw[jO]at c
  exact hD.ia rfl rfl (hH.mk m.g ⟨_,rfl,trivial,(c).up (fun _ h=>h) (fun y z hc=>⟨fun h=>Tu h (show ¬(CC:ByteArray)=iL by decide),fun h=>Tu h (show ¬(CC:ByteArray)=iL by decide),fun h=>Tu h (show ¬(CC:ByteArray)=jn by decide)⟩)⟩)
 refine cX (ig _ Ac _) ?_
 rintro _ an ao ap rfl
 rw[hs]
 refine kN f.g<|aK [11]<|kP 4<|bX rfl fun u A aq v w j=>kN f.g<|aK [12,13]<|kD<|ac 1 ?_
 have c:=xL (D:=Dm k g.heap.size A.heap.size) (Tk ⟨Ac,Ac⟩) j
 rw[jO]at c
 exact hD.ia rfl rfl (hH.mk m.g ⟨_,rfl,trivial,(c).up (fun _ h=>h) (fun y z hc=>⟨fun h=>Tu h (show ¬(CC:ByteArray)=iL by decide),fun h=>Tu h (show ¬(CC:ByteArray)=iL by decide),fun h=>Tu h (show ¬(CC:ByteArray)=jn by decide)⟩)⟩)
theorem By{s:ByteArray}(hs:jI s.data.toList):km 38 (mu s) (36::s.data.toList) (kr (mu s)):=by
 intro f l m t hD0 H hw
 obtain⟨I,J,K,L,M,O,P,Q,R,S,T,U,W,X,rfl⟩:=t.hI
 obtain⟨Z,aa,ab,ad,ae,af⟩:=t.hV
 refine cY Tryz.func38 fun o=>ac 2<|bX rfl fun ag ah ai aj ak j=>au 6<|lD j rfl rfl<|au 7<|lD j rfl rfl<|au 40<|au 5<|dF fun al E am c=>have an:=E.size;aK [0]<|kL 1 (Gb j) rfl rfl rfl<|kT 2 rfl (fun p q=>Y.cat (a:=Cx) (b:=s) rfl rfl A0)<|kT 3 rfl (fun p q=>Y.build (cs:=#[.string (Cx++s),Zl]) Au)<|aK [7,8,9,10]<|kL 11 (Gb j) rfl rfl rfl<|kQ 4 12 ?_ ?_
 ·refine bX rfl fun r ao ap F G k=>kN c.g<|kT 5 rfl (fun p q=>Y.build (cs:=#[.int .i64 7,Zp,Pt r,Zp,Zp,Zs,Zp,Zs,Zp,Zp,Zp,Zp,Zp,Zp,Zs,Zp,Zl]) Au)<|kQ 6 12 ?_ ?_
  ·refine bX rfl fun u aq ar v w g=>kN c.g<|kP 12<|cX (ig _ Ac _) ?_
   rintro _ y av aw rfl
   rw[hs]
   refine kN c.g<|aK [13,14,15]<|kD<|ac 1 ?_
   have d:=o6 (w:=y) (D:=Dm l f.heap.size y.heap.size) (Tk ⟨Ac,Ac⟩) (Gb g) (HF.ph (Tk ⟨Ac,Ac⟩) (Gb k) (HR.c (.cons .vv (.cons .vv .nil)))) Pr.NV (so (j0 s))
   rw[jO]at d
   exact hD.ia rfl rfl (hH.mk o.g ⟨_,rfl,trivial,(d).up (fun _ h=>h) (fun z A hc=>⟨fun h=>Tu h (show ¬(Cx:ByteArray)=iL by decide),fun h=>Tu h (show ¬(Cx:ByteArray)=iL by decide),fun h=>Tu h (show ¬(Cx:ByteArray)=jn by decide)⟩)⟩)
  refine cX (ig _ Ac _) ?_
  rintro _ ax ay az rfl
  rw[hs]
  refine kN c.g<|aK [13]<|kP 6<|bX rfl fun u B a0 v w g=>kN c.g<|aK [14,15]<|kD<|ac 1 ?_
  have d:=o6 (w:=B) (D:=Dm l f.heap.size B.heap.size) (Tk ⟨Ac,Ac⟩) g (HF.ph (Tk ⟨Ac,Ac⟩) (Gb k) (HR.c (.cons .vv (.cons .vv .nil)))) Pr.NV (so (j0 s))
  rw[jO]at d
  exact hD.ia rfl rfl (hH.mk o.g ⟨_,rfl,trivial,(d).up (fun _ h=>h) (fun z A hc=>⟨fun h=>Tu h (show ¬(Cx:ByteArray)=iL by decide),fun h=>Tu h (show ¬(Cx:ByteArray)=iL by decide),fun h=>Tu h (show ¬(Cx:ByteArray)=jn by decide)⟩)⟩)
 refine cX (ig _ Ac _) ?_
 rintro _ a1 a2 a3 rfl
 rw[hs]
 refine kN c.g<|aK [13]<|kP 4<|bX rfl fun r a4 a5 F G k=>kN c.g<|kT 5 rfl (fun p q=>Y.build (cs:=#[.int .i64 7,Zp,Pt r,Zp,Zp,Zs,Zp,Zs,Zp,Zp,Zp,Zp,Zp,Zp,Zs,Zp,Zl]) Au)<|kP 6<|bX rfl fun u C a6 v w g=>kN c.g<|aK [14,15]<|kD<|ac 1 ?_
 have d:=o6 (w:=C) (D:=Dm l f.heap.size C.heap.size) (Tk ⟨Ac,Ac⟩) g (HF.ph (Tk ⟨Ac,Ac⟩) (Gb k) (HR.c (.cons .vv (.cons .vv .nil)))) Pr.NV (so (j0 s))
 rw[jO]at d
 exact hD.ia rfl rfl (hH.mk o.g ⟨_,rfl,trivial,(d).up (fun _ h=>h) (fun z A hc=>⟨fun h=>Tu h (show ¬(Cx:ByteArray)=iL by decide),fun h=>Tu h (show ¬(Cx:ByteArray)=iL by decide),fun h=>Tu h (show ¬(Cx:ByteArray)=jn by decide)⟩)⟩)
theorem yR{s:ByteArray}{ks:List N}(hs:jI s.data.toList)(hl:ks.length=lJ.length)(J:∀(i:Nat)(h1:i<ks.length)(h2:i<lJ.length),CQ ks[i] lJ[i]):km 38 (.mk Cw s V0 [] ks [] []) (s.data.toList++(if lJ=[]then[]else[40]++ih [59,32] lJ++[41])) (kr (.mk Cw s V0 [] ks [] [])):=by
 intro f g u v hD0 K hw
 obtain⟨ab,ad,ae,af,ag,ah,ai,aj,ak,al,am,an,ao,ap,rfl⟩:=v.hI
 obtain⟨aq,ar,av,aw,ax,ay⟩:=v.hV
 obtain⟨L,M,O,hkc⟩:=v.mv
 have P:N.h9 ks≤1048576:=by simp only[N.wt]at hw;omega
 have hlen:=N.iw ks
 refine cY Tryz.func38 fun c=>ac 2<|bX rfl fun az Q a0 a1 a2 k=>au 6<|lD k rfl rfl<|au 7<|lD k rfl rfl<|au 38<|ac 15<|lD k rfl rfl ?_
 obtain⟨a3,A⟩:=nm Q
 have a4:=c.g.le A
 refine cX ((jW hl J) _ g _ _ L (M.fr c.g Az) (fun i h=>(O i h).fr c.g Az) (fun R hc=>Tj (hD0 R hc) c.g.size) (K.at c.g) P) ?_
 rintro _ S a5 a6 ⟨T,U,b,rfl,hgz,q,w⟩
 obtain⟨a7,W,a8⟩:=nl S
 rw[←A,←W]at q
 refine au 7<|dF fun a9 X aA d=>have aB:=X.size;aK [0]<|kL 1 (Gb k) rfl rfl rfl<|aK [2]<|kT 3 rfl (fun B C=>Y.build (cs:=#[.string s,.slice T ks.length U]) Au)<|aK [7,8,9]<|kL 10 (Gb k) rfl rfl rfl<|kQ 4 11 ?_ ?_
 ·refine bX rfl fun j aC aD Z aa r=>kN d.g<|kT 5 rfl (fun B C=>Y.build (cs:=#[.int .i64 7,Zp,Pt j,Zp,Zp,Zs,Zp,Zs,Zp,Zp,Zp,Zp,Zp,Zp,Zs,Zp,Zl]) Au)<|kQ 6 11 ?_ ?_
  ·refine bX rfl fun E aE aF F G l=>kN d.g<|kP 11<|cX (ig _ Ac _) ?_
   rintro _ t aG aH rfl
   rw[hs]
   refine kN d.g<|aK [12,13,14]<|kD<|ac 1 ?_
   have m:HF t (Dm g f.heap.size t.heap.size) (.p (.mk [.v (.string s),.l b])) (Pt j):=HF.ph (Tk ⟨Ac,Ac⟩) (Gb r) (HR.c (.cons .vv (.cons (by rw[←hgz];exact .lh (q.g.up (Dm.mono Ac Ac))) .nil)))
   have o:Pr 6 (.mk [.v (.string s),.l b]) (s.data.toList++(if lJ=[]then[]else[40]++ih [59,32] lJ++[41])):=by
    by_cases h0:lJ=[]
    ·rw[TU h0];have:b=[]:=Tn (by rw[hgz,hl,h0];rfl);subst this;rw[T3];exact Pr.NB
    rw[TI h0];have:=Pr.Nz (s:=s) (gs:=b) (ts:=lJ) BN Cb (by rw[hgz,hl]) w;simpa using this
   have p:=o6 (w:=t) (D:=Dm g f.heap.size t.heap.size) (Tk ⟨Ac,Ac⟩) (Gb l) m o BU
   exact hD.ia rfl rfl (hH.mk c.g ⟨_,rfl,trivial,(p).up (fun _ h=>h) (fun H I hc=>⟨fun h=>Tu h (show ¬(Cw:ByteArray)=iL by decide),fun h=>Tu h (show ¬(Cw:ByteArray)=iL by decide),fun h=>Tu h (show ¬(Cw:ByteArray)=jn by decide)⟩)⟩)
  refine cX (ig _ Ac _) ?_
  rintro _ aI aJ aL rfl
  rw[hs]
  refine kN d.g<|aK [12]<|kP 6<|bX rfl fun E y aM F G l=>kN d.g<|aK [13,14]<|kD<|ac 1 ?_
  have m:HF y (Dm g f.heap.size y.heap.size) (.p (.mk [.v (.string s),.l b])) (Pt j):=HF.ph (Tk ⟨Ac,Ac⟩) (Gb r) (HR.c (.cons .vv (.cons (by rw[←hgz];exact .lh (q.g.up (Dm.mono Ac Ac))) .nil)))
  have o:Pr 6 (.mk [.v (.string s),.l b]) (s.data.toList++(if lJ=[]then[]else[40]++ih [59,32] lJ++[41])):=by
   by_cases h0:lJ=[]
   ·rw[TU h0];have:b=[]:=Tn (by rw[hgz,hl,h0];rfl);subst this;rw[T3];exact Pr.NB
   rw[TI h0];have:=Pr.Nz (s:=s) (gs:=b) (ts:=lJ) BN Cb (by rw[hgz,hl]) w;simpa using this
  have p:=o6 (D:=Dm g f.heap.size y.heap.size) (Tk ⟨Ac,Ac⟩) l m o BU
  exact hD.ia rfl rfl (hH.mk c.g ⟨_,rfl,trivial,(p).up (fun _ h=>h) (fun H I hc=>⟨fun h=>Tu h (show ¬(Cw:ByteArray)=iL by decide),fun h=>Tu h (show ¬(Cw:ByteArray)=iL by decide),fun h=>Tu h (show ¬(Cw:ByteArray)=jn by decide)⟩)⟩)
 refine cX (ig _ Ac _) ?_
 rintro _ aN aO aP rfl
 rw[hs]
 refine kN d.g<|aK [12]<|kP 4<|bX rfl fun j aQ aR Z aa r=>kN d.g<|kT 5 rfl (fun B C=>Y.build (cs:=#[.int .i64 7,Zp,Pt j,Zp,Zp,Zs,Zp,Zs,Zp,Zp,Zp,Zp,Zp,Zp,Zs,Zp,Zl]) Au)<|kP 6<|bX rfl fun E z aS F G l=>kN d.g<|aK [13,14]<|kD<|ac 1 ?_
 have m:HF z (Dm g f.heap.size z.heap.size) (.p (.mk [.v (.string s),.l b])) (Pt j):=HF.ph (Tk ⟨Ac,Ac⟩) (Gb r) (HR.c (.cons .vv (.cons (by rw[←hgz];exact .lh (q.g.up (Dm.mono Ac Ac))) .nil)))
 have o:Pr 6 (.mk [.v (.string s),.l b]) (s.data.toList++(if lJ=[]then[]else[40]++ih [59,32] lJ++[41])):=by
  by_cases h0:lJ=[]
  ·rw[TU h0];have:b=[]:=Tn (by rw[hgz,hl,h0];rfl);subst this;rw[T3];exact Pr.NB
  rw[TI h0];have:=Pr.Nz (s:=s) (gs:=b) (ts:=lJ) BN Cb (by rw[hgz,hl]) w;simpa using this
 have p:=o6 (D:=Dm g f.heap.size z.heap.size) (Tk ⟨Ac,Ac⟩) l m o BU
 exact hD.ia rfl rfl (hH.mk c.g ⟨_,rfl,trivial,(p).up (fun _ h=>h) (fun H I hc=>⟨fun h=>Tu h (show ¬(Cw:ByteArray)=iL by decide),fun h=>Tu h (show ¬(Cw:ByteArray)=iL by decide),fun h=>Tu h (show ¬(Cw:ByteArray)=jn by decide)⟩)⟩)
theorem zS{s:ByteArray}(hs:jI s.data.toList)(r:CQ q L):km 38 (.mk CD s V0 [] [q] [] []) ([108,97,98,101,108,32]++(36::s.data.toList)++[32,124,32]++L) (kr (.mk CD s V0 [] [q] [] [])):=by
 intro j k P f hD0 t hw
 obtain⟨Q,R,S,T,U,W,X,Z,aa,ab,ad,ae,af,ag,rfl⟩:=f.hI
 obtain⟨ah,ai,aj,ak,al,am⟩:=f.hV
 obtain⟨an,ao,ap,u,aq,v,w,y⟩:=f.kF (i:=0) Al
 cases u
 have z:N.wt q≤1048576:=by simp only[N.wt,N.h9]at hw;omega
 refine cY Tryz.func38 fun c=>ac 2<|bX rfl fun ar av aw ax ay d=>au 6<|lD d rfl rfl<|au 7<|lD d rfl rfl<|au 38<|ac 31<|lD d rfl rfl<|cX (ig _ Ac _) ?_
 rintro _ A az a0 rfl
 rw[hs]
 refine au 8<|lD (Gb d) rfl rfl<|iX F.iI Al rfl rfl rfl<|lA (v.fr c.g Al) w rfl ?_
 obtain⟨a1,g⟩:=nm A
 have a2:=c.g.le g
 refine cX (r _ k _ (y.fr c.g Az) (fun B hc=>Tj (hD0 B hc) c.g.size) (t.at c.g) z) ?_
 rintro _ C a3 a4 ⟨E,rfl,l,G,H⟩
 obtain⟨a5,m,I⟩:=H.hf (Tk ⟨l,G⟩)
 obtain⟨a6,J,a7⟩:=nl C
 rw[←g,←J]at m
 rw[←g]at l
 refine au 9<|lD (Gb d) rfl rfl<|DL.y rfl rfl (Y.cat (a:=Cx) (b:=s) rfl rfl A0)<|au 1<|bD #[.string (Cx++s),Pt E]<|bX rfl fun K a8 a9 aA aB M=>bD #[.int .i64 18,Zp,Zp,Zp,Zp,Zs,Zp,Zs,Zp,Zp,Zp,Zp,Zp,Pt K,Zs,Zp,Zl]<|bX rfl fun aC o aD aE aF O=>au 5 ?_
 have p:=FV (w:=o) (D:=Dm k j.heap.size o.heap.size) (Tk ⟨Ac,Ac⟩) O (HF.ph (Tk ⟨Ac,Ac⟩) (Gb M) (HR.c (.cons .vv (.cons (m.g.up (Dm.mono Ac Ac)) .nil)))) (Pr.HZ I) Al
 rw[jO]at p
 exact hD.ia rfl rfl (hH.mk c.g ⟨_,rfl,trivial,(p).up (fun _ h=>h) (fun aG aH hc=>⟨fun h=>Tu h (show ¬(CD:ByteArray)=iL by decide),fun h=>Tu h (show ¬(CD:ByteArray)=iL by decide),fun h=>Tu h (show ¬(CD:ByteArray)=jn by decide)⟩)⟩)
theorem DI(m:CQ q L):km 38 (.mk CG ⟨#[]⟩ V0 [] [q] [] []) ([45]++bx q L) (kr (.mk CG ⟨#[]⟩ V0 [] [q] [] [])):=by
 intro f g M c hD0 o hw
 obtain⟨O,P,Q,R,S,T,U,W,X,Y,Z,aa,ab,ad,rfl⟩:=c.hI
 obtain⟨ae,af,ag,ah,ai,aj⟩:=c.hV
 obtain⟨ak,al,am,p,an,r,t,u⟩:=c.kF (i:=0) Al
 cases p
 have v:N.wt q≤1048576:=by simp only[N.wt,N.h9]at hw;omega
 have w:=o2 m
 refine cY Tryz.func38 fun b=>ac 2<|bX rfl fun ao y ap aq ar d=>au 6<|lD d rfl rfl<|au 7<|lD d rfl rfl<|au 38<|ac 40<|au 1<|lD d rfl rfl<|iX F.iI Al rfl rfl rfl<|lA (r.fr b.g Al) t rfl ?_
 obtain⟨av,j⟩:=nm y
 have aw:=b.g.le j
 refine cX (w _ g _ (u.fr b.g Az) (fun z hc=>Tj (hD0 z hc) b.g.size) (o.at b.g) v) ?_
 rintro _ A ax ay ⟨B,rfl,_,k⟩
 obtain⟨az,C,a0⟩:=nl A
 rw[←j,←C]at k
 refine au 9<|bD #[.int .i64 4,Pt B]<|bX rfl fun E a1 a2 a3 a4 G=>bD #[.int .i64 11,Zp,Zp,Zp,Zp,Zs,Pt E,Zs,Zp,Zp,Zp,Zp,Zp,Zp,Zs,Zp,Zl]<|bX rfl fun a5 l a6 a7 a8 H=>au 5 ?_
 obtain⟨a9,I,J⟩:=k.g.hf
 have K:=EL (w:=l) (D:=Dm g f.heap.size l.heap.size) (Tk ⟨Ac,Ac⟩) H (HF.ph (Tk ⟨Ac,Ac⟩) (Gb G) (HR.c (.cons .vv (.cons (I.up (Dm.mono Ac Ac)) .nil)))) (Pr.un J) Al
 exact hD.ia rfl rfl (hH.mk b.g ⟨_,rfl,trivial,(K).up (fun _ h=>h) (fun aA aB hc=>⟨fun h=>Tu h (show ¬(CG:ByteArray)=iL by decide),fun h=>Tu h (show ¬(CG:ByteArray)=iL by decide),fun h=>Tu h (show ¬(CG:ByteArray)=jn by decide)⟩)⟩)
theorem yQ{n:N}(j:iz n=Cp)(k:km 66 n L (kr n)):km 38 n L (kr n):=by
 intro u l v d hD0 m hw
 obtain⟨o,w,y,z,A,B,C⟩:=n
 obtain rfl:o=Cp:=j
 obtain⟨D,E,F,G,H,I,J,K,M,O,P,Q,R,S,rfl⟩:=d.hI
 refine cY Tryz.func38 fun b=>ac 2<|bX rfl fun T p U W X c=>au 6<|lD c rfl rfl<|au 7<|lD c rfl rfl<|au 34<|lw c rfl rfl ?_
 obtain⟨Y,f⟩:=nm p
 have Z:=b.g.le f
 refine cX (k _ l _ (d.fr b.g Az) (fun q hc=>Tj (hD0 q hc) b.g.size) (m.at b.g) hw) ?_
 rintro _ r aa ab ⟨ad,rfl,_,g⟩
 obtain⟨ae,t,af⟩:=nl r
 rw[←f,←t]at g
 exact au 6<|hD.ia rfl rfl (hH.mk b.g ⟨_,rfl,trivial,g.up (Dm.mono Ac Ac) (fun _ _ h=>h)⟩)
theorem Ff{n:N}(j:iz n=Cu)(k:km 70 n L (kr n)):km 38 n L (kr n):=by
 intro u l v d hD0 m hw
 obtain⟨o,w,y,z,A,B,C⟩:=n
 obtain rfl:o=Cu:=j
 obtain⟨D,E,F,G,H,I,J,K,M,O,P,Q,R,S,rfl⟩:=d.hI
 refine cY Tryz.func38 fun b=>ac 2<|bX rfl fun T p U W X c=>au 6<|lD c rfl rfl<|au 7<|lD c rfl rfl<|au 38<|ac 40<|ac 1<|lw c rfl rfl ?_
 obtain⟨Y,f⟩:=nm p
 have Z:=b.g.le f
 refine cX (k _ l _ (d.fr b.g Az) (fun q hc=>Tj (hD0 q hc) b.g.size) (m.at b.g) hw) ?_
 rintro _ r aa ab ⟨ad,rfl,_,g⟩
 obtain⟨ae,t,af⟩:=nl r
 rw[←f,←t]at g
 exact au 6<|hD.ia rfl rfl (hH.mk b.g ⟨_,rfl,trivial,g.up (Dm.mono Ac Ac) (fun _ _ h=>h)⟩)
theorem F2{n:N}(j:iz n=CF)(k:km 70 n L (kr n)):km 38 n L (kr n):=by
 intro u l v d hD0 m hw
 obtain⟨o,w,y,z,A,B,C⟩:=n
 obtain rfl:o=CF:=j
 obtain⟨D,E,F,G,H,I,J,K,M,O,P,Q,R,S,rfl⟩:=d.hI
 refine cY Tryz.func38 fun b=>ac 2<|bX rfl fun T p U W X c=>au 6<|lD c rfl rfl<|au 7<|lD c rfl rfl<|au 38<|ac 40<|au 7<|lw c rfl rfl ?_
 obtain⟨Y,f⟩:=nm p
 have Z:=b.g.le f
 refine cX (k _ l _ (d.fr b.g Az) (fun q hc=>Tj (hD0 q hc) b.g.size) (m.at b.g) hw) ?_
 rintro _ r aa ab ⟨ad,rfl,_,g⟩
 obtain⟨ae,t,af⟩:=nl r
 rw[←f,←t]at g
 exact au 6<|hD.ia rfl rfl (hH.mk b.g ⟨_,rfl,trivial,g.up (Dm.mono Ac Ac) (fun _ _ h=>h)⟩)
theorem sy{n:N}(j:iz n=Co)(k:km 70 n L (kr n)):km 38 n L (kr n):=by
 intro u l v d hD0 m hw
 obtain⟨o,w,y,z,A,B,C⟩:=n
 obtain rfl:o=Co:=j
 obtain⟨D,E,F,G,H,I,J,K,M,O,P,Q,R,S,rfl⟩:=d.hI
 refine cY Tryz.func38 fun b=>ac 2<|bX rfl fun T p U W X c=>au 6<|lD c rfl rfl<|au 7<|lD c rfl rfl<|au 38<|ac 37<|ac 16<|lw c rfl rfl ?_
 obtain⟨Y,f⟩:=nm p
 have Z:=b.g.le f
 refine cX (k _ l _ (d.fr b.g Az) (fun q hc=>Tj (hD0 q hc) b.g.size) (m.at b.g) hw) ?_
 rintro _ r aa ab ⟨ad,rfl,_,g⟩
 obtain⟨ae,t,af⟩:=nl r
 rw[←f,←t]at g
 exact au 6<|hD.ia rfl rfl (hH.mk b.g ⟨_,rfl,trivial,g.up (Dm.mono Ac Ac) (fun _ _ h=>h)⟩)
theorem F7{n:N}(j:iz n=CK)(k:km 70 n L (kr n)):km 38 n L (kr n):=by
 intro u l v d hD0 m hw
 obtain⟨o,w,y,z,A,B,C⟩:=n
 obtain rfl:o=CK:=j
 obtain⟨D,E,F,G,H,I,J,K,M,O,P,Q,R,S,rfl⟩:=d.hI
 refine cY Tryz.func38 fun b=>ac 2<|bX rfl fun T p U W X c=>au 6<|lD c rfl rfl<|au 7<|lD c rfl rfl<|au 38<|ac 37<|ac 22<|lw c rfl rfl ?_
 obtain⟨Y,f⟩:=nm p
 have Z:=b.g.le f
 refine cX (k _ l _ (d.fr b.g Az) (fun q hc=>Tj (hD0 q hc) b.g.size) (m.at b.g) hw) ?_
 rintro _ r aa ab ⟨ad,rfl,_,g⟩
 obtain⟨ae,t,af⟩:=nl r
 rw[←f,←t]at g
 exact au 6<|hD.ia rfl rfl (hH.mk b.g ⟨_,rfl,trivial,g.up (Dm.mono Ac Ac) (fun _ _ h=>h)⟩)
theorem GA{n:N}(j:iz n=CH)(k:km 70 n L (kr n)):km 38 n L (kr n):=by
 intro u l v d hD0 m hw
 obtain⟨o,w,y,z,A,B,C⟩:=n
 obtain rfl:o=CH:=j
 obtain⟨D,E,F,G,H,I,J,K,M,O,P,Q,R,S,rfl⟩:=d.hI
 refine cY Tryz.func38 fun b=>ac 2<|bX rfl fun T p U W X c=>au 6<|lD c rfl rfl<|au 7<|lD c rfl rfl<|au 38<|ac 37<|ac 25<|lw c rfl rfl ?_
 obtain⟨Y,f⟩:=nm p
 have Z:=b.g.le f
 refine cX (k _ l _ (d.fr b.g Az) (fun q hc=>Tj (hD0 q hc) b.g.size) (m.at b.g) hw) ?_
 rintro _ r aa ab ⟨ad,rfl,_,g⟩
 obtain⟨ae,t,af⟩:=nl r
 rw[←f,←t]at g
 exact au 6<|hD.ia rfl rfl (hH.mk b.g ⟨_,rfl,trivial,g.up (Dm.mono Ac Ac) (fun _ _ h=>h)⟩)
theorem xl{n:N}(j:iz n=Cv)(k:km 71 n L (kr n)):km 38 n L (kr n):=by
 intro u l v d hD0 m hw
 obtain⟨o,w,y,z,A,B,C⟩:=n
 obtain rfl:o=Cv:=j
 obtain⟨D,E,F,G,H,I,J,K,M,O,P,Q,R,S,rfl⟩:=d.hI
 refine cY Tryz.func38 fun b=>ac 2<|bX rfl fun T p U W X c=>au 6<|lD c rfl rfl<|au 7<|lD c rfl rfl<|au 38<|ac 37<|ac 26<|lw c rfl rfl ?_
 obtain⟨Y,f⟩:=nm p
 have Z:=b.g.le f
 refine cX (k _ l _ (d.fr b.g Az) (fun q hc=>Tj (hD0 q hc) b.g.size) (m.at b.g) hw) ?_
 rintro _ r aa ab ⟨ad,rfl,_,g⟩
 obtain⟨ae,t,af⟩:=nl r
 rw[←f,←t]at g
 exact au 6<|hD.ia rfl rfl (hH.mk b.g ⟨_,rfl,trivial,g.up (Dm.mono Ac Ac) (fun _ _ h=>h)⟩)
theorem Gm{n:N}(j:iz n=Cm)(k:km 71 n L (kr n)):km 38 n L (kr n):=by
 intro u l v d hD0 m hw
 obtain⟨o,w,y,z,A,B,C⟩:=n
 obtain rfl:o=Cm:=j
 obtain⟨D,E,F,G,H,I,J,K,M,O,P,Q,R,S,rfl⟩:=d.hI
 refine cY Tryz.func38 fun b=>ac 2<|bX rfl fun T p U W X c=>au 6<|lD c rfl rfl<|au 7<|lD c rfl rfl<|au 38<|ac 37<|ac 26<|lw c rfl rfl ?_
 obtain⟨Y,f⟩:=nm p
 have Z:=b.g.le f
 refine cX (k _ l _ (d.fr b.g Az) (fun q hc=>Tj (hD0 q hc) b.g.size) (m.at b.g) hw) ?_
 rintro _ r aa ab ⟨ad,rfl,_,g⟩
 obtain⟨ae,t,af⟩:=nl r
 rw[←f,←t]at g
 exact au 6<|hD.ia rfl rfl (hH.mk b.g ⟨_,rfl,trivial,g.up (Dm.mono Ac Ac) (fun _ _ h=>h)⟩)
theorem Gs{n:N}(j:iz n=CA)(k:km 71 n L (kr n)):km 38 n L (kr n):=by
 intro u l v d hD0 m hw
 obtain⟨o,w,y,z,A,B,C⟩:=n
 obtain rfl:o=CA:=j
 obtain⟨D,E,F,G,H,I,J,K,M,O,P,Q,R,S,rfl⟩:=d.hI
 refine cY Tryz.func38 fun b=>ac 2<|bX rfl fun T p U W X c=>au 6<|lD c rfl rfl<|au 7<|lD c rfl rfl<|au 38<|ac 37<|ac 26<|lw c rfl rfl ?_
 obtain⟨Y,f⟩:=nm p
 have Z:=b.g.le f
 refine cX (k _ l _ (d.fr b.g Az) (fun q hc=>Tj (hD0 q hc) b.g.size) (m.at b.g) hw) ?_
 rintro _ r aa ab ⟨ad,rfl,_,g⟩
 obtain⟨ae,t,af⟩:=nl r
 rw[←f,←t]at g
 exact au 6<|hD.ia rfl rfl (hH.mk b.g ⟨_,rfl,trivial,g.up (Dm.mono Ac Ac) (fun _ _ h=>h)⟩)
theorem xG{n:N}(j:iz n=CB)(k:km 71 n L (kr n)):km 38 n L (kr n):=by
 intro u l v d hD0 m hw
 obtain⟨o,w,y,z,A,B,C⟩:=n
 obtain rfl:o=CB:=j
 obtain⟨D,E,F,G,H,I,J,K,M,O,P,Q,R,S,rfl⟩:=d.hI
 refine cY Tryz.func38 fun b=>ac 2<|bX rfl fun T p U W X c=>au 6<|lD c rfl rfl<|au 7<|lD c rfl rfl<|au 38<|ac 37<|ac 26<|lw c rfl rfl ?_
 obtain⟨Y,f⟩:=nm p
 have Z:=b.g.le f
 refine cX (k _ l _ (d.fr b.g Az) (fun q hc=>Tj (hD0 q hc) b.g.size) (m.at b.g) hw) ?_
 rintro _ r aa ab ⟨ad,rfl,_,g⟩
 obtain⟨ae,t,af⟩:=nl r
 rw[←f,←t]at g
 exact au 6<|hD.ia rfl rfl (hH.mk b.g ⟨_,rfl,trivial,g.up (Dm.mono Ac Ac) (fun _ _ h=>h)⟩)
theorem FN{n:N}(j:iz n=Ct)(k:km 71 n L (kr n)):km 38 n L (kr n):=by
 intro u l v d hD0 m hw
 obtain⟨o,w,y,z,A,B,C⟩:=n
 obtain rfl:o=Ct:=j
 obtain⟨D,E,F,G,H,I,J,K,M,O,P,Q,R,S,rfl⟩:=d.hI
 refine cY Tryz.func38 fun b=>ac 2<|bX rfl fun T p U W X c=>au 6<|lD c rfl rfl<|au 7<|lD c rfl rfl<|au 38<|ac 37<|ac 26<|lw c rfl rfl ?_
 obtain⟨Y,f⟩:=nm p
 have Z:=b.g.le f
 refine cX (k _ l _ (d.fr b.g Az) (fun q hc=>Tj (hD0 q hc) b.g.size) (m.at b.g) hw) ?_
 rintro _ r aa ab ⟨ad,rfl,_,g⟩
 obtain⟨ae,t,af⟩:=nl r
 rw[←f,←t]at g
 exact au 6<|hD.ia rfl rfl (hH.mk b.g ⟨_,rfl,trivial,g.up (Dm.mono Ac Ac) (fun _ _ h=>h)⟩)
theorem xa{n:N}(j:iz n=Ck)(k:km 71 n L (kr n)):km 38 n L (kr n):=by
 intro u l v d hD0 m hw
 obtain⟨o,w,y,z,A,B,C⟩:=n
 obtain rfl:o=Ck:=j
 obtain⟨D,E,F,G,H,I,J,K,M,O,P,Q,R,S,rfl⟩:=d.hI
 refine cY Tryz.func38 fun b=>ac 2<|bX rfl fun T p U W X c=>au 6<|lD c rfl rfl<|au 7<|lD c rfl rfl<|au 38<|ac 37<|ac 26<|lw c rfl rfl ?_
 obtain⟨Y,f⟩:=nm p
 have Z:=b.g.le f
 refine cX (k _ l _ (d.fr b.g Az) (fun q hc=>Tj (hD0 q hc) b.g.size) (m.at b.g) hw) ?_
 rintro _ r aa ab ⟨ad,rfl,_,g⟩
 obtain⟨ae,t,af⟩:=nl r
 rw[←f,←t]at g
 exact au 6<|hD.ia rfl rfl (hH.mk b.g ⟨_,rfl,trivial,g.up (Dm.mono Ac Ac) (fun _ _ h=>h)⟩)
theorem uJ{n:N}(j:iz n=Cm)(k:km 99 n L (kr n)):km 71 n L (kr n):=by
 intro u l v c hD0 m hw
 obtain⟨o,w,y,z,A,B,C⟩:=n
 obtain rfl:o=Cm:=j
 obtain⟨D,E,F,G,H,I,J,K,M,O,P,Q,R,S,rfl⟩:=c.hI
 refine cY Tryz.func71 fun b=>ac 2<|bX rfl fun T p U W X d=>au 7<|lD d rfl rfl<|au 16<|lw d rfl rfl ?_
 obtain⟨Y,f⟩:=nm p
 have Z:=b.g.le f
 refine cX (k _ l _ (c.fr b.g Az) (fun q hc=>Tj (hD0 q hc) b.g.size) (m.at b.g) hw) ?_
 rintro _ r aa ab ⟨ad,rfl,_,g⟩
 obtain⟨ae,t,af⟩:=nl r
 rw[←f,←t]at g
 exact au 6<|hD.ia rfl rfl (hH.mk b.g ⟨_,rfl,trivial,g.up (Dm.mono Ac Ac) (fun _ _ h=>h)⟩)
theorem Gk{n:N}(j:iz n=CA)(k:km 100 n L (kr n)):km 71 n L (kr n):=by
 intro u l v c hD0 m hw
 obtain⟨o,w,y,z,A,B,C⟩:=n
 obtain rfl:o=CA:=j
 obtain⟨D,E,F,G,H,I,J,K,M,O,P,Q,R,S,rfl⟩:=c.hI
 refine cY Tryz.func71 fun b=>ac 2<|bX rfl fun T p U W X d=>au 7<|lD d rfl rfl<|au 22<|lw d rfl rfl ?_
 obtain⟨Y,f⟩:=nm p
 have Z:=b.g.le f
 refine cX (k _ l _ (c.fr b.g Az) (fun q hc=>Tj (hD0 q hc) b.g.size) (m.at b.g) hw) ?_
 rintro _ r aa ab ⟨ad,rfl,_,g⟩
 obtain⟨ae,t,af⟩:=nl r
 rw[←f,←t]at g
 exact au 6<|hD.ia rfl rfl (hH.mk b.g ⟨_,rfl,trivial,g.up (Dm.mono Ac Ac) (fun _ _ h=>h)⟩)
theorem uQ{n:N}(j:iz n=Ct)(k:km 101 n L (kr n)):km 71 n L (kr n):=by
 intro u l v c hD0 m hw
 obtain⟨o,w,y,z,A,B,C⟩:=n
 obtain rfl:o=Ct:=j
 obtain⟨D,E,F,G,H,I,J,K,M,O,P,Q,R,S,rfl⟩:=c.hI
 refine cY Tryz.func71 fun b=>ac 2<|bX rfl fun T p U W X d=>au 7<|lD d rfl rfl<|au 37<|lw d rfl rfl ?_
 obtain⟨Y,f⟩:=nm p
 have Z:=b.g.le f
 refine cX (k _ l _ (c.fr b.g Az) (fun q hc=>Tj (hD0 q hc) b.g.size) (m.at b.g) hw) ?_
 rintro _ r aa ab ⟨ad,rfl,_,g⟩
 obtain⟨ae,t,af⟩:=nl r
 rw[←f,←t]at g
 exact au 6<|hD.ia rfl rfl (hH.mk b.g ⟨_,rfl,trivial,g.up (Dm.mono Ac Ac) (fun _ _ h=>h)⟩)
theorem ou{n:N}(j:iz n=Ck)(k:km 101 n L (kr n)):km 71 n L (kr n):=by
 intro u l v c hD0 m hw
 obtain⟨o,w,y,z,A,B,C⟩:=n
 obtain rfl:o=Ck:=j
 obtain⟨D,E,F,G,H,I,J,K,M,O,P,Q,R,S,rfl⟩:=c.hI
 refine cY Tryz.func71 fun b=>ac 2<|bX rfl fun T p U W X d=>au 7<|lD d rfl rfl<|au 40<|lw d rfl rfl ?_
 obtain⟨Y,f⟩:=nm p
 have Z:=b.g.le f
 refine cX (k _ l _ (c.fr b.g Az) (fun q hc=>Tj (hD0 q hc) b.g.size) (m.at b.g) hw) ?_
 rintro _ r aa ab ⟨ad,rfl,_,g⟩
 obtain⟨ae,t,af⟩:=nl r
 rw[←f,←t]at g
 exact au 6<|hD.ia rfl rfl (hH.mk b.g ⟨_,rfl,trivial,g.up (Dm.mono Ac Ac) (fun _ _ h=>h)⟩)
theorem y4:km 71 (.mk Cv ⟨#[]⟩ V0 [] [] [] []) [91,93] (kr (.mk Cv ⟨#[]⟩ V0 [] [] [] [])):=by
 intro j f u c hD0 k hw
 obtain⟨v,w,y,z,A,B,C,E,F,G,H,I,J,K,rfl⟩:=c.hI
 obtain⟨L,M,O,P,Q,R⟩:=c.hV
 obtain⟨l,m,o,hkc⟩:=c.mv
 refine cY Tryz.func71 fun b=>ac 2<|bX rfl fun S T U W X d=>au 7<|lD d rfl rfl<|au 12<|lD d rfl rfl<|au 8<|lD d rfl rfl<|cX ((jW (ks:=[]) (ts:=[]) rfl oW) _ f _ _ l (m.fr b.g Az) (fun i h=>(o i h).fr b.g Az) (fun g hc=>Tj (hD0 g hc) b.g.size) (k.at b.g) (by simp[N.h9])) ?_
 rintro _ Z aa ab ⟨ad,ae,af,rfl,hgz,_,_⟩
 exact au 8<|bD #[Zp]<|bX rfl fun p ag ah ai aj q=>au 7<|DL.y rfl rfl (Y.E1 (c:=false) rfl rfl (rfl))<|au 6<|bD #[.int .i64 9,Zp,Zp,Zp,Pt p,Zs,Zp,Zs,Zp,Zp,Zp,Zp,Zp,Zp,Zs,Zp,Zl]<|bX rfl fun ak r al am an t=>au 5<|hD.ia rfl rfl (hH.mk b.g ⟨_,rfl,trivial,(wc (D:=Dm f j.heap.size r.heap.size) (Tk ⟨Ac,Ac⟩) t (HF.ph (Tk ⟨Ac,Ac⟩) (Gb q) (HR.c (.cons .vv .nil))) Pr.N7 Al).up (fun _ h=>h) (fun ao ap hc=>⟨fun h=>Tu h (show ¬(Cv:ByteArray)=iL by decide),fun h=>Tu h (show ¬(Cv:ByteArray)=iL by decide),fun h=>Tu h (show ¬(Cv:ByteArray)=jn by decide)⟩)⟩)
theorem yr(v:CQ q L):km 71 (.mk Cv ⟨#[]⟩ V0 [] [q] [] []) ([91]++L++[93]) (kr (.mk Cv ⟨#[]⟩ V0 [] [q] [] [])):=by
 intro l c T d hD0 w hw
 obtain⟨U,W,X,Z,aa,ab,ad,ae,af,ag,ah,ai,aj,ak,rfl⟩:=d.hI
 obtain⟨al,am,an,ao,ap,aq⟩:=d.hV
 obtain⟨ar,av,aw,y,ax,ay,az,a0⟩:=d.kF (i:=0) Al
 cases y
 have a1:N.wt q≤1048576:=by simp only[N.wt,N.h9]at hw;omega
 obtain⟨z,A,B,hkc⟩:=d.mv
 refine cY Tryz.func71 fun b=>ac 2<|bX rfl fun a2 C a3 a4 a5 f=>au 7<|lD f rfl rfl<|au 12<|lD f rfl rfl<|au 8<|lD f rfl rfl ?_
 obtain⟨E,m⟩:=nm C
 have a6:=b.g.le m
 refine cX ((jW (ks:=[q]) (ts:=[L]) rfl (fun i h1 h2=>by have:i=0:=AW;subst this;exact v)) _ c _ _ z (A.fr b.g Az) (fun i h=>(B i h).fr b.g Az) (fun o hc=>Tj (hD0 o hc) b.g.size) (w.at b.g) (by simp only[N.h9];omega)) ?_
 rintro _ G a7 a8 ⟨a9,aA,g,rfl,hgz,p,H⟩
 obtain⟨I,J,aB⟩:=nl G
 rw[←m,←J]at p
 refine au 8<|bD #[Zp]<|bX rfl fun K M aC aD aE j=>au 7<|DL.y rfl rfl (Y.E1 (c:=true) rfl rfl (rfl))<|au 5 ?_
 have aF:0<g.length:=by have:=hgz;simp at this;omega
 obtain⟨aG,aH,r,aI,aJ,rfl,aK,O,P,t,u⟩:=p.g.kH (i:=0) (by have:=hgz;simp at this;omega)
 have Q:HF M (Dm c E I) (.p g[0]) (Pt r):=HF.ph P t u
 clear t u
 refine iX F.lq Al rfl rfl rfl<|lC O rfl<|au 2<|sc j rfl rfl rfl rfl fun aL aM aN j=>au 4<|bD #[.int .i64 9,Zp,Zp,Zp,Pt K,Zs,Zp,Zs,Zp,Zp,Zp,Zp,Zp,Zp,Zs,Zp,Zl]<|bX rfl fun aO k aP aQ aR R=>au 5 ?_
 have S:=H 0 (by have:=hgz;simp at this;omega) Al
 have hx:HF k (Dm c l.heap.size k.heap.size) (.p g[0]) (Pt r):=Q.g.up (Dm.mono Ac Ac)
 exact hD.ia rfl rfl (hH.mk b.g ⟨_,rfl,trivial,(wc (D:=Dm c l.heap.size k.heap.size) (Tk ⟨Ac,Ac⟩) R (HF.ph (Tk ⟨Ac,Ac⟩) (Gb j) (HR.c (.cons hx .nil))) (Pr.OT S) Al).up (fun _ h=>h) (fun aS aT hc=>⟨fun h=>Tu h (show ¬(Cv:ByteArray)=iL by decide),fun h=>Tu h (show ¬(Cv:ByteArray)=iL by decide),fun h=>Tu h (show ¬(Cv:ByteArray)=jn by decide)⟩)⟩)
theorem x8(l:CQ q L):km 71 (.mk CB ⟨#[]⟩ V0 [] [q] [] []) ([116,114,121,32]++bx q L) (kr (.mk CB ⟨#[]⟩ V0 [] [q] [] [])):=by
 intro m j J d hD0 o hw
 obtain⟨K,M,O,P,Q,R,S,T,U,W,X,Y,Z,aa,rfl⟩:=d.hI
 obtain⟨ab,ad,ae,af,ag,ah⟩:=d.hV
 obtain⟨ai,aj,ak,p,al,r,t,u⟩:=d.kF (i:=0) Al
 cases p
 have v:N.wt q≤1048576:=by simp only[N.wt,N.h9]at hw;omega
 have w:=kZ l
 refine cY Tryz.func71 fun b=>ac 2<|bX rfl fun am an ao ap aq c=>au 7<|lD c rfl rfl<|au 30<|lD c rfl rfl<|au 4<|lD c rfl rfl<|au 8<|bD #[Zp,Zp]<|bX rfl fun y z ar av aw f=>au 5<|lD (Gb c) rfl rfl<|iX F.iI Al rfl rfl rfl<|lA (r.fr b.g Al) t rfl ?_
 obtain⟨ax,g⟩:=nm z
 have ay:=b.g.le g
 refine cX (w _ j _ (u.fr b.g Az) (fun A hc=>Tj (hD0 A hc) b.g.size) (o.at b.g) v) ?_
 rintro _ B az a0 ⟨a1,rfl,C,a2,k,E⟩
 obtain⟨a3,G,a4⟩:=nl B
 rw[←g,←G]at k
 rw[←g]at C
 exact au 12<|sc (Gb f) rfl rfl rfl rfl fun a5 a6 a7 f=>au 5<|lD (Gb c) rfl rfl<|au 11<|bD #[.int .i64 15,Zp,Zp,Zp,Zp,Zs,Zp,Zs,Zp,Zp,Pt y,Zp,Zp,Zp,Zs,Zp,Zl]<|bX rfl fun a8 H a9 aA aB I=>au 5<|hD.ia rfl rfl (hH.mk b.g ⟨_,rfl,trivial,(xc (D:=Dm j m.heap.size H.heap.size) (Tk ⟨Ac,Ac⟩) I (HF.ph (Tk ⟨Ac,Ac⟩) (Gb f) (HR.c (.cons (k.g.up (Dm.mono Ac Ac)) (.cons .vv .nil)))) (Pr.u4 E) Al).up (fun _ h=>h) (fun aC aD hc=>⟨fun h=>Tu h (show ¬(CB:ByteArray)=iL by decide),fun h=>Tu h (show ¬(CB:ByteArray)=iL by decide),fun h=>Tu h (show ¬(CB:ByteArray)=jn by decide)⟩)⟩)
theorem yZ(t:CQ q L)(u:CQ p M):km 71 (.mk CB ⟨#[]⟩ V0 [] [q,p] [] []) ([116,114,121,32]++bx q L++[32,99,97,116,99,104,32]++bx p M) (kr (.mk CB ⟨#[]⟩ V0 [] [q,p] [] [])):=by
 intro v g ae f hD0 m hw
 obtain⟨af,ag,ah,ai,aj,ak,al,am,an,ao,ap,aq,ar,av,rfl⟩:=f.hI
 obtain⟨aw,ax,ay,az,a0,a1⟩:=f.hV
 obtain⟨a2,a3,a4,w,a5,y,z,A⟩:=f.kF (i:=0) Al
 cases w
 have B:N.wt q≤1048576:=by simp only[N.wt,N.h9]at hw;omega
 obtain⟨a6,a7,a8,C,a9,E,G,H⟩:=f.kF (i:=1) Al
 cases C
 have I:N.wt p≤1048576:=by simp only[N.wt,N.h9]at hw;omega
 have J:=kZ t
 have K:=kZ u
 refine cY Tryz.func71 fun b=>ac 2<|bX rfl fun aA aB aC aD aE c=>au 7<|lD c rfl rfl<|au 30<|lD c rfl rfl<|au 4<|lD c rfl rfl<|au 8<|bD #[Zp,Zp]<|bX rfl fun O P aF aG aH d=>au 5<|lD (Gb c) rfl rfl<|iX F.iI Al rfl rfl rfl<|lA (y.fr b.g Al) z rfl ?_
 obtain⟨aI,j⟩:=nm P
 have aJ:=b.g.le j
 refine cX (J _ g _ (A.fr b.g Az) (fun k hc=>Tj (hD0 k hc) b.g.size) (m.at b.g) B) ?_
 rintro _ Q aK aL ⟨aM,rfl,R,aN,o,S⟩
 obtain⟨aO,T,aP⟩:=nl Q
 rw[←j,←T]at o
 rw[←j]at R
 refine au 12<|sc (Gb d) rfl rfl rfl rfl fun U aQ aR W=>have d:=W;au 5<|lD (Gb c) rfl rfl<|au 10<|lD (Gb c) rfl rfl<|iX F.iI Al rfl rfl rfl<|lA (E.fr b.g Al) G rfl ?_
 obtain⟨aS,l⟩:=nm U
 have aT:=b.g.le l
 refine cX (K _ g _ (H.fr b.g Az) (fun k hc=>Tj (hD0 k hc) b.g.size) (m.at b.g) I) ?_
 rintro _ X aU aV ⟨aW,rfl,Y,aX,r,Z⟩
 obtain⟨aY,aa,aZ⟩:=nl X
 rw[←l,←aa]at r
 rw[←l]at Y
 exact au 5<|sc (Gb d) rfl rfl rfl rfl fun ba bb bc d=>au 5<|bD #[.int .i64 15,Zp,Zp,Zp,Zp,Zs,Zp,Zs,Zp,Zp,Pt O,Zp,Zp,Zp,Zs,Zp,Zl]<|bX rfl fun bd ab be bf bg ad=>au 5<|hD.ia rfl rfl (hH.mk b.g ⟨_,rfl,trivial,(xc (D:=Dm g v.heap.size ab.heap.size) (Tk ⟨Ac,Ac⟩) ad (HF.ph (Tk ⟨Ac,Ac⟩) (Gb d) (HR.c (.cons (o.g.up (Dm.mono Ac Ac)) (.cons (r.g.up (Dm.mono Ac Ac)) .nil)))) (Pr.ur S Z) Al).up (fun _ h=>h) (fun bh bi hc=>⟨fun h=>Tu h (show ¬(CB:ByteArray)=iL by decide),fun h=>Tu h (show ¬(CB:ByteArray)=iL by decide),fun h=>Tu h (show ¬(CB:ByteArray)=jn by decide)⟩)⟩)
def zk:Fd→Bool
 | .v x=>x.oneCell'
 |_=>true
theorem jV.one:∀{b:List Fd}{c:List Value},jV w D b c→b.all zk=true→c.all (·.oneCell')=true
 |[],_,h,_=>by unfold jV at h;subst h;rfl
 |f::b,c,h,d=>by
  unfold jV at h
  obtain⟨j,k,rfl,h1,h2⟩:=h
  simp only[Vw,Tx]at d⊢
  refine⟨?_,jV.one h2 d.2⟩
  cases f with
  |v x=>unfold HF at h1;subst h1;exact d.1
  |p m=>unfold HF at h1;obtain⟨o,q,r,rfl,_⟩:=h1;rfl
  |l t=>unfold HF at h1;obtain⟨a,g,rfl,_⟩:=h1;rfl
  |s ks=>unfold HF at h1;obtain⟨a,g,rfl,_⟩:=h1;rfl
theorem sO{p:List Fd}(h:Pr 1 (.mk (p++[.l gA])) L):∃(h0:List UInt8)(o:List (Bool×List UInt8)),L=o.foldl ib h0∧(∀s∈o,s.2≠[])∧gA.length=o.length∧(∀(i:Nat)(h1:i<gA.length)(h2:i<o.length),Pr (cond o[i].1 20 11) gA[i] o[i].2)∧p.all zk=true∧
  ∀(k:List G)(j:List (Bool×List UInt8)),(∀s∈j,s.2≠[])→k.length=j.length→(∀(i:Nat)(h1:i<k.length)(h2:i<j.length),Pr (cond j[i].1 20 11) k[i] j[i].2)→Pr 1 (.mk (p++[.l k])) (j.foldl ib h0):=by
 generalize b:G.mk (p++[.l gA])=r at h
 generalize hk:(1:Nat)=t at h
 cases h with
 |NM c d hs=>injection b with b;obtain⟨rfl,hl⟩:=T7 b rfl;injection hl with hl _;injection hl with hl;subst hl;exact⟨_,_,rfl,c,d,hs,rfl,fun k j a f g=>Pr.NM a f g⟩
 |Hm c d hs=>injection b with b;obtain⟨rfl,hl⟩:=T7 b rfl;injection hl with hl _;injection hl with hl;subst hl;exact⟨_,_,rfl,c,d,hs,rfl,fun k j a f g=>Pr.Hm a f g⟩
 |wU c d hs=>injection b with b;obtain⟨rfl,hl⟩:=T7 b rfl;injection hl with hl _;injection hl with hl;subst hl;exact⟨_,_,rfl,c,d,hs,rfl,fun k j a f g=>Pr.wU a f g⟩
 |xI c d hs=>injection b with b;obtain⟨rfl,hl⟩:=T7 b rfl;injection hl with hl _;injection hl with hl;subst hl;exact⟨_,_,rfl,c,d,hs,rfl,fun k j a f g=>Pr.xI a f g⟩
 |sH c d hs=>injection b with b;obtain⟨rfl,hl⟩:=T7 b rfl;injection hl with hl _;injection hl with hl;subst hl;exact⟨_,_,rfl,c,d,hs,rfl,fun k j a f g=>Pr.sH a f g⟩
 |NK c d hs l m=>injection b with b;obtain⟨rfl,hl⟩:=T7 b rfl;injection hl with hl _;injection hl with hl;subst hl;exact⟨_,_,rfl,c,d,hs,rfl,fun k j a f g=>Pr.NK a f g l m⟩
 |NZ c d hs l m=>injection b with b;obtain⟨rfl,hl⟩:=T7 b rfl;injection hl with hl _;injection hl with hl;subst hl;exact⟨_,_,rfl,c,d,hs,rfl,fun k j a f g=>Pr.NZ a f g l m⟩
 |NI c d hs l m=>injection b with b;obtain⟨rfl,hl⟩:=T7 b rfl;injection hl with hl _;injection hl with hl;subst hl;exact⟨_,_,rfl,c,d,hs,rfl,fun k j a f g=>Pr.NI a f g l m⟩
 |N2 c d hs l m=>injection b with b;obtain⟨rfl,hl⟩:=T7 b rfl;injection hl with hl _;injection hl with hl;subst hl;exact⟨_,_,rfl,c,d,hs,rfl,fun k j a f g=>Pr.N2 a f g l m⟩
 |NQ c d hs l m=>injection b with b;obtain⟨rfl,hl⟩:=T7 b rfl;injection hl with hl _;injection hl with hl;subst hl;exact⟨_,_,rfl,c,d,hs,rfl,fun k j a f g=>Pr.NQ a f g l m⟩
 |Nj c d hs l m=>injection b with b;obtain⟨rfl,hl⟩:=T7 b rfl;injection hl with hl _;injection hl with hl;subst hl;exact⟨_,_,rfl,c,d,hs,rfl,fun k j a f g=>Pr.Nj a f g l m⟩
 |NR c d hs l m=>injection b with b;obtain⟨rfl,hl⟩:=T7 b rfl;injection hl with hl _;injection hl with hl;subst hl;exact⟨_,_,rfl,c,d,hs,rfl,fun k j a f g=>Pr.NR a f g l m⟩
 |GP c d hs l m=>injection b with b;obtain⟨rfl,hl⟩:=T7 b rfl;injection hl with hl _;injection hl with hl;subst hl;exact⟨_,_,rfl,c,d,hs,rfl,fun k j a f g=>Pr.GP a f g l m⟩
 |Ho c d hs l m=>injection b with b;obtain⟨rfl,hl⟩:=T7 b rfl;injection hl with hl _;injection hl with hl;subst hl;exact⟨_,_,rfl,c,d,hs,rfl,fun k j a f g=>Pr.Ho a f g l m⟩
 |G3 c d hs l m=>injection b with b;obtain⟨rfl,hl⟩:=T7 b rfl;injection hl with hl _;injection hl with hl;subst hl;exact⟨_,_,rfl,c,d,hs,rfl,fun k j a f g=>Pr.G3 a f g l m⟩
 |Hl c d hs l m=>injection b with b;obtain⟨rfl,hl⟩:=T7 b rfl;injection hl with hl _;injection hl with hl;subst hl;exact⟨_,_,rfl,c,d,hs,rfl,fun k j a f g=>Pr.Hl a f g l m⟩
 |FF c d hs l=>injection b with b;obtain⟨rfl,hl⟩:=T7 b rfl;injection hl with hl _;injection hl with hl;subst hl;exact⟨_,_,rfl,c,d,hs,rfl,fun k j a f g=>Pr.FF a f g l⟩
 |Hi c d hs l=>injection b with b;obtain⟨rfl,hl⟩:=T7 b rfl;injection hl with hl _;injection hl with hl;subst hl;exact⟨_,_,rfl,c,d,hs,rfl,fun k j a f g=>Pr.Hi a f g l⟩
 |FA c d hs m=>injection b with b;obtain⟨rfl,hl⟩:=T7 b rfl;injection hl with hl _;injection hl with hl;subst hl;exact⟨_,_,rfl,c,d,hs,rfl,fun k j a f g=>Pr.FA a f g m⟩
 |Fv c d hs=>injection b with b;obtain⟨rfl,hl⟩:=T7 b rfl;injection hl with hl _;injection hl with hl;subst hl;exact⟨_,_,rfl,c,d,hs,rfl,fun k j a f g=>Pr.Fv a f g⟩
 |hQ c d hs q=>injection b with b;obtain⟨rfl,hl⟩:=T7 b rfl;injection hl with hl _;injection hl with hl;subst hl;exact⟨_,_,rfl,c,d,hs,rfl,fun k j a f g=>Pr.hQ a f g q⟩
 |_=>cases hk
theorem Pr.Ow{b:List Fd}{gs:List G}(h:Pr 1 (.mk (b++[.l gs])) M)(hu:L≠[])(hs:Pr (cond bA 20 11) gH L):Pr 1 (.mk (b++[.l (gs++[gH])])) (ib M (bA,L)):=by
 obtain⟨h0,c,rfl,h1,h2,f,_,g⟩:=sO h
 have:=g (gs++[gH]) (c++[(bA,L)]) (fun s hs=>by rcases Uc.1 hs with hs|hs;exact h1 s hs;rw[Tt.1 hs];exact hu) (by simp[h2]) (fun i j l=>by
  by_cases hi:i<gs.length
  ·have d:i<c.length:=by omega
   rw[TC hi,TC d];exact f i hi d
  have k:i=gs.length:=by simp only[Tl,TG]at j;omega
  subst k
  rw[Tz (Tv _),Tz Ac]
  simp only[h2,UF,TF]
  exact hs)
 rw[VV]at this
 exact this
theorem Pr.O2{b:List Fd}{gs:List G}(h:Pr 1 (.mk (b++[.l gs])) L):gs.length≤L.length:=by
 obtain⟨h0,c,rfl,h1,h2,d,_,f⟩:=sO h
 have:=pC c h0 h1
 omega
theorem Pr.Kx{b:List Fd}{gs:List G}(h:Pr 1 (.mk (b++[.l gs])) L):b.all zk=true:=by
 obtain⟨h0,d,rfl,h1,h2,f,c,g⟩:=sO h
 exact c
theorem HR.last{w':World}{D':Nat→Prop}{b:List Fd}{gs':List G}{v:Value}(h:HR w D (.mk (b++[.l gA])) c)(j:∀d,jV w D b d→jV w' D' b d)(k:HF w' D' (.l gs') v):HR w' D' (.mk (b++[.l gs'])) (c.setIfInBounds b.length v):=by
 obtain⟨f,l,e,h1,h2⟩:=jV.app.1 h.Ko
 unfold jV at h2
 obtain⟨m,o,rfl,p,g⟩:=h2
 unfold jV at g;subst g
 have hl:=jV.len h1
 have:(c.setIfInBounds b.length v).toList=f++[v]:=by
  rw[VR,e,←hl];simp
 unfold HR
 rw[this]
 exact jV.app.2 ⟨f,[v],rfl,j _ h1,.cons k .nil⟩
theorem HR.zK{b:List Fd}(h:HR w D (.mk (b++[.l gA])) c)(d:Pr 1 (.mk (b++[.l gA])) L):c.all (·.oneCell')=true:=by
 have:=jV.one h.Ko (by rw[List.all_append,d.Kx];rfl)
 simpa using this
def ld(w:World)(a:Option Addr)(i:Nat):Array Value:=match a with
 |some ad=>#[(w.cell? ⟨ad.block,ad.off+i,none⟩).getD (.pointer none)]
 |none=>#[.pointer none]
theorem HL.zb{a:Option Addr}(h:HL w D a 0 gA):(∀i,i<gA.length→∃b c,a=some ⟨b,c,none⟩∧hB w b (c+i*1) (ld w a i)∧(ld w a i).size=1∧(ld w a i).all (·.oneCell')=true)∧
  ∀(i:Nat)(hi:i<gA.length),∃o,ld w a i=#[o]∧HF w D (.p gA[i]) o:=by
 have p:∀(i:Nat)(hi:i<gA.length),∃b c f j g,a=some ⟨b,c,none⟩∧w.cell? ⟨b,c+i*1,none⟩=some (Pt f)∧ld w a i=#[Pt f]∧D f∧w.heap[f]? =some (.cells g j (0,0))∧HR w D gA[i] g:=fun i hi=>by
  obtain⟨b,c,f,j,g,rfl,h2,d,k,l,m⟩:=h.kH hi
  refine⟨b,c,f,j,g,rfl,d,?_,k,l,m⟩
  rw[Vl]at d
  simp[ld,d]
 refine⟨fun i hi=>?_,fun i hi=>?_⟩
 ·obtain⟨b,c,f,j,g,h1,h2,d,_⟩:=p i hi
  refine⟨b,c,h1,?_,by rw[d];rfl,by rw[d];simp[Value.oneCell']⟩
  rw[d]
  intro q hj
  have:q<1:=hj
  obtain rfl:q=0:=by omega
  rw[Va,h2];rfl
 obtain⟨b,c,f,j,g,h1,h2,d,k,l,m⟩:=p i hi
 exact⟨_,d,.ph k l m⟩
def Sx(w:World)(D:Nat→Prop)(b bi:Nat)(x:G)(d:Bool)(s:List UInt8):Prop:=
 D b∧w.heap[b]? =some (.cells #[Pt bi,.bool false,.bool false] 171 (0,0))∧HF w D (.p x) (Pt bi)∧Pr 21 x (46::s)∧Pr (cond d 20 11) (.mk [.p x,.v (.bool false),.v (.bool false)]) (if d then 46::s else s)
theorem Sx.fr{x:G}{s:List UInt8}(h:Sx w D m k x bA s)(b:Fr R w W)(hs:∀c,D c→c∉R):Sx W D m k x bA s:=⟨h.1,b.hO h.2.1 (hs _ h.1),h.2.2.1.fr b hs,h.2.2.2⟩
theorem Sx.g{x:G}{s:List UInt8}(h:Sx w D m k x bA s)(b:Sx w D m k x bA s→Sx W D m k x bA s:=by exact Gq):Sx W D m k x bA s:=b h
theorem Sx.up{D':Nat→Prop}{x:G}{s:List UInt8}(h:Sx w D m k x bA s)(b:∀c,D c→D' c):Sx w D' m k x bA s:=⟨b _ h.1,h.2.1,h.2.2.1.up b,h.2.2.2⟩
def Sy(w:World)(D:Nat→Prop)(b:Nat)(it op:Bool)(s:List UInt8):Prop:=
 D b∧w.heap[b]? =some (.cells #[Zp,.bool it,.bool op] 171 (0,0))∧Pr 11 (.mk [nP,.v (.bool it),.v (.bool op)]) s
theorem Sy.fr{s:List UInt8}(h:Sy w D m bA bB s)(c:Fr R w W)(hs:∀b,D b→b∉R):Sy W D m bA bB s:=⟨h.1,c.hO h.2.1 (hs _ h.1),h.2.2⟩
theorem Sy.g{s:List UInt8}(h:Sy w D m bA bB s)(b:Sy w D m bA bB s→Sy W D m bA bB s:=by exact Gq):Sy W D m bA bB s:=b h
theorem Sy.up{D':Nat→Prop}{s:List UInt8}(h:Sy w D m bA bB s)(c:∀b,D b→D' b):Sy w D' m bA bB s:=⟨c _ h.1,h.2.1,h.2.2⟩
def Ft(n:N)(d:Bool)(s:List UInt8):Prop:=∀(w:World)(D0:Nat→Prop)(cs:Array Value),RN w D0 0 n cs→(∀c,D0 c→c<w.heap.size)→TB w→n.wt≤1048576→
 Calls Tryz.prog 97 #[.agg cs] w (hH w [] fun r w'=>∃b bi x,r=.tuple #[Pt b,.bool true]∧Sx w' (Dm D0 w.heap.size w'.heap.size) b bi x d s)
def N1(n:N)(it op:Bool)(s:List UInt8):Prop:=∀(w:World)(D0:Nat→Prop)(cs:Array Value),RN w D0 0 n cs→(∀c,D0 c→c<w.heap.size)→TB w→n.wt≤1048576→
 Calls Tryz.prog 97 #[.agg cs] w (hH w [] fun r w'=>∃b,r=.tuple #[Pt b,.bool true]∧Sy w' (Dm D0 w.heap.size w'.heap.size) b it op s)
end Go.Proofs.YtlojelcoibpphaaGreatDoor
