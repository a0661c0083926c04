/- FnQueryText, second form: own texts, joined and made short by a program (part 1): for every argument of bulk at most 1048576 the law answers true. -/
import Derived.Test.YtlojelcoibpphaaGreatDoorMx00
import Derived.WalkKit
import Derived.Test.YtlojelcoibpphaaGreatDoorRows
import Derived.Deep.Quiet
import Derived.Deep.LoopGhost
import Derived.StillTail
import Derived.Laws.FloatArith
import Derived.Laws.MakeOwn
import Derived.Deep.OwnRows
import Derived.Laws.Slices
import Derived.Laws.Strings2
import Derived.Stop.Asserts
import Derived.Laws.IdiomStrings
import Derived.Laws.Cover4
import Derived.Great.BuildSlice
import Derived.Laws.AppendOwn
import Derived.Maps.RangeRun
import Derived.OrdersHeld
import Derived.Deep.RegionHeld3
set_option maxRecDepth 100000
set_option maxHeartbeats 2000000
set_option linter.unusedVariables false
set_option linter.unusedSimpArgs false
set_option linter.unusedSectionVars false
set_option linter.defProp false
namespace Go.Proofs.YtlojelcoibpphaaGreatDoor
open Go
theorem Aa{p:Prop}(h:p:=by first|omega|exact hlen|(simp only[Tl,To,Tw]at hlen⊢;omega)):p:=h
theorem Ab{p:Prop}(h:p:=by intro c hc;first|(have h1:=hc.1;have h2:=hc.2.1;have h3:=hc.2.2;right;refine⟨by omega,by omega,?_⟩;simp only[Tr,Tp,TD,U9]at h3⊢;omega)|(rcases hc with hc|hc;exact Ts hc;right;have h1:=hc.1;have h2:=hc.2.1;have h3:=hc.2.2;refine⟨by omega,by omega,?_⟩;simp only[Tr,Tp,TD,U9]at h3⊢;omega)):p:=h
theorem Ac{p:Prop}(h:p:=by omega):p:=h
theorem Ad{p:Prop}(h:p:=by intro c hc;(have h1:=hc.1;have h2:=hc.2;refine⟨by omega,by omega,?_⟩;simp only[Tr,Tp,TD,U9];omega)):p:=h
theorem Ae{p:Prop}(h:p:=by first|decide|omega|(simp only[Tl,To,Tw];omega)):p:=h
theorem Af{p:Prop}(h:p:=by intro c hc;have h1:=hc.1;have h2:=hc.2.1;have h3:=hc.2.2;refine⟨by omega,by omega,?_⟩;simp only[Tr,Tp,TD,U9]at h3⊢;omega):p:=h
theorem Ag{p:Prop}(h:p:=by intro c hc;simp only[Tr,Tp,TD]at hc;rcases hc with rfl;exact RN.hA (by assumption)):p:=h
theorem Ah{p:Prop}(h:p:=by decide):p:=h
theorem Ai{p:Prop}(h:p:=by intro c hc;obtain⟨h1,h2,h3⟩:=hc;simp only[Tr,Tp,TD,U9]at h3;refine⟨by omega,by omega,by omega,by(try dsimp only);omega⟩):p:=h
theorem Aj{p:Prop}(h:p:=by intro x hx;simp only[Tr,Tp,TD]at hx;omega):p:=h
theorem Ak{p:Prop}(h:p:=by first|omega|exact hlen|(simp only[Tl,To,Tw]at hlen hfl⊢;omega)|(simp only[Tl,To,Tw]at hfl⊢;omega)):p:=h
theorem Al{p:Prop}(h:p:=by simp):p:=h
theorem Am{p:Prop}(h:p:=by first|omega|(simp only[Tl,To,Tw]at hlen hge⊢;omega)|(simp only[Tl,To,Tw]at hlen⊢;omega)):p:=h
theorem Ao{p:Prop}(h:p:=by first|exact hnd|exact pd (by decide) (by decide)):p:=h
theorem Ap{p:Prop}(h:p:=by first|decide|omega):p:=h
theorem Aq{p:Prop}(h:p:=by intro c hc;simp only[Tr,Tp,TD]at hc;rcases hc with rfl;exact RN.one (by assumption)):p:=h
theorem Ar{p:Prop}(h:p:=by refine⟨by omega,by omega,?_⟩;simp only[Tr,Tp,TD,U9];omega):p:=h
theorem As{p:Prop}(h:p:=by(try dsimp only);omega):p:=h
theorem Au{p:Prop}(h:p:=by kernel_rfl):p:=h
theorem Av{p:Prop}(h:p:=by intro c hc;obtain⟨h1,h2,h3⟩:=hc;(try dsimp only at h3);refine⟨by omega,by omega,?_⟩;simp only[Tr,Tp,TD,U9];omega):p:=h
theorem Aw{p:Prop}(h:p:=by intro c hc;rcases hc with hc|hc;exact Ts hc;right;exact⟨by have:=hc.1;omega,by have:=hc.2.1;omega⟩):p:=h
theorem Ax{p:Prop}(h:p:=by simp only[Tr,Tp,TD,U9];omega):p:=h
theorem Ay{p:Prop}(h:p:=by right;refine⟨by omega,by omega,?_⟩;simp only[Tr,Tp,TD,U9];omega):p:=h
theorem Az{p:Prop}(h:p:=by intro c hc;simp):p:=h
theorem AA{p:Prop}(h:p:=by intro c hc;obtain⟨h1,h2,h3⟩:=hc;simp only[Tr,Tp,TD,U9]at h3;refine⟨⟨by omega,by omega,by(try dsimp only);omega⟩,by omega⟩):p:=h
theorem AB{p:Prop}(h:p:=by first|omega|(simp only[Tl,To,Tw]at hlen hge⊢;omega)):p:=h
theorem AC{p:Prop}(h:p:=by intro c hc;rcases hc with hc|hc;(have h1:=hc.1;have h2:=hc.2.1;have h3:=hc.2.2;refine⟨by omega,by omega,?_⟩;simp only[Tr,Tp,TD,U9]at h3⊢;omega);(have h1:=hc.1;have h2:=hc.2;refine⟨by omega,by omega,?_⟩;simp only[Tr,Tp,TD,U9];omega)):p:=h
theorem AD{p:Prop}(h:p:=by intro c hc;right;(have h1:=hc.1;have h2:=hc.2;refine⟨by omega,by omega,?_⟩;simp only[Tr,Tp,TD,U9];omega)):p:=h
theorem AE{p:Prop}(h:p:=by first|exact hL|exact hL.down (fun c h=>h.imp id (fun h=>by simp only[Tr,Tp,TD]at h⊢;omega)) (Tv _)):p:=h
theorem AF{p:Prop}(h:p:=by rw[o3 _ hit];first|(rw[TI (by omega)];simp)|(rw[TU (by omega)];simp[ih,show i=0 by omega])):p:=h
theorem AG{p:Prop}(h:p:=by first|omega|(simp only[Tl,To,Tw];omega)):p:=h
theorem AH{p:Prop}(h:p:=by first|exact hnd|exact pd (by decide) (by decide)|exact vM hnd _):p:=h
theorem AK{p:Prop}(h:p:=by simp only[Tr,Tp,TD];omega):p:=h
theorem AL{p:Prop}(h:p:=by simp only[iz];decide):p:=h
theorem AM{p:Prop}(h:p:=by simp only[To];omega):p:=h
theorem AO{p:Prop}(h:p:=by intro x hx;simp<;>omega):p:=h
theorem AP{p:Prop}(h:p:=by first|(intro c hc;simp;done)|(intro c hc hm;rcases Tt.1 hm with rfl;rcases hc with hc|hc;(have:=hD0 _ hc;omega);omega)):p:=h
theorem AQ{p:Prop}(h:p:=by simp[Value.oneCell']):p:=h
theorem AR{p:Prop}(h:p:=by rw[sS e];decide):p:=h
theorem AU{p:Prop}(h:p:=by simpa using h):p:=h
theorem AV{p:Prop}(h:p:=by intro c hc hm;simp at hm):p:=h
theorem AW{p:Prop}(h:p:=by simpa using h1):p:=h
theorem AY{p:Prop}(h:p:=by intro i hi;simp only[Tr,Tt,Tp,TD]at hi;rcases hi with rfl|rfl;all_goals(first|(left;simp;done)|(right;omega))):p:=h
theorem AZ{p:Prop}(h:p:=by first|rfl|(rw[Vk];done)|(rw[Vk];congr 1;omega)):p:=h
theorem A0{p:Prop}(h:p:=by rw[show(⟨#[36]⟩:ByteArray).size=1 from rfl];omega):p:=h
theorem A1{p:Prop}(h:p:=by first|omega|(simp;omega)):p:=h
theorem A2{p:Prop}(h:p:=by first|omega|(simp only[Tl,TG];omega)):p:=h
theorem A3{p:Prop}(h:p:=by simpa using hi):p:=h
theorem A4{p:Prop}(h:p:=by simpa using h2):p:=h
theorem A5{p:Prop}(h:p:=by obtain⟨h1,h2,h3⟩:=hc;(try dsimp only);omega):p:=h
theorem A6{p:Prop}(h:p:=by intro c hc;obtain⟨h1,h2,h3⟩:=hc;simp only[Tr,Tp,TD,U9]at h3;refine⟨by omega,by omega,?_⟩;simp only[Tr,Tp,TD,U9];omega):p:=h
theorem A7{p:Prop}(h:p:=by intro c hc;simp only[Tt];omega):p:=h
theorem A8{p:Prop}(h:p:=by first|exact Tk (by omega)|exact Ts (by simp)):p:=h
theorem A9{p:Prop}(h:p:=by have:=hlo' x hx;omega):p:=h
theorem Ba{p:Prop}(h:p:=by first|(intro c hc;simp;done)|exact Dm.mZ hD0 (by omega) (by omega)):p:=h
theorem Bb{p:Prop}(h:p:=by have:=N.iP h1;omega):p:=h
theorem Bc{p:Prop}(h:p:=by unfold Func.isWrapper;first|(rw[TU (by decide+kernel)];kernel_rfl)|(rw[TI (by decide+kernel)];exact⟨rfl,rfl⟩)):p:=h
theorem Bd{p:Prop}(h:p:=by simp only[Tl,To,Tw]at hlen hge⊢;omega):p:=h
theorem Be{p:Prop}(h:p:=by rw[iH];omega):p:=h
theorem Bg{p:Prop}(h:p:=by first|(left;omega)|(right;exact⟨by omega,by omega,by omega,by omega⟩)):p:=h
theorem Bh{p:Prop}(h:p:=by rw[wi hit];first|(rw[TI (by omega)];simp)|(rw[TU (by omega)];simp[iR,show i=0 by omega])):p:=h
theorem Bi{p:Prop}(h:p:=by show ks.length - (i+1)<ks.length - i;omega):p:=h
theorem Bj{p:Prop}(h:p:=by first|(simp;done)|(simp;omega)):p:=h
theorem Bk{p:Prop}(h:p:=by simp[y6]):p:=h
theorem Bl{p:Prop}(h:p:=by have:=yg n;omega):p:=h
theorem Bm{p:Prop}(h:p:=by simp only[Tl,To,Tw];omega):p:=h
theorem Bn{p:Prop}(h:p:=by simp only[To]at h1;omega):p:=h
theorem Bo{p:Prop}(h:p:=by simpa using hl):p:=h
theorem Bp{p:Prop}(h:p:=by have:=Ix s.data.toList;have e:=hK ⟨(qL s.data.toList).toArray⟩;simp at e;omega):p:=h
theorem Bq{p:Prop}(h:p:=by simp only[Tt];omega):p:=h
theorem Br{p:Prop}(h:p:=by simpa[ji]using ht):p:=h
theorem Bs{p:Prop}(h:p:=by simp only[To,Tw]at h⊢;omega):p:=h
theorem Bt{p:Prop}(h:p:=by simp only[To,Tw]at hkc;omega):p:=h
theorem Bu{p:Prop}(h:p:=by have:=N.iw ks;omega):p:=h
theorem Bv{p:Prop}(h:p:=by rw[wE _ hit];simp):p:=h
theorem Bw{p:Prop}(h:p:=by exact Th (by omega)):p:=h
theorem Bx{p:Prop}(h:p:=by simp only[maxLen];omega):p:=h
theorem Bz{p:Prop}(h:p:=by rw[hby];exact growslice_fits (by omega) (by omega)):p:=h
theorem BA{p:Prop}(h:p:=by have:=(s[a+i]).toNat_lt;show _<2^64;omega):p:=h
theorem BB{p:Prop}(h:p:=by intro b h1 h2 h3;(try dsimp only at h3⊢);omega):p:=h
theorem BC{p:Prop}(h:p:=by show Value.int _ _=Value.int _ _;congr 1;omega):p:=h
theorem BD{p:Prop}(h:p:=by have:=hs.pn.1 (by decide);have:=hs.p1.resolve_left (by decide);omega):p:=h
theorem BF{p:Prop}(h:p:=by rw[Ud];omega):p:=h
theorem BG{p:Prop}(h:p:=by show ps.length - (i+1)<ps.length - i;omega):p:=h
theorem BH{p:Prop}(h:p:=by rw[hbs];decide):p:=h
theorem BI{p:Prop}(h:p:=by simp[z8]):p:=h
theorem BK{p:Prop}(h:p:=by rw[Tr];right;rw[hF,←h];exact hF.1 hi):p:=h
theorem BM{p:Prop}(h:p:=by rw[Dg];exact(by decide:kU≠lP)):p:=h
theorem BN{p:Prop}(h:p:=by rw[hgz,hl];exact UJ.2 h0):p:=h
theorem BO{p:Prop}(h:p:=by simp only[N.wt]at hw;show _≤_;omega):p:=h
theorem BP{p:Prop}(h:p:=by rw[hc.1];decide):p:=h
theorem BQ{p:Prop}(h:p:=by simp only[To]at h2;omega):p:=h
theorem BR{p:Prop}(h:p:=by show _≤_;omega):p:=h
theorem BT{p:Prop}(h:p:=by rw[show(⟨#[47]⟩:ByteArray).size=1 from rfl];omega):p:=h
theorem BU{p:Prop}(h:p:=by have:=so (oE hs);simp[this]):p:=h
theorem BV{p:Prop}(h:p:=by rw[Ul (by omega)];exact hL):p:=h
theorem BW{p:Prop}(h:p:=by show Rows.uptoBulk d3[i]≤_;omega):p:=h
theorem BX{p:Prop}(h:p:=by simp only[Tl];omega):p:=h
theorem BZ{p:Prop}(h:p:=by simp only[N.wt,N.h9,V.wt]at hw;show _≤_;omega):p:=h
theorem B0{p:Prop}(h:p:=by simp[execOp,resolve,Go.invoke,builtin,hs,hx,hrun]):p:=h
theorem B1{p:Prop}(h:p:=by simpa using hj):p:=h
theorem B3{p:Prop}(h:p:=by first|omega|simp):p:=h
theorem B5{p:Prop}(h:p:=by simp only[N.wt,N.h9]at hw;show _≤_;omega):p:=h
theorem B6{p:Prop}(h:p:=by decide+kernel):p:=h
theorem B7{p:Prop}(h:p:=by rw[hw0];simp):p:=h
theorem B8{p:Prop}(h:p:=by rw[iH]at hle01;omega):p:=h
theorem Ca{p:Prop}(h:p:=by rw[hsize];simpa using hxl):p:=h
theorem Cb{p:Prop}(h:p:=by rw[hgz];omega):p:=h
theorem Cc{p:Prop}(h:p:=by rw[h];simp):p:=h
theorem Cd{p:Prop}(h:p:=by simpa using hk):p:=h
theorem Ce{p:Prop}(h:p:=by cases q35<;>rfl):p:=h
theorem Cf{p:Prop}(h:p:=by simp[ib,hdt]):p:=h
theorem Cg{p:Prop}(h:p:=by rw[hu];decide):p:=h
theorem Ci{p:Prop}(h:p:=by simp[hx]):p:=h
theorem Cj{p:Prop}(h:p:=by simp[ih]):p:=h
theorem oX{p:Prop}(h:p:=by exact fun c hc=>⟨by have:=hc.1;omega,by have:=hc.2.1;omega⟩):p:=h
theorem oZ{p:Prop}(h:p:=by exact fun c hc=>hc.imp id (fun hc=>⟨by omega,by omega⟩)):p:=h
theorem oW{p:Prop}(h:p:=by exact fun i h=>by simp at h):p:=h
theorem oV{p:Prop}(h:p:=by exact fun h=>by subst h;rfl):p:=h
abbrev Zl:Value:=.slice none 0 0
abbrev Zp:Value:=.pointer none
abbrev Zs:Value:=.string ⟨#[]⟩
abbrev Zi:Value:=.int .i64 0
abbrev Pt(b:Nat):Value:=.pointer (some ⟨b,0,none⟩)
abbrev Ck:ByteArray:=⟨#[102,111,114,101,97,99,104]⟩
abbrev Cm:ByteArray:=⟨#[111,98,106,101,99,116]⟩
abbrev Cn:ByteArray:=⟨#[110,111,110,101]⟩
abbrev Co:ByteArray:=⟨#[115,108,105,99,101]⟩
abbrev Cp:ByteArray:=⟨#[116,101,120,116]⟩
abbrev Cr:ByteArray:=⟨#[118,97,108]⟩
abbrev Cs:ByteArray:=⟨#[100,101,102]⟩
abbrev Ct:ByteArray:=⟨#[114,101,100,117,99,101]⟩
abbrev Cu:ByteArray:=⟨#[102,105,101,108,100]⟩
abbrev Cv:ByteArray:=⟨#[108,105,115,116]⟩
abbrev Cw:ByteArray:=⟨#[99,97,108,108]⟩
abbrev Cx:ByteArray:=⟨#[36]⟩
abbrev Cy:ByteArray:=⟨#[97,115]⟩
abbrev Cz:ByteArray:=⟨#[102,111,114,109,97,116]⟩
abbrev CA:ByteArray:=⟨#[105,102]⟩
abbrev CB:ByteArray:=⟨#[116,114,121]⟩
abbrev CC:ByteArray:=⟨#[98,114,101,97,107]⟩
abbrev CD:ByteArray:=⟨#[108,97,98,101,108]⟩
abbrev CE:ByteArray:=⟨#[46]⟩
abbrev CF:ByteArray:=⟨#[105,110,100,101,120]⟩
abbrev CG:ByteArray:=⟨#[110,101,103]⟩
abbrev CH:ByteArray:=⟨#[63]⟩
abbrev CI:ByteArray:=⟨#[124]⟩
abbrev CJ:ByteArray:=⟨#[123]⟩
abbrev CK:ByteArray:=⟨#[101,97,99,104]⟩
abbrev CL:ByteArray:=⟨#[46,46]⟩
abbrev CM:ByteArray:=⟨#[44]⟩
abbrev CN:ByteArray:=⟨#[91]⟩
abbrev CO:ByteArray:=⟨#[47]⟩
abbrev CP:ByteArray:=⟨#[46,91,93,40,41,123,125,124,44,58,59,61,43,45,42,47,37,60,62,63]⟩
abbrev CR:ByteArray:=⟨#[93]⟩
abbrev CS:ByteArray:=⟨#[101,108,115,101]⟩
abbrev CU:ByteArray:=⟨#[116,104,101,110]⟩
abbrev CV:ByteArray:=⟨#[40]⟩
abbrev CW:ByteArray:=⟨#[101,110,100]⟩
abbrev CX:ByteArray:=⟨#[110,117,109]⟩
abbrev CY:ByteArray:=⟨#[47,47]⟩
abbrev CZ:ByteArray:=⟨#[48,49,50,51,52,53,54,55,56,57,97,98,99,100,101,102]⟩
abbrev C0:ByteArray:=⟨#[99,97,116,99,104]⟩
abbrev C1:ByteArray:=⟨#[58]⟩
abbrev C2:ByteArray:=⟨#[105,110,99,108,117,100,101]⟩
abbrev C3:ByteArray:=⟨#[125]⟩
abbrev C4:ByteArray:=⟨#[105,109,112,111,114,116]⟩
abbrev C5:ByteArray:=⟨#[45]⟩
abbrev C6:ByteArray:=⟨#[101,108,105,102]⟩
abbrev C7:ByteArray:=⟨#[97,110,100]⟩
abbrev C8:ByteArray:=⟨#[102,97,108,115,101]⟩
abbrev C9:ByteArray:=⟨#[41]⟩
abbrev Ea:ByteArray:=⟨#[111,114]⟩
abbrev Eb:ByteArray:=⟨#[110,117,108,108]⟩
abbrev Ec:ByteArray:=⟨#[116,114,117,101]⟩
abbrev Ed:ByteArray:=⟨#[59]⟩
theorem Gq{p q:Prop}(g:p→q:=by intro h;first|((repeat(first|replace h:=Sp.b0 (by assumption) h|replace h:=Sp.b1 (by assumption) h (by omega)|replace h:=Fr.jP h (Sp.f (by assumption))|replace h:=Fr.tr h (Sp.f (by assumption))|replace h:=Fr.oR h (Sp.f (by assumption)) (by omega)|replace h:=Fr.Ls h (Sp.f (by assumption)) (by simp)|replace h:=FB.tr h (Sp.f (by assumption))|replace h:=FB.hO (Sp.f (by assumption)) h (by omega)|replace h:=FB.kp (Sp.f (by assumption)) h (by omega) (by assumption)|replace h:=ij.fb h (Sp.f (by assumption)) (by omega)|replace h:=h.k9 (Sp.f (by assumption))|replace h:=h.n6 (Sp.f (by assumption)) (by first|omega|((try dsimp only);omega))|replace h:=h.PB (Sp.f (by assumption)) (by first|omega|(simp;done))|replace h:=h.Q1 (Sp.f (by assumption)) (by intro h;have:=hD0 _ h;omega) (by first|omega|(simp;done))|replace h:=Sp.b2 (by assumption) h (by first|(simp;done)|(simp only[Tr,Tp,TD,U9];omega))|replace h:=Sp.c2 (by assumption) h (by first|(simp;done)|(simp;omega)|exact Dm.mZ hD0 (by omega) (by omega) _ (by assumption))|replace h:=h.fr (Sp.f (by assumption)) (by first|(simp;done)|(intro c hc;simp;done)|exact Dm.mZ hD0 (by omega) (by omega)|(intro x hx;simp<;>omega)|(intro b hb;simp only[Tt]at hb;subst hb;exact⟨fun hd=>by have:=hD0 _ hd;omega,by omega⟩))));exact h)|((repeat(first|exact h|replace h:=Sp.b0 (by assumption) h|replace h:=Sp.b1 (by assumption) h (by omega)|replace h:=Fr.jP h (Sp.f (by assumption))|replace h:=Fr.tr h (Sp.f (by assumption))|replace h:=Fr.oR h (Sp.f (by assumption)) (by omega)|replace h:=Fr.Ls h (Sp.f (by assumption)) (by simp)|replace h:=FB.tr h (Sp.f (by assumption))|replace h:=FB.hO (Sp.f (by assumption)) h (by omega)|replace h:=FB.kp (Sp.f (by assumption)) h (by omega) (by assumption)|replace h:=ij.fb h (Sp.f (by assumption)) (by omega)|replace h:=h.k9 (Sp.f (by assumption))|replace h:=h.n6 (Sp.f (by assumption)) (by first|omega|((try dsimp only);omega))|replace h:=h.PB (Sp.f (by assumption)) (by first|omega|(simp;done))|replace h:=h.Q1 (Sp.f (by assumption)) (by intro h;have:=hD0 _ h;omega) (by first|omega|(simp;done))|replace h:=Sp.b2 (by assumption) h (by first|(simp;done)|(simp only[Tr,Tp,TD,U9];omega))|replace h:=Sp.c2 (by assumption) h (by first|(simp;done)|(simp;omega)|exact Dm.mZ hD0 (by omega) (by omega) _ (by assumption))|replace h:=h.fr (Sp.f (by assumption)) (by first|(simp;done)|(intro c hc;simp;done)|exact Dm.mZ hD0 (by omega) (by omega)|(intro x hx;simp<;>omega)|(intro b hb;simp only[Tt]at hb;subst hb;exact⟨fun hd=>by have:=hD0 _ hd;omega,by omega⟩))));done)):p→q:=g
end Go.Proofs.YtlojelcoibpphaaGreatDoor
namespace Go.Proofs.YtlojelcoibpphaaGreatDoor.D
open Go Go.RowKit
def get:List (Nat×Value)→Nat→Value
 |[],_=>undef
 |p::r,t=>cond (Nat.beq t p.1) p.2 (get r t)
abbrev Env:=List (Nat×Value)
instance:CoeFun (List (Nat×Value)) (fun _=>Nat→Value):=⟨get⟩
def jZ(e:Env)(d:Nat)(v:Value):Env:=List.cons (d,v) e
def put(e:Env):Option Nat→Value→Env
 |some d,v=>jZ e d v
 |none,_=>e
def ev(e:Env):Operand→Value
 | .tmp t=>e t
 | .const v=>v
 | .global g=>.pointer (some ⟨g,0,none⟩)
 | .func f=>.func (.func f) #[] #[]
def pE:List (Nat×Nat)→Nat→Bool
 |[],_=>false
 |(lo,hi)::r,t=>cond (Nat.ble lo t) (cond (Nat.ble t hi) true (pE r t)) (pE r t)
def yh(W:List (Nat×Nat))(j:Env):List (Nat×Value)→Env
 |[]=>j
 |p::r=>cond (pE W p.1) (yh W j r) (jZ (yh W j r) p.1 p.2)
def mix(W:List (Nat×Nat))(j e:Env):Env:=yh W j e
def oT(e:Env):List (Nat×Value)→Env
 |[]=>e
 |p::r=>jZ (oT e r) p.1 p.2
def j5(e:Env):List (Nat×Value)→Prop
 |[]=>True
 |[p]=>e p.1=p.2
 |p::q::r=>e p.1=p.2∧j5 e (q::r)
def ud:List Value→Nat→Value
 |[],_=>undef
 |v::_,0=>v
 |_::r,t+1=>ud r t
def DJ:Nat→List Value→Env
 |_,[]=>List.nil
 |k,v::r=>jZ (DJ (k+1) r) k v
theorem jF(e:Env)(b:Nat)(c:Value):jZ e b c b=c:=by simp[jZ,get]
theorem mA(e:Env){c b:Nat}(d:Value)(h:b≠c):jZ e c d b=e b:=by
 have:Nat.beq b c=false:=by rw[←TQ];intro f;exact h (Ub f)
 simp[jZ,get,this]
theorem j5.mem{e:Env}:∀{f:List (Nat×Value)},j5 e f→∀b∈f,e b.1=b.2
 |[],_,b,h=>by cases h
 |[g],h,b,c=>by rcases Tr.1 c with rfl|d;exact h;cases d
 |g::j::k,h,b,c=>by
  rcases Tr.1 c with rfl|d
  ·exact h.1
  ·exact j5.mem h.2 b d
theorem j5.congr{e c:Env}(b:∀d,e d=c d):∀{f:List (Nat×Value)},j5 e f→j5 c f
 |[],_=>trivial
 |[_],h=>(b _).symm.trans h
 |_::_::_,h=>⟨(b _).symm.trans h.1,j5.congr b h.2⟩
theorem lz{e:Env}:∀{l:List (Nat×Value)},j5 e l→∀b,e b=oT e l b
 |[],_,_=>rfl
 |d::c,h,b=>by
  have f:=lz (e:=e) (l:=c) (by cases c with|nil=>trivial|cons q c=>exact h.2) b
  simp only[oT]
  by_cases ht:b=d.1
  ·subst ht;rw[jF];exact h.mem d Al
  ·rw[mA _ _ ht];exact f
theorem xi{f:List (Nat×Nat)}{g:Env}{b:Nat}:∀j:List (Nat×Value),(pE f b=false→get j b≠undef→g b=get j b)→(∀k,pE f b=false→get j b=k→(∃c∈j,c.1=b)→g b=k)→g b=yh f g j b
 |[],_,_=>rfl
 |c::l,h0,h=>by
  simp only[yh]
  have p:(b≠c.1∨pE f b=true)→g b=yh f g l b:=fun d=>xi l (fun hw hu=>by
    rcases d with d|d
    ·have m:Nat.beq b c.1=false:=by rw[←TQ];intro o;exact d (Ub o)
     have q:get (c::l) b=get l b:=by simp[get,m]
     rw[h0 hw (by rw[q];exact hu),q]
    ·rw[d]at hw;cases hw) (fun k hw r t=>by
    rcases d with d|d
    ·have m:Nat.beq b c.1=false:=by rw[←TQ];intro o;exact d (Ub o)
     obtain⟨u,v,y⟩:=t
     exact h k hw (by simp[get,m,r]) ⟨u,Ux _ v,y⟩
    ·rw[d]at hw;cases hw)
  cases hp:pE f c.1 with
  |true=>
   simp only[cond_true]
   refine p ?_
   by_cases ht:b=c.1
   ·exact Tk (by rw[ht];exact hp)
   ·exact Ts ht
  |false=>
   simp only[cond_false]
   by_cases ht:b=c.1
   ·subst ht;rw[jF];exact h c.2 hp (by simp[get]) ⟨c,by simp,rfl⟩
   ·rw[mA _ _ ht];exact p (Ts ht)
theorem vP{d:List (Nat×Nat)}{e c:Env}(h:∀b,pE d b=false→c b=e b):∀b,c b=mix d c e b:=fun b=>
 xi e (fun hw _=>h b hw) (fun g hw f _=>(h b hw).trans f)
theorem yi{e d:Env}(h:∀b,e b=d b)(c:Nat)(f:Value)(b:Nat):jZ e c f b=jZ d c f b:=by
 by_cases ht:b=c
 ·subst ht;rw[jF,jF]
 rw[mA _ _ ht,mA _ _ ht];exact h b
theorem q5{e c:Env}(h:∀b,e b=c b):∀(d:List (Nat×Value))(b:Nat),oT e d b=oT c d b
 |[],b=>h b
 |f::g,b=>yi (q5 h g) f.1 f.2 b
structure mJ(n:Nat)(a:Act)(e:Env):Prop where
 defers:a.defers=[]
 size:a.tmps.size=n
 get:∀t,a.tmps.getD t undef=e t
theorem mJ.congr{n:Nat}{a:Act}{e c:Env}(h:mJ n a e)(d:∀b,e b=c b):mJ n a c:=⟨h.defers,h.size,fun b=>(h.get b).trans (d b)⟩
theorem mJ.eval{n:Nat}{a:Act}{e:Env}(h:mJ n a e):a.eval=ev e:=by
 funext x;cases x<;>simp[Act.eval,ev,h.get]
theorem mJ.put{n:Nat}{a:Act}{e:Env}(h:mJ n a e)(b:Option Nat)(f:Value)(c:∀x,b=some x→x<n):mJ n (a.put b f) (put e b f):=by
 cases b with
 |none=>exact h
 |some b=>
  have c:=c b rfl
  refine⟨h.defers,by simp[Act.put,h.size],fun g=>?_⟩
  have ht:=h.get g
  simp only[Act.put,D.put]
  by_cases d:g=b
  ·subst d;rw[jF,Ug];simp[h.size,c]
  rw[mA _ _ d,←ht,Ug,Ug,U5 (Ne.symm d)]
def nE(n:Nat):Option Nat→Bool
 |none=>true
 |some d=>Nat.blt d n
theorem jy{n:Nat}{b:Option Nat}(h:nE n b):∀x,b=some x→x<n:=by
 intro x hx;subst hx
 have:=TM h
 omega
structure Fr(S:List Nat)(w w':World):Prop where
 os:w'.os=w.os
 tape:w'.tape=w.tape
 output:w'.output=w.output
 size:w.heap.size≤w'.heap.size
 block:∀i,i<w.heap.size→i∉S→w'.heap[i]? =w.heap[i]?
theorem Fr.refl(b:List Nat)(w:World):Fr b w w:=⟨rfl,rfl,rfl,Tv _,fun _ _ _=>rfl⟩
theorem Fr.trans{d f c:List Nat}{a g j:World}(h:Fr d a g)(b:Fr f g j)(hs:∀i∈d,i<a.heap.size→i∈c)(ht:∀i∈f,i<a.heap.size→i∈c):Fr c a j:=
 ⟨b.os.trans h.os,b.tape.trans h.tape,b.output.trans h.output,Tq h.size b.size,fun i hi hu=>
  (b.block i (Tj hi h.size) (fun k=>hu (ht i k hi))).trans (h.block i hi (fun l=>hu (hs i l hi)))⟩
theorem Fr.tr{b:List Nat}{a c d:World}(h:Fr b a c)(f:Fr b c d):Fr b a d:=h.trans f (fun _ h _=>h) (fun _ h _=>h)
theorem Fr.jP{b:List Nat}{a c d:World}(h:Fr b a c)(f:Fr [] c d):Fr b a d:=h.trans f (fun _ h _=>h) (fun _ h _=>by cases h)
theorem Fr.new{b:List Nat}{a c d:World}(h:Fr [] a c)(f:Fr b c d)(hs:∀i∈b,a.heap.size≤i):Fr [] a d:=
 h.trans f (fun _ h _=>by cases h) (fun i h hi=>Tu (hs i h) Ac)
theorem Fr.put{b c:List Nat}{a d f:World}(h:Fr b a d)(g:Fr c d f)(ht:∀i∈c,i∈b∨a.heap.size≤i):Fr b a f:=
 h.trans g (fun _ h _=>h) (fun i hi hl=>(ht i hi).resolve_right Ac)
theorem Fr.oR{b:List Nat}{c:Nat}{a d f:World}(h:Fr b a d)(g:Fr [c] d f)(j:a.heap.size≤c):Fr b a f:=
 h.put g (fun i hi=>by rcases Tt.1 hi with rfl;exact Tk j)
theorem Fr.Ls{b:List Nat}{c:Nat}{a d f:World}(h:Fr b a d)(g:Fr [c] d f)(j:c∈b):Fr b a f:=
 h.put g (fun i hi=>by rcases Tt.1 hi with rfl;exact Ts j)
theorem Fr.hO{c:List Nat}{w d:World}(h:Fr c w d){b:Nat}{f:Obj}(g:w.heap[b]? =some f)(hs:b∉c):d.heap[b]? =some f:=by
 rw[h.block b (UY.1 g).1 hs];exact g
theorem Fr.il{w b:World}(h:Fr [] w b){c:Nat}{d:Obj}(f:w.heap[c]? =some d):b.heap[c]? =some d:=h.hO f Al
theorem Fr.jK{c:Nat}{w d:World}(h:Fr [c] w d){b:Nat}{f:Obj}(g:w.heap[b]? =some f)(hs:b≠c):d.heap[b]? =some f:=h.hO g (by simpa using hs)
theorem Fr.below{w b:World}(h:Fr [] w b):Below w.heap.size w b:=⟨h.os,h.tape,h.output,h.size,fun c hk=>h.block c hk Al⟩
theorem Fr.wS{w b:World}(h:Below w.heap.size w b):Fr [] w b:=⟨h.os,h.tape,h.output,h.size,fun c hk _=>h.block c hk⟩
theorem Fr.drawn(w:World)(n:Nat):Fr [] w {w with drawn:=n}:=⟨rfl,rfl,rfl,Tv _,fun _ _ _=>rfl⟩
theorem hC{w:World}{b:Nat}{c:Obj}(d:w.heap[b]? =some c):b<w.heap.size:=(UY.1 d).1
theorem jm{w:World}{b c:Nat}{d:Array Value}{g:TypeId}{j:Nat×Nat}{f:Value}(k:w.heap[b]? =some (.cells d g j))(hc:d[c]? =some f):w.cell? ⟨b,c,none⟩=some f:=by
 simp[World.cell?,k,hc]
theorem Fr.cell{c:List Nat}{w d:World}(h:Fr c w d){b f:Nat}{v:Value}(hc:w.cell? ⟨b,f,none⟩=some v)(hs:b∉c):d.cell? ⟨b,f,none⟩=some v:=by
 have g:b<w.heap.size:=World.block_lt_of_cell? w _ hc
 rw[←hc]
 simp only[World.cell?]
 rw[h.block b g hs]
theorem mN(w:World)(b:Obj):Fr [] w {w with heap:=w.heap.push b}:=
 ⟨rfl,rfl,rfl,by simp,fun i hi _=>by simp[Array.getElem?_push,Nat.ne_of_lt hi]⟩
theorem mr(w:World)(b:Obj):({w with heap:=w.heap.push b}:World).heap[w.heap.size]? =some b:=by simp
theorem wB(w:World)(a:Addr)(b:Value):Fr [a.block] w (w.setCell a b):=
 ⟨rfl,rfl,rfl,by simp[World.setCell],fun i _ hs=>Below.heap_setCell _ _ _ _ (by simpa using hs)⟩
theorem u3{w:World}{b c:Nat}{d:Array Value}{f:TypeId}{g:Nat×Nat}(j:Value)(k:w.heap[b]? =some (.cells d f g)):
  (w.setCell ⟨b,c,none⟩ j).heap[b]? =some (.cells (d.setIfInBounds c j) f g):=by
 simp[World.setCell,UZ,k]
theorem Fr.f{b:List Nat}{w c:World}(d:Fr b w c):Fr b w c:=d
structure Sp(S:List Nat)(w w':World):Prop extends Fr S w w'
instance{S:List Nat}{w w':World}:Coe (Sp S w w') (Fr S w w'):=⟨Sp.toFr⟩
theorem Sp.b0{w b:World}{c:Nat}{d:Obj}(f:Sp [] w b)(h:w.heap[c]? =some d):b.heap[c]? =some d:=f.toFr.il h
theorem Sp.b1{w c:World}{b d:Nat}{f:Obj}(g:Sp [d] w c)(h:w.heap[b]? =some f)(hs:b≠d):c.heap[b]? =some f:=g.toFr.jK h hs
theorem Sp.b2{c:List Nat}{w d:World}{b:Nat}{f:Obj}(g:Sp c w d)(h:w.heap[b]? =some f)(hs:b∉c):d.heap[b]? =some f:=g.toFr.hO h hs
theorem Sp.c2{c:List Nat}{w d:World}{b f:Nat}{g:Value}(j:Sp c w d)(h:w.cell? ⟨b,f,none⟩=some g)(hs:b∉c):d.cell? ⟨b,f,none⟩=some g:=j.toFr.cell h hs
theorem Sp.f{b:List Nat}{w c:World}(d:Sp b w c):Fr b w c:=d.toFr
theorem Gb{w d:World}{b:Nat}{c:Obj}(h:w.heap[b]? =some c)(f:w.heap[b]? =some c→d.heap[b]? =some c:=by exact Gq):d.heap[b]? =some c:=f h
theorem Gc{w c:World}{a:Addr}{b:Value}(h:w.cell? a=some b)(d:w.cell? a=some b→c.cell? a=some b:=by exact Gq):c.cell? a=some b:=d h
theorem Fr.g{b:List Nat}{c w d:World}(h:Fr b c w)(f:Fr b c w→Fr b c d:=by exact Gq):Fr b c d:=f h
def iQ:List Oper→List Nat
 |[]=>[]
 |o::r=>match o.dst with|some d=>d::iQ r|none=>iQ r
def ji:Code→List Nat
 | .region _ ops _=>iQ ops.toList
 | .seq a b=>ji a++ji b
 | .cond _ a b=>ji a++ji b
 | .block _ b=>ji b
 | .loop b=>ji b
 | .scope b=>ji b
 |_=>[]
def kW:List Oper→Nat→Option Oper
 |[],_=>none
 |o::_,0=>some o
 |_::r,j+1=>kW r j
theorem j8:∀(c:List Oper)(b:Nat),kW c b=c[b]?
 |[],_=>by simp[kW]
 |_::_,0=>by simp[kW]
 |_::d,b+1=>by simp[kW,j8 d b]
def tD(ops:List Oper)(e:Env)(j:Nat):Option Bool:=
 match kW ops j with
 |some o=>(match o.dst with
  |some t=>(match e t with| .bool b=>some b|_=>none)
  |none=>none)
 |none=>none
def hU(ops:List Oper)(e:Env):Option (Nat×Bool)→Bool
 |none=>true
 |some (j,b)=>(match tD ops e j with|some true=>b|some false=> !b|none=>false)
theorem jx{n:Nat}{b:List Oper}{a:Act}{e:Env}(h:mJ n a e)(d:Oper):Region.wanted d (yielded b.toArray a.tmps)=hU b e d.guard:=by
 unfold Region.wanted hU
 cases hg:d.guard with
 |none=>rfl
 |some g=>
  obtain⟨c,j⟩:=g
  have:yielded b.toArray a.tmps c=tD b e c:=by
   unfold yielded tD
   simp only[j8,Vg]
   cases b[c]? with
   |none=>rfl
   |some k=>
    simp only[Vn]
    cases k.dst with
    |none=>rfl
    |some f=>
     simp only[Vn]
     rw[←h.get f,Ug]
     cases a.tmps[f]? with
     |none=>rfl
     |some l=>cases l<;>rfl
  simp only[this]
  cases tD b e c with
  |none=>rfl
  |some m=>cases m<;>cases j<;>rfl
section
variable(P:Program)(n:Nat)
structure DL(ops l:List Oper)(e:Env)(w:World)(K:Env→World→Prop):Prop where
 out:∀(a:Act)(Q:Exit→Act→World→Prop),mJ n a e→(∀a' e' w',mJ n a' e'→(∀t,t∉iQ l→e' t=e t)→K e' w'→Q .normal a' w')→wpList P ops.toArray Q l a w
structure DC(c:Code)(e:Env)(w:World)(Q:Exit→Env→World→Prop):Prop where
 out:∀a:Act,mJ n a e→c.wp P (fun x a' w'=>∃e',mJ n a' e'∧(∀t,t∉ji c→e' t=e t)∧Q x e' w') a w
def uE(N:Env→World→Prop)(Q:Exit→Env→World→Prop):Exit→Env→World→Prop
 | .normal,e,w=>N e w
 |x,e,w=>Q x e w
def vm(id:Nat)(Q:Exit→Env→World→Prop):Exit→Env→World→Prop
 | .exit i,e,w=>cond (Nat.beq i id) (Q .normal e w) (Q (.exit i) e w)
 |x,e,w=>Q x e w
inductive Fm where
 |c (y:Code)
 |b (id:Nat)
def jr:List Fm→(Exit→Env→World→Prop)→Exit→Env→World→Prop
 |[],Q=>Q
 | .c y::s,Q=>uE (fun e' w'=>DC P n y e' w' (jr s Q)) (jr s Q)
 | .b i::s,Q=>vm i (jr s Q)
end
section
variable{P:Program}{n:Nat}{e:Env}{w:World}{Q:Exit→Env→World→Prop}
theorem DC.mono{c:Code}{g:Exit→Env→World→Prop}(h:DC P n c e w Q)(j:∀x b d,(∀f,f∉ji c→b f=e f)→Q x b d→g x b d):DC P n c e w g:=
 ⟨fun a k=>wp_mono (h.out a k) fun x m d ⟨b,h1,h2,l⟩=>⟨b,h1,h2,j _ _ _ h2 l⟩⟩
theorem DC.congr{c:Code}{d:Env}(f:∀b,e b=d b)(h:DC P n c d w Q):DC P n c e w Q:=
 ⟨fun a g=>wp_mono (h.out a (g.congr f)) fun x l m ⟨j,h1,h2,k⟩=>⟨j,h1,fun b ht=>(h2 b ht).trans (f b).symm,k⟩⟩
theorem DL.congr{c d:List Oper}{f:Env→World→Prop}{g:Env}(j:∀b,e b=g b)(h:DL P n c d g w f):DL P n c d e w f:=
 ⟨fun a Q k l=>h.out a Q (k.congr j) (fun m o p h1 h2 q=>l m o p h1 (fun b ht=>(h2 b ht).trans (j b).symm) q)⟩
theorem DC.skip(h:Q .normal e w):DC P n .skip e w Q:=⟨fun a b=>wp_skip ⟨e,b,fun _ _=>rfl,h⟩⟩
theorem DC.exit{id:Nat}(h:Q (.exit id) e w):DC P n (.exit id) e w Q:=⟨fun a b=>wp_exit ⟨e,b,fun _ _=>rfl,h⟩⟩
theorem DC.ret(h:Q .ret e w):DC P n .ret e w Q:=⟨fun a b=>wp_ret ⟨e,b,fun _ _=>rfl,h⟩⟩
theorem DC.seq{x c:Code}{s:List Fm}(h:DC P n x e w (jr P n (.c c::s) Q)):DC P n (.seq x c) e w (jr P n s Q):=by
 refine⟨fun a j=>?_⟩
 refine wp_seq (wp_mono (h.out a j) ?_)
 rintro k l t ⟨d,h1,h2,f⟩
 have g:∀b,b∉ji (.seq x c)→d b=e b:=fun b ht=>h2 b (fun hx=>ht (by simp[ji,hx]))
 cases k with
 |normal=>
  exact wp_mono (f.out l h1) fun u v y ⟨m,o,p,q⟩=>⟨m,o,fun b ht=>(p b (fun r=>ht (by simp[ji,r]))).trans (g b ht),q⟩
 |_=>exact⟨d,h1,g,f⟩
theorem DC.HO{b:Operand}{x f:Code}(hc:ev e b=.bool true)(h:DC P n x e w Q):DC P n (.cond b x f) e w Q:=by
 refine⟨fun a c=>?_⟩
 refine wp_cond (t:=true) (by rw[c.eval];exact hc) (wp_mono (h.out a c) ?_)
 rintro k l m ⟨g,h1,h2,j⟩
 exact⟨g,h1,fun d ht=>h2 d (fun hx=>ht (by simp[ji,hx])),j⟩
theorem DC.zY{b:Operand}{x c:Code}(hc:ev e b=.bool false)(h:DC P n c e w Q):DC P n (.cond b x c) e w Q:=by
 refine⟨fun a d=>?_⟩
 refine wp_cond (t:=false) (by rw[d.eval];exact hc) (wp_mono (h.out a d) ?_)
 rintro k l m ⟨g,h1,h2,j⟩
 exact⟨g,h1,fun f ht=>h2 f (fun hx=>ht (by simp[ji,hx])),j⟩
theorem DC.cond{c:Operand}{x d:Code}{b:Bool}(hc:ev e c=.bool b)(ht:b=true→DC P n x e w Q)(f:b=false→DC P n d e w Q):DC P n (.cond c x d) e w Q:=by
 cases b with
 |true=>exact DC.HO hc (ht rfl)
 |false=>exact DC.zY hc (f rfl)
theorem DC.block{id:Nat}{d:Code}{s:List Fm}(h:DC P n d e w (jr P n (.b id::s) Q)):DC P n (.block id d) e w (jr P n s Q):=by
 refine⟨fun a f=>?_⟩
 refine wp_block (wp_mono (h.out a f) ?_)
 rintro g k l ⟨c,h1,h2,b⟩
 cases g with
 |exit i=>
  simp only[Exit.inBlock]
  by_cases hi:i=id
  ·rw[TU hi]
   have:Nat.beq i id=true:=by rw[hi];exact VL _
   simp only[jr,vm,this,cond_true]at b
   exact⟨c,h1,h2,b⟩
  rw[TI hi]
  have:Nat.beq i id=false:=by rw[←TQ];intro j;exact hi (Ub j)
  simp only[jr,vm,this,cond_false]at b
  exact⟨c,h1,h2,b⟩
 |_=>exact⟨c,h1,h2,b⟩
theorem DC.region{id:Nat}{l:List Oper}(h:DL P n l l e w (fun b c=>Q .normal b c)):DC P n (.region id l.toArray false) e w Q:=by
 refine⟨fun a d=>?_⟩
 refine wp_region_lit (h.out a _ d ?_)
 intro j b c h1 h2 f
 exact⟨b,h1,fun g ht=>h2 g Br,f⟩
theorem DC.loop{d:Code}{σ:Type}(l:List (Nat×Nat))(g:σ→List (Nat×Value))(m:σ→World→Prop)(j:σ→Nat)(o:σ)
  (B:(ji d).all (pE l)) (h0:j5 e (g o)) (C:m o w)
  (D:∀(s:σ)(E:Env)(r:World),m s r→DC P n d (oT (mix l E e) (g s)) r (jr P n [] (uE (fun c k=>∃f,m f k∧j f<j s∧j5 c (g f)) Q))):
  DC P n (.loop d) e w Q:=by
 have F:∀b,pE l b=false→b∉ji d:=fun b ht t=>by
  have:=Uk.1 B b t
  rw[ht]at this;cases this
 refine⟨fun a G=>?_⟩
 refine wp_loop_ghost (fun u p k=>∃s c,j s=u∧mJ n p c∧(∀b,b∉ji d→c b=e b)∧j5 c (g s)∧m s k) (j o) ⟨o,e,rfl,G,fun _ _=>rfl,h0,C⟩ fun u p k ⟨s,c,t,H,v,I,hi⟩=>have J:∀b,c b=oT (mix l c e) (g s) b:=fun b=>(lz I b).trans (q5 (vP (fun b ht=>v b (F b ht))) _ b);have K:=(D s c k hi).congr J;wp_mono (K.out p H) ?_
 rintro L S T ⟨q,y,M,z⟩
 have A:∀b,b∉ji d→q b=e b:=fun b ht=>(M b ht).trans (v b ht)
 cases L with
 |normal=>
  obtain⟨f,O,U,R⟩:=z
  exact⟨j f,Ac,f,q,rfl,y,A,R,O⟩
 |_=>exact⟨q,y,A,z⟩
end
def iM(P:Program)(t:TypeId):Bool:=match P.underlying t with|some (.struct _)|some (.array _ _)|none=>false|some _=>true
def l9(P:Program)(t:TypeId)(n:Nat):Bool:=(match P.underlying t with|some (.struct _)|some (.array _ _)=>true|_=>false)&&(match P.info? t with|some i=>i.size==n|none=>false)
def nI(P:Program)(t:TypeId):Bool:=match P.underlying t with|some (.interface _)|none=>false|some _=>true
def iq(P:Program)(s f:Nat)(off:Nat):Bool:=match P.underlying s with
 |some (.struct fs)=>(match fs[f]? with|some fd=>(fd.offset==off)&&(match P.info? fd.type with|some i=> !(i.size==0)|none=>false)|none=>false)
 |_=>false
def jT(P:Program)(t e size:Nat):Bool:=match P.underlying t with|some (.slice e')=>(e'==e)&&(match P.info? e with|some i=>i.size==size|none=>false)|_=>false
section
variable{P:Program}{n:Nat}{e:Env}{w:World}{ops rest:List Oper}{K:Env→World→Prop}{o:Oper}
def Y(P:Program)(e:Env)(o:Oper)(w:World)(v:Value):Prop:=(execOp (ev e) o).run P w=.ok (.value v) w
theorem vd{a:Act}{N j:Act→World→Prop}{c d:Exit→Act→World→Prop}(f:∀a w,N a w→j a w)(k:∀g a w,c (.panic g) a w→d (.panic g) a w)(hl:LetsOut c→LetsOut d)(h:o.wp P a w N c):o.wp P a w j d:=by
 unfold Oper.wp at*
 generalize (execOp a.eval o).run P w=l at*
 cases l with
 |ok x m=>
  cases x<;>simp only[Oper.upon]at h⊢ <;>first|exact f _ _ h|exact h|skip
  ·exact h.mono fun e p b=>by
    cases e with
    |returned q=>exact f _ _ b
    |panicked g=>exact k _ _ _ b
    |outgrown=>exact hl b
  exact h.mono fun q p b=>f _ _ b
 |halt x m=>
  cases x<;>simp only[Oper.upon]at h⊢ <;>first|exact k _ _ _ h|exact h
theorem DL.nil(h:K e w):DL P n ops [] e w K:=⟨fun a d b c=>wpList_nil (c a e w b (fun _ _=>rfl) h)⟩
theorem jz{o:Oper}{r:List Oper}{c:Nat}(h:c∉iQ (o::r)):c∉iQ r∧∀b,o.dst=some b→c≠b:=by
 unfold iQ at h
 cases hd:o.dst with
 |none=>rw[hd]at h;exact⟨h,fun b hx=>by cases hx⟩
 |some b=>rw[hd]at h;simp only[Tr,U9]at h;exact⟨h.2,fun d hx=>by cases hx;exact h.1⟩
theorem mX{e:Env}{o:Oper}{c:Nat}(d:Value)(h:∀b,o.dst=some b→c≠b):put e o.dst d c=e c:=by
 cases hd:o.dst with
 |none=>rfl
 |some b=>exact mA _ _ (h b hd)
theorem DL.op(d:hU ops e o.guard)(f:nE n o.dst)
  (h:∀(next:Value→World→Prop)(a:Act)(b:Exit→Act→World→Prop)(N:Act→World→Prop),a.eval=ev e→(∀v w',next v w'→N (a.put o.dst v) w')→(∀v w',DL P n ops rest (put e o.dst v) w' K→next v w')→o.wp P a w N b):
  DL P n ops (o::rest) e w K:=by
 refine⟨fun a b c g=>?_⟩
 refine wpList_step fun N j=>?_
 rw[jx c,d,TU rfl]
 refine h (fun v w'=>DL P n ops rest (put e o.dst v) w' K) a b N c.eval (fun v w' k=>j _ _ (k.out _ _ (c.put o.dst v (jy f)) (fun l m p h1 h2 q=>g l m p h1 (fun r ht=>?_) q))) (fun v w' h=>h)
 obtain⟨t,u⟩:=jz ht
 rw[h2 r t,mX _ u]
theorem DL.run{v:Value}{w':World}(b:hU ops e o.guard)(c:nE n o.dst)(h:(execOp (ev e) o).run P w=.ok (.value v) w')(d:DL P n ops rest (put e o.dst v) w' K):DL P n ops (o::rest) e w K:=
 DL.op b c fun next a j N f g hk=>by
  unfold Oper.wp;rw[f,h];exact g _ _ (hk _ _ d)
theorem DL.Kz{w':World}(b:hU ops e o.guard)(c:nE n o.dst)(h:(execOp (ev e) o).run P w=.ok .skip w')(d:DL P n ops rest (put e o.dst undef) w' K):DL P n ops (o::rest) e w K:=
 DL.op b c fun next a j N f g hk=>by
  unfold Oper.wp;rw[f,h];exact g _ _ (hk _ _ d)
theorem DL.y{v:Value}(b:hU ops e o.guard)(c:nE n o.dst)(h:Y P e o w v)(d:DL P n ops rest (put e o.dst v) w K):DL P n ops (o::rest) e w K:=DL.run b c h d
theorem DL.b{b:Bool}(c:hU ops e o.guard)(d:nE n o.dst)(h:Y P e o w (.bool b))(f:∀p:Bool,p=b→DL P n ops rest (put e o.dst (.bool p)) w K):DL P n ops (o::rest) e w K:=DL.y c d h (f b rfl)
theorem DL.if{b:Prop}[Decidable b](c:hU ops e o.guard)(d:nE n o.dst)(h:Y P e o w (.bool (decide b)))(ht:b→DL P n ops rest (put e o.dst (.bool true)) w K)
  (f:¬b→DL P n ops rest (put e o.dst (.bool false)) w K):DL P n ops (o::rest) e w K:=by
 by_cases hc:b
 ·exact DL.y c d (by rw[Th hc]at h;exact h) (ht hc)
 exact DL.y c d (by rw[Ti hc]at h;exact h) (f hc)
theorem DL.skip(c:hU ops e o.guard=false)(d:nE n o.dst)(f:DL P n ops rest (put e o.dst undef) w K):DL P n ops (o::rest) e w K:=by
 refine⟨fun a u b g=>?_⟩
 refine wpList_step fun N j=>?_
 rw[jx b,c,TI Al]
 refine j _ _ (f.out _ _ (b.put o.dst undef (jy d)) (fun k l m h1 h2 p=>g k l m h1 (fun q ht=>?_) p))
 obtain⟨r,t⟩:=jz ht
 rw[h2 q r,mX _ t]
theorem DL.cut{j:List Oper}(m:Nat)(t:List (Nat×Nat))(s:Nat)(v:Value)(A:World→Prop)(B:(iQ (j.take m)).all (pE t))
  (h1:DL P n ops (j.take m) e w (fun k w'=>jr P n [] (fun _ k w'=>k s=v∧A w') .normal k w')) (h2:∀C w',A w'→DL P n ops (j.drop m) (jZ (mix t C e) s v) w' K):DL P n ops j e w K:=by
 have D:∀b,pE t b=false→b∉iQ (j.take m):=fun b ht f=>by
  have:=Uk.1 B b f
  rw[ht]at this;cases this
 have E:∀(d c:List Oper)(b:Nat),b∉iQ (d++c)→b∉iQ d∧b∉iQ c:=by
  intro d
  induction d with
  |nil=>intro c b h;exact⟨by simp[iQ],h⟩
  |cons o d u=>
   intro c b h
   obtain⟨z,y⟩:=jz (o:=o) (r:=d++c) h
   obtain⟨p,F⟩:=u c b z
   refine⟨fun f=>?_,F⟩
   unfold iQ at f
   cases hd:o.dst with
   |none=>rw[hd]at f;exact p f
   |some X=>rw[hd]at f;rcases Tr.1 f with rfl|f;exact y _ hd rfl;exact p f
 have G:∀(d c:List Oper)(a:Act)(w:World)(g:Exit→Act→World→Prop),wpList P ops.toArray (fun x l w'=>match x with| .normal=>wpList P ops.toArray g c l w'|x=>g x l w') d a w→wpList P ops.toArray g (d++c) a w:=by
  intro d
  induction d with
  |nil=>intro c a w g h;exact h
  |cons o d u=>
   intro c a w g h
   simp only[TH]
   unfold wpList at h⊢
   split
   ·rename_i hw
    rw[TU hw]at h
    rcases h with h|h
    ·refine Ts (vd (fun l w' q=>u c l w' g q) (fun Y l w' q=>q) (fun q=>q) h)
    exact Tk h
   rename_i hw
   rw[TI hw]at h
   exact u c _ w g h
 refine⟨fun a g H I=>?_⟩
 rw[←UM m j]
 refine G _ _ _ _ _ (h1.out a _ H ?_)
 intro l k w' z y p
 have J:∀b,k b=jZ (mix t k e) s v b:=fun b=>by
  by_cases ht:b=s
  ·subst ht;rw[jF];exact p.1
  rw[mA _ _ ht];exact vP (fun b ht=>y b (D b ht)) b
 have L:=(h2 k w' p.2).congr J
 refine L.out l g z (fun M O Q R S T=>I M O Q R (fun b ht=>?_) T)
 rw[←UM m j]at ht
 obtain⟨U,W⟩:=E _ _ _ ht
 rw[S b W,y b U]
structure DS(P:Program)(n:Nat)(ops:List Oper)(w:World)(l:List Oper)(e:Env)(K:Env→Prop):Prop where
 out:∀(a:Act)(Q:Act→Prop),mJ n a e→(∀a' e',mJ n a' e'→(∀t,t∉iQ l→e' t=e t)→K e'→Q a')→wpStill P ops.toArray w Q l a
theorem DS.nil{K:Env→Prop}(h:K e):DS P n ops w [] e K:=⟨fun a d b c=>c a e b (fun _ _=>rfl) h⟩
theorem DS.congr{K:Env→Prop}{c:List Oper}{d:Env}(f:∀b,e b=d b)(h:DS P n ops w c d K):DS P n ops w c e K:=
 ⟨fun a g j k=>h.out a g (j.congr f) (fun l m h1 h2 p=>k l m h1 (fun b ht=>(h2 b ht).trans (f b).symm) p)⟩
theorem DS.y{K:Env→Prop}{v:Value}(c:hU ops e o.guard)(d:nE n o.dst)(h:Y P e o w v)(f:DS P n ops w rest (put e o.dst v) K):DS P n ops w (o::rest) e K:=by
 refine⟨fun a r b g=>?_⟩
 unfold wpStill
 rw[jx b,c,TU rfl]
 unfold Oper.still
 rw[b.eval,h]
 refine⟨rfl,f.out _ _ (b.put o.dst v (jy d)) (fun j k h1 h2 l=>g j k h1 (fun m ht=>?_) l)⟩
 obtain⟨p,q⟩:=jz ht
 rw[h2 m p,mX _ q]
theorem DS.skip{K:Env→Prop}(c:hU ops e o.guard=false)(d:nE n o.dst)(f:DS P n ops w rest (put e o.dst undef) K):DS P n ops w (o::rest) e K:=by
 refine⟨fun a r b g=>?_⟩
 unfold wpStill
 rw[jx b,c,TI Al]
 refine f.out _ _ (b.put o.dst undef (jy d)) (fun j k h1 h2 l=>g j k h1 (fun m ht=>?_) l)
 obtain⟨p,q⟩:=jz ht
 rw[h2 m p,mX _ q]
theorem DS.if{K:Env→Prop}{b:Prop}[Decidable b](c:hU ops e o.guard)(d:nE n o.dst)(h:Y P e o w (.bool (decide b)))(ht:b→DS P n ops w rest (put e o.dst (.bool true)) K)
  (f:¬b→DS P n ops w rest (put e o.dst (.bool false)) K):DS P n ops w (o::rest) e K:=by
 by_cases hc:b
 ·exact DS.y c d (by rw[Th hc]at h;exact h) (ht hc)
 exact DS.y c d (by rw[Ti hc]at h;exact h) (f hc)
theorem DS.u5{K:Env→Prop}{b:Bool}(c:hU ops e o.guard)(d:nE n o.dst)(h:Y P e o w (.bool b))(ht:b=true→DS P n ops w rest (put e o.dst (.bool true)) K)
  (f:b=false→DS P n ops w rest (put e o.dst (.bool false)) K):DS P n ops w (o::rest) e K:=by
 cases b with
 |true=>exact DS.y c d h (ht rfl)
 |false=>exact DS.y c d h (f rfl)
theorem DS.b{K:Env→Prop}{b:Bool}(d:hU ops e o.guard)(f:nE n o.dst)(h:Y P e o w (.bool b))(g:∀c:Bool,c=b→DS P n ops w rest (put e o.dst (.bool c)) K):DS P n ops w (o::rest) e K:=DS.y d f h (g b rfl)
theorem DS.cut{K:Env→Prop}{j:List Oper}(k:Nat)(p:List (Nat×Nat))(s:Nat)(q:Value)(aa:World→Prop)(C:(iQ (j.take k)).all (pE p))
  (h1:DS P n ops w (j.take k) e (fun l=>l s=q∧True)) (h2:∀D,DS P n ops w (j.drop k) (jZ (mix p D e) s q) K):DS P n ops w j e K:=by
 have E:∀b,pE p b=false→b∉iQ (j.take k):=fun b ht f=>by
  have:=Uk.1 C b f
  rw[ht]at this;cases this
 have F:∀(d c:List Oper)(b:Nat),b∉iQ (d++c)→b∉iQ d∧b∉iQ c:=by
  intro d
  induction d with
  |nil=>intro c b h;exact⟨by simp[iQ],h⟩
  |cons o d r=>
   intro c b h
   obtain⟨v,t⟩:=jz (o:=o) (r:=d++c) h
   obtain⟨u,G⟩:=r c b v
   refine⟨fun f=>?_,G⟩
   unfold iQ at f
   cases hd:o.dst with
   |none=>rw[hd]at f;exact u f
   |some ab=>rw[hd]at f;rcases Tr.1 f with rfl|f;exact t _ hd rfl;exact u f
 have H:∀(o:Oper)(a:Act)(N y:Act→Prop),(∀a,N a→y a)→o.still P a w N→o.still P a w y:=by
  intro o a N y A h
  unfold Oper.still at*
  generalize (execOp a.eval o).run P w=z at*
  cases z with
  |ok x I=>cases x<;>simp only[Oper.stillUpon]at h⊢ <;>first|exact⟨h.1,A _ h.2⟩|exact⟨h.1,h.2.imp fun q B=>⟨B.1,A _ B.2⟩⟩|exact h
  |halt x I=>simp only[Oper.stillUpon]at h
 have J:∀(d c:List Oper)(a:Act)(g:Act→Prop),wpStill P ops.toArray w (fun m=>wpStill P ops.toArray w g c m) d a→wpStill P ops.toArray w g (d++c) a:=by
  intro d
  induction d with
  |nil=>intro c a g h;exact h
  |cons o d r=>
   intro c a g h
   simp only[TH]
   unfold wpStill at h⊢
   split
   ·rename_i hw
    rw[TU hw]at h
    exact H o a _ _ (fun m L=>r c m g L) h
   rename_i hw
   rw[TI hw]at h
   exact r c _ g h
 refine⟨fun a g M O=>?_⟩
 rw[←UM k j]
 refine J _ _ _ _ (h1.out a _ M ?_)
 intro m l v t u
 have Q:∀b,l b=jZ (mix p l e) s q b:=fun b=>by
  by_cases ht:b=s
  ·subst ht;rw[jF];exact u.1
  rw[mA _ _ ht];exact vP (fun b ht=>t b (E b ht)) b
 have R:=(h2 l).congr Q
 refine R.out m g v (fun S T U W X=>O S T U (fun b ht=>?_) X)
 rw[←UM k j]at ht
 obtain⟨Y,Z⟩:=F _ _ _ ht
 rw[W b Z,t b Y]
theorem ub{c:List Oper}{m d:Nat}(h:d∉iQ c):d∉iQ (c.take m)∧d∉iQ (c.drop m):=by
 induction c generalizing m with
 |nil=>simp[iQ]
 |cons o c g=>
  obtain⟨j,k⟩:=jz h
  cases m with
  |zero=>exact⟨by simp[iQ],h⟩
  |succ m=>
   obtain⟨f,l⟩:=g (m:=m) j
   refine⟨fun b=>?_,l⟩
   simp only[T4]at b
   unfold iQ at b
   cases hd:o.dst with
   |none=>rw[hd]at b;exact f b
   |some p=>rw[hd]at b;rcases Tr.1 b with rfl|b;exact k _ hd rfl;exact f b
theorem DC.tail{id:Nat}{l:List Oper}{g:Exit→Env→World→Prop}(b:Nat)(m:P.follows .mixedOrders)(p:Region.lexTailB .any l.toArray b)
  (h:∀c,Fr [] w c→c.heap.size=w.heap.size→DS P n l c (l.take b) e (fun j=>DL P n l (l.drop b) j c (fun d k=>g .normal d k))):DC P n (.region id l.toArray true) e w g:=by
 refine⟨fun a q=>?_⟩
 refine wp_region_still_tail b m p<|(h _ (Fr.drawn w (w.drawn+1)) rfl).out a _ q fun r j h1 h2 t=>t.out r _ h1 ?_
 intro B d k u v y
 exact⟨d,u,fun f ht=>by
  obtain⟨z,A⟩:=ub (m:=b) (show f∉iQ l by simpa[ji]using ht)
  rw[v f A,h2 f z],y⟩
theorem DC.still{id:Nat}{l:List Oper}{d:Exit→Env→World→Prop}(f:P.follows .mixedOrders)(g:Region.lexB .any l.toArray)
  (h:∀b,Fr [] w b→b.heap.size=w.heap.size→DS P n l b l e (fun c=>d .normal c b)):DC P n (.region id l.toArray true) e w d:=by
 refine⟨fun a j=>?_⟩
 exact wp_region_still_lit f g<|(h _ (Fr.drawn w (w.drawn+1)) rfl).out a _ j fun p c h1 h2 k=>⟨c,h1,fun m ht=>h2 m Br,k⟩
end
theorem s4{P:Program}{c:TypeId}(h:iM P c):∃b,P.underlying c=some b∧(match b with| .struct _| .array _ _=>false|_=>true)=true:=by
 unfold iM at h
 cases hd:P.underlying c with
 |none=>rw[hd]at h;cases h
 |some b=>rw[hd]at h;refine⟨b,rfl,?_⟩;cases b<;>simp_all
theorem tA{P:Program}{b:TypeId}(h:iM P b)(w:World):(isAgg b).run P w=.ok false w:=by
 obtain⟨c,d,f⟩:=s4 h
 simp only[isAgg,Sem.run_bind,run_underlying d,Result.andThen]
 cases c<;>simp_all
theorem yp{P:Program}{b:TypeId}{c:Nat}(h:l9 P b c):(∀w,(isAgg b).run P w=.ok true w)∧(∀w,(sizeOf b).run P w=.ok c w):=by
 unfold l9 at h
 rw[Tx]at h
 obtain⟨h1,h2⟩:=h
 constructor
 ·intro w
  cases hd:P.underlying b with
  |none=>rw[hd]at h1;cases h1
  |some d=>
   rw[hd]at h1
   simp only[isAgg,Sem.run_bind,run_underlying hd,Result.andThen]
   cases d<;>simp_all
 intro w
 cases hi:P.info? b with
 |none=>rw[hi]at h2;cases h2
 |some i=>rw[hi]at h2;simp[sizeOf,typeInfo,hi];simpa using h2
theorem kt(b o c:Nat):(⟨b,o,none⟩:Addr).add c=⟨b,o+c,none⟩:=by
 unfold Addr.add
 split
 ·subst_vars;rfl
 rfl
theorem wrap_i64{x:Int}(h1: -9223372036854775808≤x)(h2:x≤9223372036854775807):IntKind.i64.wrap x=x:=IntWalk.i64_in _ ⟨Ac,Ac⟩
def hB(w:World)(b o:Nat)(cs:Array Value):Prop:=∀i,i<cs.size→w.cell? ⟨b,o+i,none⟩=cs[i]?
theorem hB.hE{w:World}{b:Nat}{c:Array Value}{d:TypeId}{f:Nat×Nat}(h:w.heap[b]? =some (.cells c d f)):hB w b 0 c:=by
 intro i hi
 simp[World.cell?,h]
theorem hB.cell{w:World}{b o:Nat}{c:Array Value}(h:hB w b o c)(i:Nat){v:Value}(d:c[i]? =some v):w.cell? ⟨b,o+i,none⟩=some v:=by
 rw[h i (UY.1 d).1,d]
theorem hB.fr{c:List Nat}{w d:World}{b o:Nat}{f:Array Value}(h:hB w b o f)(j:Fr c w d)(hs:b∉c):hB d b o f:=by
 intro i hi
 have:=h i hi
 rw[UA hi]at this⊢
 exact j.cell this hs
theorem hB.g{w d:World}{b o:Nat}{c:Array Value}(h:hB w b o c)(f:hB w b o c→hB d b o c:=by exact Gq):hB d b o c:=f h
theorem hB.lt{w:World}{b o:Nat}{c:Array Value}(h:hB w b o c)(d:0<c.size):b<w.heap.size:=by
 have:=h 0 d
 rw[UA d]at this
 exact World.block_lt_of_cell? w _ this
theorem mT{P:Program}{d:TypeId}{w:World}{c o:Nat}{b:Array Value}(ht:l9 P d b.size)(h:hB w c o b):(loadVar d ⟨c,o,none⟩).run P w=.ok (.agg b) w:=by
 obtain⟨h1,h2⟩:=yp ht
 have hl:(loadCells ⟨c,o,none⟩ b.toList.length).run P w=.ok b.toList.toArray w:=by
  refine run_loadCells_list w _ _ (fun f l j=>?_)
  rw[kt]
  refine h.cell f ?_
  simpa using j
 have k:(loadCells ⟨c,o,none⟩ b.size).run P w=.ok b w:=by simpa using hl
 unfold loadVar
 rw[Sem.run_bind,h1,Result.andThen_ok]
 simp only[if_true]
 rw[Sem.run_bind,h2,Result.andThen_ok,Sem.run_bind,k,Result.andThen_ok]
 rfl
theorem q0{P:Program}{b:TypeId}{w:World}{a:Addr}{c:Value}(ht:iM P b)(h:w.cell? a=some c):(loadVar b a).run P w=.ok c w:=by
 simp[loadVar,tA ht,load,Sem.run,h]
section
variable{P:Program}{n:Nat}{e:Env}{w:World}{ops rest:List Oper}{K:Env→World→Prop}{dst:Option Tmp}{ty:TypeId}{pos:String}{af:Array Edge}{g:Option (Nat×Bool)}
theorem Y.move{x:Operand}:Y P e ⟨dst,.move x,ty,pos,af,g⟩ w (ev e x):=rfl
theorem Y.assign{x:Operand}:Y P e ⟨dst,.assign x,ty,pos,af,g⟩ w (ev e x):=rfl
theorem Y.load{x:Operand}{t:TypeId}{a:Addr}{v:Value}(ht:iM P t)(hx:ev e x=.pointer (some a))(hc:w.cell? a=some v):Y P e ⟨dst,.load t x,ty,pos,af,g⟩ w v:=by
 unfold Y
 simp[execOp,Instr.loadAt,hx,Instr.sureAddr,q0 ht hc]
theorem Y.hY{x:Operand}{t u:TypeId}{b o:Nat}{cs:Array Value}{c:Nat×Nat}{v:Value}(ht:iM P t)(hx:ev e x=.pointer (some ⟨b,o,none⟩))(d:w.heap[b]? =some (.cells cs u c))(f:cs[o]? =some v):
  Y P e ⟨dst,.load t x,ty,pos,af,g⟩ w v:=Y.load ht hx (jm d f)
theorem Y.D1{x:Operand}{t:TypeId}{b o:Nat}{cs:Array Value}(ht:l9 P t cs.size)(hx:ev e x=.pointer (some ⟨b,o,none⟩))(hc:hB w b o cs):Y P e ⟨dst,.load t x,ty,pos,af,g⟩ w (.agg cs):=by
 unfold Y
 simp[execOp,Instr.loadAt,hx,Instr.sureAddr,mT ht hc]
theorem Y.iU{x:Operand}{t:TypeId}{b o m:Nat}{cs:Array Value}(hs:cs.size=m)(ht:l9 P t m)(hx:ev e x=.pointer (some ⟨b,o,none⟩))(hc:hB w b o cs):Y P e ⟨dst,.load t x,ty,pos,af,g⟩ w (.agg cs):=
 Y.D1 (by rw[hs];exact ht) hx hc
theorem Y.jl{x:Operand}{t u:TypeId}{b:Nat}{cs:Array Value}{c:Nat×Nat}(hx:ev e x=Pt b)(d:w.heap[b]? =some (.cells cs u c))(ht:l9 P t cs.size):
  Y P e ⟨dst,.load t x,ty,pos,af,g⟩ w (.agg cs):=Y.D1 ht hx (.hE d)
theorem Y.field{x:Operand}{s d f b o:Nat}(c:iq P s d f)(hx:ev e x=.pointer (some ⟨b,o,none⟩)):Y P e ⟨dst,.fieldAddr s x d,ty,pos,af,g⟩ w (.pointer (some ⟨b,o+f,none⟩)):=by
 unfold iq at c
 cases hu:P.underlying s with
 |none=>rw[hu]at c;cases c
 |some j=>
  rw[hu]at c
  cases j with
  |struct k=>
   simp only at c
   cases Ko:k[d]? with
   |none=>rw[Ko]at c;cases c
   |some l=>
    rw[Ko]at c
    simp only[Tx,Uh]at c
    obtain⟨h1,h2⟩:=c
    cases hi:P.info? l.type with
    |none=>rw[hi]at h2;cases h2
    |some i=>
     rw[hi]at h2
     have m:¬i.size=0:=by simpa using h2
     unfold Y
     simp[execOp,Instr.fieldAt,hx,Instr.sureAddr,run_underlying hu,Ko,fieldPlace,sizeOf,typeInfo,hi,m,kt,h1]
  |_=>cases c
theorem mL{b c d:Nat}(h:jT P b c d):P.underlying b=some (.slice c)∧∀w,(sizeOf c).run P w=.ok d w:=by
 unfold jT at h
 cases hu:P.underlying b with
 |none=>rw[hu]at h;cases h
 |some f=>
  rw[hu]at h
  cases f with
  |slice j=>
   simp only[Tx,Uh]at h
   obtain⟨h1,h2⟩:=h
   subst h1
   refine⟨rfl,fun w=>?_⟩
   cases hi:P.info? j with
   |none=>rw[hi]at h2;cases h2
   |some i=>rw[hi]at h2;simp[sizeOf,typeInfo,hi];simpa using h2
  |_=>cases h
theorem Y.index{x c:Operand}{t el d b o f l i:Nat}{k:IntKind}{j:Int}(ht:jT P t el d)(hx:ev e x=.slice (some ⟨b,o,none⟩) f l)(hi:ev e c=.int k j)(m:j=(i:Int))(p:i<f):
  Y P e ⟨dst,.indexAddr t x c,ty,pos,af,g⟩ w (.pointer (some ⟨b,o+i*d,none⟩)):=by
 obtain⟨h1,h2⟩:=mL ht
 subst m
 unfold Y
 simp[execOp,Instr.indexAt,hx,hi,asIntOf,run_underlying h1,h2,p,kt]
theorem Y.mW{x:Operand}{t el:Nat}{a:Option Addr}{b c:Nat}(ht:P.underlying t=some (.slice el))(hx:ev e x=.slice a b c):
  Y P e ⟨dst,.call ⟨.builtin .len,#[x],#[t]⟩,ty,pos,af,g⟩ w (.int .i64 b):=by
 unfold Y
 simp[execOp,resolve,Go.invoke,builtin,Builtin.len_,hx,run_underlying ht,goInt]
theorem Y.ER{x:Operand}{t:Nat}{s:ByteArray}(ht:P.underlying t=some .string)(hx:ev e x=.string s):
  Y P e ⟨dst,.call ⟨.builtin .len,#[x],#[t]⟩,ty,pos,af,g⟩ w (.int .i64 s.size):=by
 unfold Y
 simp[execOp,resolve,Go.invoke,builtin,Builtin.len_,hx,run_underlying ht,goInt]
theorem Y.add{x y:Operand}{t u:TypeId}{k:IntKind}{a b:Int}(hx:ev e x=.int k a)(c:ev e y=.int k b):Y P e ⟨dst,.binOp .add t x y u,ty,pos,af,g⟩ w (.int k (k.wrap (a+b))):=by
 unfold Y;simp[execOp,hx,c,eqGuard,binOp,Op.intArith]
theorem Y.sub{x y:Operand}{t u:TypeId}{k:IntKind}{a b:Int}(hx:ev e x=.int k a)(c:ev e y=.int k b):Y P e ⟨dst,.binOp .sub t x y u,ty,pos,af,g⟩ w (.int k (k.wrap (a - b))):=by
 unfold Y;simp[execOp,hx,c,eqGuard,binOp,Op.intArith]
theorem Y.mul{x y:Operand}{t u:TypeId}{k:IntKind}{a b:Int}(hx:ev e x=.int k a)(c:ev e y=.int k b):Y P e ⟨dst,.binOp .mul t x y u,ty,pos,af,g⟩ w (.int k (k.wrap (a*b))):=by
 unfold Y;simp[execOp,hx,c,eqGuard,binOp,Op.intArith]
theorem Y.mm{x y:Operand}{t u:TypeId}{a b:Int}{c:Int}(hx:ev e x=.int .i64 a)(d:ev e y=.int .i64 b)(hc:a+b=c)(h1: -9223372036854775808≤a+b)(h2:a+b≤9223372036854775807):Y P e ⟨dst,.binOp .add t x y u,ty,pos,af,g⟩ w (.int .i64 c):=by
 have:=Y.add (P:=P) (w:=w) (dst:=dst) (t:=t) (u:=u) (ty:=ty) (pos:=pos) (af:=af) (g:=g) hx d
 rw[wrap_i64 h1 h2,hc]at this;exact this
theorem Y.n8{x y:Operand}{t u:TypeId}{a b:Int}{c:Int}(hx:ev e x=.int .i64 a)(d:ev e y=.int .i64 b)(hc:a - b=c)(h1: -9223372036854775808≤a - b)(h2:a - b≤9223372036854775807):Y P e ⟨dst,.binOp .sub t x y u,ty,pos,af,g⟩ w (.int .i64 c):=by
 have:=Y.sub (P:=P) (w:=w) (dst:=dst) (t:=t) (u:=u) (ty:=ty) (pos:=pos) (af:=af) (g:=g) hx d
 rw[wrap_i64 h1 h2,hc]at this;exact this
theorem Y.quo{x y:Operand}{t u:TypeId}{k:IntKind}{a b:Int}(hx:ev e x=.int k a)(c:ev e y=.int k b)(d:b≠0):Y P e ⟨dst,.binOp .quo t x y u,ty,pos,af,g⟩ w (.int k (k.wrap (a.tdiv b))):=by
 unfold Y;simp[execOp,hx,c,eqGuard,binOp,Op.intDiv,d]
theorem Y.rem{x y:Operand}{t u:TypeId}{k:IntKind}{a b:Int}(hx:ev e x=.int k a)(c:ev e y=.int k b)(d:b≠0):Y P e ⟨dst,.binOp .rem t x y u,ty,pos,af,g⟩ w (.int k (a.tmod b)):=by
 unfold Y;simp[execOp,hx,c,eqGuard,binOp,Op.intDiv,d]
theorem Y.eq{x y:Operand}{t u:TypeId}{k:IntKind}{a b:Int}(hx:ev e x=.int k a)(c:ev e y=.int k b):Y P e ⟨dst,.binOp .eql t x y u,ty,pos,af,g⟩ w (.bool (decide (a=b))):=by
 unfold Y;simp[execOp,hx,c,eqGuard,binOp,Op.intCmp];rfl
theorem Y.ne{x y:Operand}{t u:TypeId}{k:IntKind}{a b:Int}(hx:ev e x=.int k a)(c:ev e y=.int k b):Y P e ⟨dst,.binOp .neq t x y u,ty,pos,af,g⟩ w (.bool (decide (¬a=b))):=by
 unfold Y;simp[execOp,hx,c,eqGuard,binOp,Op.intCmp];rfl
theorem Y.lt{x y:Operand}{t u:TypeId}{k:IntKind}{a b:Int}(hx:ev e x=.int k a)(c:ev e y=.int k b):Y P e ⟨dst,.binOp .lss t x y u,ty,pos,af,g⟩ w (.bool (decide (a<b))):=by
 unfold Y;simp[execOp,hx,c,eqGuard,binOp,Op.intCmp]
theorem Y.le{x y:Operand}{t u:TypeId}{k:IntKind}{a b:Int}(hx:ev e x=.int k a)(c:ev e y=.int k b):Y P e ⟨dst,.binOp .leq t x y u,ty,pos,af,g⟩ w (.bool (decide (a≤b))):=by
 unfold Y;simp[execOp,hx,c,eqGuard,binOp,Op.intCmp]
theorem Y.gt{x y:Operand}{t u:TypeId}{k:IntKind}{a b:Int}(hx:ev e x=.int k a)(c:ev e y=.int k b):Y P e ⟨dst,.binOp .gtr t x y u,ty,pos,af,g⟩ w (.bool (decide (b<a))):=by
 unfold Y;simp[execOp,hx,c,eqGuard,binOp,Op.intCmp]
theorem Y.ge{x y:Operand}{t u:TypeId}{k:IntKind}{a b:Int}(hx:ev e x=.int k a)(c:ev e y=.int k b):Y P e ⟨dst,.binOp .geq t x y u,ty,pos,af,g⟩ w (.bool (decide (b≤a))):=by
 unfold Y;simp[execOp,hx,c,eqGuard,binOp,Op.intCmp]
theorem toList_inj{a b:ByteArray}:(a.toList==b.toList)=decide (a=b):=by
 by_cases h:a=b
 ·subst h;simp
 have:¬a.toList=b.toList:=fun c=>h (by rw[ByteArray.toList_eq,ByteArray.toList_eq]at c;exact ByteArray.ext (Array.toList_inj.1 c))
 simp[h,this]
theorem Y.seq{x y:Operand}{t u:TypeId}{a b:ByteArray}(hx:ev e x=.string a)(c:ev e y=.string b):Y P e ⟨dst,.binOp .eql t x y u,ty,pos,af,g⟩ w (.bool (decide (a=b))):=by
 unfold Y;rw[←toList_inj];simp[execOp,hx,c,eqGuard,binOp,Op.stringOp]
theorem Y.vK{x y:Operand}{t u:TypeId}{a b:ByteArray}(hx:ev e x=.string a)(c:ev e y=.string b):Y P e ⟨dst,.binOp .neq t x y u,ty,pos,af,g⟩ w (.bool (!decide (a=b))):=by
 unfold Y;rw[←toList_inj];simp[execOp,hx,c,eqGuard,binOp,Op.stringOp]
theorem Y.slt{x y:Operand}{t u:TypeId}{a b:ByteArray}(hx:ev e x=.string a)(c:ev e y=.string b):Y P e ⟨dst,.binOp .lss t x y u,ty,pos,af,g⟩ w (.bool (Op.bytesLess a.toList b.toList)):=by
 unfold Y;simp[execOp,hx,c,eqGuard,binOp,Op.stringOp]
theorem Y.Sc{x y:Operand}{t u:TypeId}{a b:ByteArray}(hx:ev e x=.string a)(c:ev e y=.string b):Y P e ⟨dst,.binOp .gtr t x y u,ty,pos,af,g⟩ w (.bool (!(Op.bytesLess a.toList b.toList||decide (a=b)))):=by
 unfold Y;rw[←toList_inj];simp[execOp,hx,c,eqGuard,binOp,Op.stringOp]
theorem Y.beq{x y:Operand}{t u:TypeId}{a b:Bool}(ht:P.underlying t=some .bool)(hx:ev e x=.bool a)(c:ev e y=.bool b):Y P e ⟨dst,.binOp .eql t x y u,ty,pos,af,g⟩ w (.bool (a==b)):=by
 have h1:(Op.equal t (.bool a) (.bool b)).run P w=.ok (a==b) w:=by
  unfold Op.equal Op.maxDepth Op.equalIn
  simp only[Sem.run_bind,run_underlying ht,Result.andThen]
  rfl
 have h2:binOp .eql t (.bool a) (.bool b)=(do pure (.bool (←Op.equal t (.bool a) (.bool b)))):=rfl
 unfold Y
 simp only[execOp,hx,c,eqGuard_at_bool,h2,Sem.run_bind,Sem.run_pure,Result.andThen_ok,h1]
theorem Y.cat{x y:Operand}{t u:TypeId}{a b:ByteArray}(hx:ev e x=.string a)(c:ev e y=.string b)(h:a.size+b.size≤9223372036854775807):Y P e ⟨dst,.binOp .add t x y u,ty,pos,af,g⟩ w (.string (a++b)):=by
 unfold Y
 have:¬(9223372036854775807:Int)<(a.size:Int)+(b.size:Int):=by omega
 simp[execOp,hx,c,eqGuard,binOp,Op.stringOp,IntKind.max_i64,this]
theorem Y.not{x:Operand}{t:TypeId}{b:Bool}(hx:ev e x=.bool b):Y P e ⟨dst,.unOp .not t x,ty,pos,af,g⟩ w (.bool (!b)):=by
 unfold Y;simp[execOp,hx,Op.unary]
theorem Y.neg{x:Operand}{t:TypeId}{k:IntKind}{a:Int}(hx:ev e x=.int k a):Y P e ⟨dst,.unOp .neg t x,ty,pos,af,g⟩ w (.int k (k.wrap (0 - a))):=by
 unfold Y;simp[execOp,hx,Op.unary,Op.intArith]
theorem q7{c:TypeId}(h:nI P c):∃b,P.underlying c=some b∧∀d,b≠ .interface d:=by
 unfold nI at h
 cases hd:P.underlying c with
 |none=>rw[hd]at h;cases h
 |some b=>rw[hd]at h;refine⟨b,rfl,fun d f=>?_⟩;subst f;cases h
theorem Y.RY{x:Operand}{t:TypeId}(ht:nI P t):Y P e ⟨dst,.makeInterface t x,ty,pos,af,g⟩ w (.iface t (ev e x)):=by
 obtain⟨b,c,d⟩:=q7 ht
 unfold Y
 simp only[execOp,Instr.makeInterface,Sem.run_bind,run_underlying c,Result.andThen]
 cases b<;>first|rfl|exact Tu rfl (d _)
def jh(P:Program)(t:TypeId):Option Value:=(P.info? t).bind (·.zero)
theorem rU{b:TypeId}{c:Value}(h:jh P b=some c)(w:World):(zeroValue b).run P w=.ok c w:=by
 unfold jh at h
 cases hi:P.info? b with
 |none=>rw[hi]at h;cases h
 |some i=>rw[hi]at h;simp only[Vn]at h;simp[zeroValue,typeInfo,hi,h]
theorem Y.extract{x:Operand}{i:Nat}{b:Array Value}{v:Value}(hx:ev e x=.tuple b)(c:b[i]? =some v):Y P e ⟨dst,.extract x i,ty,pos,af,g⟩ w v:=by
 unfold Y;simp[execOp,Instr.extract,hx,c]
theorem Y.w6{c x y:Operand}(hc:ev e c=.bool true):Y P e ⟨dst,.pick c x y,ty,pos,af,g⟩ w (ev e x):=by
 unfold Y;simp[execOp,asBool,hc]
theorem Y.r9{c x y:Operand}(hc:ev e c=.bool false):Y P e ⟨dst,.pick c x y,ty,pos,af,g⟩ w (ev e y):=by
 unfold Y;simp[execOp,asBool,hc]
theorem Y.and{c x y:Operand}{b q:Bool}(hc:ev e c=.bool b)(hx:b=true→ev e x=.bool q)(d:ev e y=.bool false):Y P e ⟨dst,.pick c x y,ty,pos,af,g⟩ w (.bool (b&&q)):=by
 cases b with
 |true=>have:=Y.w6 (P:=P) (w:=w) (dst:=dst) (ty:=ty) (pos:=pos) (af:=af) (g:=g) (x:=x) (y:=y) hc;rw[hx rfl]at this;exact this
 |false=>have:=Y.r9 (P:=P) (w:=w) (dst:=dst) (ty:=ty) (pos:=pos) (af:=af) (g:=g) (x:=x) (y:=y) hc;rw[d]at this;exact this
theorem Y.or{c x y:Operand}{b q:Bool}(hc:ev e c=.bool b)(hx:ev e x=.bool true)(d:b=false→ev e y=.bool q):Y P e ⟨dst,.pick c x y,ty,pos,af,g⟩ w (.bool (b||q)):=by
 cases b with
 |true=>have:=Y.w6 (P:=P) (w:=w) (dst:=dst) (ty:=ty) (pos:=pos) (af:=af) (g:=g) (x:=x) (y:=y) hc;rw[hx]at this;exact this
 |false=>have:=Y.r9 (P:=P) (w:=w) (dst:=dst) (ty:=ty) (pos:=pos) (af:=af) (g:=g) (x:=x) (y:=y) hc;rw[d rfl]at this;exact this
theorem Y.nil{x:Operand}{a:Addr}(hx:ev e x=.pointer (some a)):Y P e ⟨dst,.nilCheck x,ty,pos,af,g⟩ w (.pointer (some a)):=by
 unfold Y;simp[execOp,hx]
theorem Y.Dt{x:Operand}{s t:TypeId}{k k':IntKind}{a:Int}(hs:(P.underlying s).isSome)(ht:P.underlying t=some (.int k'))(hx:ev e x=.int k a):Y P e ⟨dst,.convert s t x,ty,pos,af,g⟩ w (.int k' (k'.wrap a)):=by
 obtain⟨c,b⟩:=UO.1 hs
 unfold Y;simp[execOp,convert,run_underlying b,run_underlying ht,hx,Conv.intToInt]
theorem DL.new{o:Oper}{c:Nat}{ob:Obj}(f:hU ops e o.guard)(d:o.dst=some c)(j:Nat.blt c n)(h:(execOp (ev e) o).run P w=.ok (.value (.pointer (some ⟨w.heap.size,0,none⟩))) {w with heap:=w.heap.push ob})
  (k:∀b w',Fr [] w w'→w.heap.size≤b→b<w'.heap.size→w'.heap[b]? =some ob→DL P n ops rest (jZ e c (Pt b)) w' K):DL P n ops (o::rest) e w K:=by
 refine DL.run f (by rw[d];exact j) h ?_
 rw[d]
 exact k w.heap.size _ (mN w ob) (Tv _) Al (mr w ob)
theorem DL.Pw{x:Operand}{d:TypeId}{c:Nat}{cs:Array Value}(f:hU ops e g)(j:Nat.blt c n)(hx:ev e x=.agg cs)
  (k:∀b w',Fr [] w w'→w.heap.size≤b→b<w'.heap.size→w'.heap[b]? =some (.cells cs d (0,0))→DL P n ops rest (jZ e c (Pt b)) w' K):
  DL P n ops (⟨some c,.box d x,ty,pos,af,g⟩::rest) e w K:=
 DL.new f rfl j (by simp[execOp,Instr.box,newVar,newRow,newObj,hx,Value.cells,Sem.run]) k
theorem DL.alloc{c:TypeId}{d:Nat}{f:Value}{cs:Array Value}(j:hU ops e g)(k:Nat.blt d n)(l:jh P c=some f)(hc:f.cells=cs)
  (m:∀b w',Fr [] w w'→w.heap.size≤b→b<w'.heap.size→w'.heap[b]? =some (.cells cs c (0,0))→DL P n ops rest (jZ e d (Pt b)) w' K):
  DL P n ops (⟨some d,.alloc c,ty,pos,af,g⟩::rest) e w K:=
 DL.new j rfl k (by simp[execOp,Instr.alloc,rU l,newVar,newRow,newObj,hc,Sem.run]) m
theorem DL.store{x y:Operand}{c j:TypeId}{b o:Nat}{cs:Array Value}{v:Value}(l:hU ops e g)(ht:P.cellsOf c=1)(hi:(P.info? c).isSome)(hx:ev e x=.pointer (some ⟨b,o,none⟩))(m:ev e y=v)(k:v.oneCell')
  (d:w.heap[b]? =some (.cells cs j (0,0))) (f:Nat.blt o cs.size)
  (p:∀w',Fr [b] w w'→w'.heap.size=w.heap.size→w'.heap[b]? =some (.cells (cs.setIfInBounds o v) j (0,0))→DL P n ops rest e w' K):
  DL P n ops (⟨none,.store c x y,ty,pos,af,g⟩::rest) e w K:=by
 have f:o<cs.size:=TM f
 obtain⟨i,hi⟩:=UO.1 hi
 have hs:i.size=1:=by simpa[Program.cellsOf,hi]using ht
 have q:v.cells=#[v]:=by cases v<;>first|rfl|cases k
 have hc:w.cell? ⟨b,o,none⟩=some cs[o]:=jm d (UA f)
 have r:w.frozen? ⟨b,o,none⟩=false:=by simp[World.frozen?,d]
 have t:(Sem.store .plain (Addr.add ⟨b,o,none⟩ 0) v (Sem.pure ())).run P w=.ok () (w.setCell ⟨b,o,none⟩ v):=by
  rw[kt,Va]
  cases v<;>first|(simp[Sem.run,hc,r];done)|cases k
 refine DL.Kz l rfl (w':=w.setCell ⟨b,o,none⟩ v) ?_ ?_
 ·simp[execOp,Instr.storeAt,hx,m,Instr.sureAddr,storeVar,sizeOf,typeInfo,hi,hs,q,storeCells,Go.store,t]
 exact p _ (wB w ⟨b,o,none⟩ v) (by simp[World.setCell]) (u3 v d)
class hG (P:Program) (f:FuncId):Prop where
 out : ∃ fn, P.funcs[f]? = some fn ∧ (fn.name == "runtime.NumGoroutine") = false ∧ fn.body.isNone = false
theorem pJ{c:FuncId}{b:Array Operand}{d:Array TypeId}(f:hG P c):(execOp (ev e) ⟨dst,.call ⟨.value (.func c),b,d⟩,ty,pos,af,g⟩).run P w=.ok (.enter c (b.map (ev e))) w:=by
 obtain⟨m,h1,h2,j⟩:=f.out
 have k:execOp (ev e) ⟨dst,.call ⟨.value (.func c),b,d⟩,ty,pos,af,g⟩=callFunc c (#[]++b.map (ev e)++ #[]):=rfl
 have l:(#[]++b.map (ev e)++ #[])=b.map (ev e):=by simp
 rw[k,l]
 unfold callFunc
 simp only[Sem.run_bind,run_program,Result.andThen_ok,h1,h2,j,UN,if_false]
 rfl
def K9(e:Env):List Operand→List Value
 |[]=>[]
 |x::r=>ev e x::K9 e r
theorem sR(e:Env):∀b,K9 e b=b.map (ev e)
 |[]=>rfl
 |x::c=>by simp[K9,sR e c]
def hH(w:World)(S:List Nat)(post:Value→World→Prop):Ending→World→Prop
 | .returned v,w'=>Fr S w w'∧post v w'
 |_,_=>False
theorem DL.call{b:FuncId}{c:List Operand}{d:List Value}{k:Array TypeId}{f:List Nat}{j:Value→World→Prop}(l:hU ops e g)(m:nE n dst)(p:hG P b)(q:K9 e c=d)
  (hc:Calls P b d.toArray w (hH w f j)) (r:∀v w',Fr f w w'→j v w'→DL P n ops rest (put e dst v) w' K):
  DL P n ops (⟨dst,.call ⟨.value (.func b),c.toArray,k⟩,ty,pos,af,g⟩::rest) e w K:=by
 refine DL.op l m fun next a y N t u hk=>?_
 unfold Oper.wp
 rw[t,pJ p,Oper.upon_enter]
 have:(c.toArray.map (ev e))=d.toArray:=by rw[←q,sR];simp
 rw[this]
 refine hc.mono fun x w' hx=>?_
 cases x with
 |returned v=>exact u _ _ (hk _ _ (r v w' hx.1 hx.2))
 |_=>exact hx.elim
structure DQ(P:Program)(n:Nat)(ops:List Oper)(C:World→Prop)(l:List Oper)(e:Env)(K:Env→Prop):Prop where
 out:∀(a:Act)(Q:Act→Prop),mJ n a e→(∀a' e',mJ n a' e'→(∀t,t∉iQ l→e' t=e t)→K e'→Q a')→wpQuiet P ops.toArray C Q l a
section
variable{C:World→Prop}{KQ:Env→Prop}{o:Oper}
theorem DQ.nil(h:KQ e):DQ P n ops C [] e KQ:=⟨fun a d b c=>c a e b (fun _ _=>rfl) h⟩
theorem DQ.y{v:Value}(c:hU ops e o.guard)(d:nE n o.dst)(h:∀w,C w→Y P e o w v)(f:DQ P n ops C rest (put e o.dst v) KQ):DQ P n ops C (o::rest) e KQ:=by
 refine⟨fun a t b j=>?_⟩
 unfold wpQuiet
 rw[jx b,c,TU rfl]
 refine⟨v,fun w hw=>?_,f.out _ _ (b.put o.dst v (jy d)) (fun k l h1 h2 m=>j k l h1 (fun p ht=>?_) m)⟩
 ·unfold Oper.quietAt
  rw[b.eval,h w hw]
  exact⟨rfl,rfl⟩
 obtain⟨q,r⟩:=jz ht
 rw[h2 p q,mX _ r]
theorem DQ.skip(c:hU ops e o.guard=false)(d:nE n o.dst)(f:DQ P n ops C rest (put e o.dst undef) KQ):DQ P n ops C (o::rest) e KQ:=by
 refine⟨fun a t b j=>?_⟩
 unfold wpQuiet
 rw[jx b,c,TI Al]
 refine f.out _ _ (b.put o.dst undef (jy d)) (fun k l h1 h2 m=>j k l h1 (fun p ht=>?_) m)
 obtain⟨q,r⟩:=jz ht
 rw[h2 p q,mX _ r]
theorem DQ.call{c:World}{d:FuncId}{f:List Operand}{j:List Value}{m:Array TypeId}{b:Value}(p:hU ops e g)(q:nE n dst)(r:hG P d)(t:K9 e f=j)
  (hc:∀w,Fr [] c w→Calls P d j.toArray w (hH w [] fun l _=>l=b)) (u:DQ P n ops (Fr [] c) rest (put e dst b) KQ):
  DQ P n ops (Fr [] c) (⟨dst,.call ⟨.value (.func d),f.toArray,m⟩,ty,pos,af,g⟩::rest) e KQ:=by
 refine⟨fun a F k v=>?_⟩
 unfold wpQuiet
 rw[jx k,p,TU rfl]
 refine⟨b,fun w hw=>?_,u.out _ _ (k.put dst b (jy q)) (fun y z h1 h2 A=>v y z h1 (fun B ht=>?_) A)⟩
 ·unfold Oper.quietAt
  rw[k.eval,pJ r]
  have:(f.toArray.map (ev e))=j.toArray:=by rw[←t,sR];simp
  rw[this]
  refine⟨rfl,(hc w hw).mono fun x G hx=>?_⟩
  cases x with
  |returned l=>exact⟨by rw[hx.2],hw.tr hx.1⟩
  |_=>exact hx.elim
 obtain⟨D,E⟩:=jz ht
 rw[h2 B D,mX _ E]
theorem DC.quiet{id:Nat}{l:List Oper}{f:Exit→Env→World→Prop}(k:P.follows .mixedOrders)(m:Region.lexB .any l.toArray)
  (h:DQ P n l (Fr [] w) l e (fun b=>∀c,Fr [] w c→f .normal b c)):DC P n (.region id l.toArray true) e w f:=by
 refine⟨fun a p=>?_⟩
 refine wp_region_quiet (C:=Fr [] w) k m (Fr.drawn w (w.drawn+1)) ?_
 have:=h.out a (fun j=>∀c,Fr [] w c→(∃b,mJ n j b∧(∀d,d∉ji (.region id l.toArray true)→b d=e d)∧f .normal b c)) p
  (fun j b h1 h2 q c hw=>⟨b,h1,fun d ht=>h2 d Br,q c hw⟩)
 simpa using this
end
def z7(P:Program)(e:Env)(w:World):List ResultVar→List Value→Prop
 |[],[]=>True
 | .tmp t::r,v::vs=>e t=v∧z7 P e w r vs
 | .cell t ty::r,v::vs=>(∃a,e t=.pointer (some a)∧(loadVar ty a).run P w=.ok v w)∧z7 P e w r vs
 |_,_=>False
def Jg:List Value→Value
 |[v]=>v
 |vs=>.tuple vs.toArray
def Po(P:Program)(res:List ResultVar)(R:Ending→World→Prop):Exit→Env→World→Prop
 | .ret,e,w| .normal,e,w=>∃vs,z7 P e w res vs∧R (.returned (Jg vs)) w
 |_,_,_=>False
structure hD(P:Program)(res:List ResultVar)(R:Ending→World→Prop)(x:Exit)(e:Env)(w:World):Prop where
 out:Po P res R x e w
theorem Hx(d:List Value):∀c b,DJ c d (c+b)=ud d b:=by
 induction d with
 |nil=>intro c b;simp[DJ,ud,get]
 |cons j d f=>
  intro c b
  unfold DJ
  cases b with
  |zero=>exact jF _ _ _
  |succ b=>rw[mA _ _ Ac,show c+(b+1)=c+1+b by omega,f];rfl
def G6(args:List Value):Env:=DJ 0 args
def o4(tmps:Array Value):ResultVar→Sem Value
 | .tmp t=>pure (tmps.getD t undef)
 | .cell a t=>do loadVar t (←asAddr (tmps.getD a undef))
theorem pM{k:Func}{d:List ResultVar}(r:k.results=d.toArray){a:Act}{t:Nat}(p:mJ t a e){b:List Value}(h:z7 P e w d b):(results k a.tmps).run P w=.ok (Jg b) w:=by
 have u:∀c,(o4 a.tmps (.tmp c)).run P w=.ok (e c) w:=fun c=>by simp only[o4,p.get];rfl
 have v:∀c ty j f,e c=.pointer (some j)→(loadVar ty j).run P w=.ok f w→(o4 a.tmps (.cell c ty)).run P w=.ok f w:=fun c ty j f h1 h2=>by
  simp only[o4,p.get,h1,asAddr,Sem.run_bind,Sem.run_pure,Result.andThen_ok,h2]
 have y:∀(d:List ResultVar)(b:List Value),z7 P e w d b→(d.mapM (o4 a.tmps)).run P w=.ok b w:=by
  intro d
  induction d with
  |nil=>intro b h;cases b with
   |nil=>rfl
   |cons _ _=>cases h
  |cons l d q=>
   intro b h
   cases b with
   |nil=>cases l<;>cases h
   |cons f b=>
    rw[List.mapM_cons]
    cases l with
    |tmp c=>
     have h2:=q b h.2
     simp only[Sem.run_bind,u c,Result.andThen_ok,h2,h.1,Sem.run_pure]
    |cell z c=>
     obtain⟨⟨j,h1,h2⟩,m⟩:=h
     have A:=q b m
     simp only[Sem.run_bind,v z c j f h1 h2,Result.andThen_ok,A,Sem.run_pure]
 have h2:=y d b h
 have m:(results k a.tmps)=(do let b←k.results.mapM (o4 a.tmps);pure (if h:b.size=1 then b[0]else .tuple b)):=rfl
 rw[m,r,List.mapM_toArray]
 simp only[Sem.run_bind,Sem.run_map,h2,Result.andThen_ok,Sem.run_pure]
 match b with
 |[]=>rfl
 |[f]=>rfl
 |f::B::l=>simp[Jg]
theorem GN(c:List Value):∀b,ud c b=c.getD b undef:=by
 induction c with
 |nil=>intro b;simp[ud]
 |cons f c d=>intro b;cases b with
  |zero=>simp[ud]
  |succ b=>simp[ud,d]
theorem DW{l:FuncId}{c:Func}{body:Code}{b:List Value}{res:List ResultVar}{m:Ending→World→Prop}(r:P.funcs[l]? =some c)(t:c.body=some body)(p:c.results=res.toArray)(u:c.ntmps=n)(q:Nat.ble b.length n)
  (h:DC P n body (G6 b) w (jr P n [] (hD P res m))):Calls P l b.toArray w m:=by
 have q:=TM q
 refine calls_of_wp r t ?_
 have v:mJ n {tmps:=b.toArray++Array.replicate (c.ntmps - b.toArray.size) undef,defers:=[]} (G6 b):=by
  refine⟨rfl,by simp[u];omega,fun d=>?_⟩
  have y:G6 b d=ud b d:=by have:=Hx b 0 d;rwa[T9]at this
  rw[y,GN,Ug,TL]
  by_cases ht:d<b.length
  ·rw[VN (by simpa using ht)];simp
  rw[Array.getElem?_append_right (by simpa using ht),VE Ac,Array.getElem?_replicate]
  split<;>rfl
 refine wp_mono (h.out _ v) ?_
 rintro x A B ⟨D,h1, -,f⟩
 cases x with
 |normal=>obtain⟨⟨z,j,k⟩⟩:=f;exact⟨h1.defers,_,pM p h1 j,k⟩
 |ret=>obtain⟨⟨z,j,k⟩⟩:=f;exact⟨h1.defers,_,pM p h1 j,k⟩
 |_=>exact f.out.elim
theorem hD.jR{b:Nat}{v:Value}{c:Ending→World→Prop}(h:e b=v)(d:c (.returned v) w):hD P [.tmp b] c .ret e w:=⟨⟨[v],⟨h,trivial⟩,d⟩⟩
theorem hD.ia{b c:Nat}{v x:Value}{d:Ending→World→Prop}(h:e b=v)(f:e c=x)(j:d (.returned (.tuple #[v,x])) w):hD P [.tmp b,.tmp c] d .ret e w:=⟨⟨[v,x],⟨h,f,trivial⟩,j⟩⟩
theorem hD.nf{b:Ending→World→Prop}(c:b (.returned (.tuple #[])) w):hD P [] b .normal e w:=⟨⟨[],trivial,c⟩⟩
theorem hD.Hp{b:Ending→World→Prop}(c:b (.returned (.tuple #[])) w):hD P [] b .ret e w:=⟨⟨[],trivial,c⟩⟩
theorem hD.hZ{b ty c o:Nat}{cs:Array Value}{d:Ending→World→Prop}(h:e b=.pointer (some ⟨c,o,none⟩))(ht:l9 P ty cs.size)(hc:hB w c o cs)(f:d (.returned (.agg cs)) w):hD P [.cell b ty] d .ret e w:=
 ⟨⟨[.agg cs],⟨⟨_,h,mT ht hc⟩,trivial⟩,f⟩⟩
theorem hH.mk{b:World}{c:List Nat}{d:Value→World→Prop}{f:Value}(h:Fr c w b)(j:d f b):hH w c d (.returned f) b:=⟨h,j⟩
theorem DL.u5{o:Oper}{b:Bool}(c:hU ops e o.guard)(d:nE n o.dst)(h:Y P e o w (.bool b))(ht:b=true→DL P n ops rest (put e o.dst (.bool true)) w K)
  (f:b=false→DL P n ops rest (put e o.dst (.bool false)) w K):DL P n ops (o::rest) e w K:=by
 cases b with
 |true=>exact DL.y c d h (ht rfl)
 |false=>exact DL.y c d h (f rfl)
end
end Go.Proofs.YtlojelcoibpphaaGreatDoor.D
namespace Go.Proofs.YtlojelcoibpphaaGreatDoor.D
open Go Go.RowKit Go.Deep
def p3(P:Program)(fs:Array Field):Option (Array (Nat×Nat)):=fs.mapM fun f=>(P.info? f.type).map fun i=>(f.offset,i.size)
def vS(P:Program)(t:TypeId)(parts:List (Nat×Value)):Option (Array Value):=
 match jh P t,P.underlying t with
 |some z,some (.struct fs)=>(p3 P fs).bind fun places=>Instr.fill (places[·]?) z.cells parts
 |_,_=>none
def GJ(e:Env):List (Nat×Operand)→List (Nat×Value)
 |[]=>[]
 |p::r=>(p.1,ev e p.2)::GJ e r
theorem tj(e:Env):∀b,GJ e b=b.map fun c=>(c.1,ev e c.2)
 |[]=>rfl
 |x::d=>by simp[GJ,tj e d]
section
variable{P:Program}{n:Nat}{e:Env}{w:World}{ops rest:List Oper}{K:Env→World→Prop}{dst:Option Tmp}{ty:TypeId}{pos:String}{af:Array Edge}{g:Option (Nat×Bool)}
theorem tV{f:Array Field}{j:Array (Nat×Nat)}(h:p3 P f=some j)(w:World):(f.mapM fun b=>do pure (b.offset,←sizeOf b.type):Sem (Array (Nat×Nat))).run P w=.ok j w:=by
 obtain⟨c⟩:=f
 unfold p3 at h
 rw[List.mapM_toArray]at h⊢
 have k:∀(c:List Field)(d:List (Nat×Nat)),(c.mapM fun b=>(P.info? b.type).map fun i=>(b.offset,i.size))=some d→(c.mapM fun b=>do pure (b.offset,←sizeOf b.type):Sem (List (Nat×Nat))).run P w=.ok d w:=by
  intro c
  induction c with
  |nil=>intro d h;simp only[List.mapM_nil,Option.pure_def,UD]at h;subst h;rfl
  |cons b c l=>
   intro d h
   rw[List.mapM_cons]at h⊢
   cases hi:P.info? b.type with
   |none=>rw[hi]at h;cases h
   |some i=>
    rw[hi]at h
    cases hr:(c.mapM fun b=>(P.info? b.type).map fun i=>(b.offset,i.size))with
    |none=>rw[hr]at h;cases h
    |some m=>
     rw[hr]at h
     have:=l m hr
     simp only[Vd,Option.bind_eq_bind,Vn,Option.pure_def,UD]at h
     subst h
     have h0:(sizeOf b.type).run P w=.ok i.size w:=by simp[sizeOf,typeInfo,hi]
     simp only[Sem.run_bind,h0,Result.andThen_ok,Sem.run_pure,this]
 cases hr:(c.mapM fun b=>(P.info? b.type).map fun i=>(b.offset,i.size))with
 |none=>rw[hr]at h;cases h
 |some d=>
  rw[hr]at h
  simp only[Option.map_eq_map,Vd,UD]at h
  subst h
  simp only[Sem.run_map,k c d hr,Result.andThen_ok]
theorem Y.build{t:TypeId}{b:List (Nat×Operand)}{cs:Array Value}(h:vS P t (GJ e b)=some cs):Y P e ⟨dst,.build t b.toArray,ty,pos,af,g⟩ w (.agg cs):=by
 unfold vS at h
 cases hz:jh P t with
 |none=>rw[hz]at h;cases h
 |some j=>
  rw[hz]at h
  cases hu:P.underlying t with
  |none=>rw[hu]at h;cases h
  |some c=>
   rw[hu]at h
   cases c with
   |struct d=>
    simp only at h
    cases hp:p3 P d with
    |none=>rw[hp]at h;cases h
    |some k=>
     rw[hp]at h
     simp only[Vn]at h
     have f:(b.toArray.map fun(i,x)=>(i,ev e x)).toList=GJ e b:=by rw[tj];simp
     have hrun:(Instr.build t (b.toArray.map fun(i,x)=>(i,ev e x))).run P w=.ok (.agg cs) w:=by
      unfold Instr.build
      simp only[Sem.run_bind,rU hz,Result.andThen_ok,run_underlying hu,tV hp]
      rw[f,h]
      rfl
     unfold Y
     simp only[execOp,Sem.run_bind,hrun,Result.andThen_ok,Sem.run_pure]
   |_=>cases h
theorem Y.OA{x y:Operand}{t u:TypeId}{k:IntKind}{a b c:Int}(hx:ev e x=.int k a)(d:ev e y=.int k b)(f:b≠0)(hc:k.wrap (a.tdiv b)=c):Y P e ⟨dst,.binOp .quo t x y u,ty,pos,af,g⟩ w (.int k c):=by
 rw[←hc];exact Y.quo hx d f
theorem DL.JT{x y:Operand}{c f:TypeId}{b d:Nat}{cs:Array Value}{v:Value}(j:hU ops e g)(ht:P.cellsOf c=1)(hi:(P.info? c).isSome)(hx:ev e x=.pointer (some ⟨b,d,none⟩))(k:ev e y=v)(l:v.oneCell')
  (m:w.heap[b]? =some (.cells cs f (0,0))) (o:d<cs.size)
  (p:∀w',Fr [b] w w'→w'.heap.size=w.heap.size→w'.heap[b]? =some (.cells (cs.setIfInBounds d v) f (0,0))→DL P n ops rest e w' K):
  DL P n ops (⟨none,.store c x y,ty,pos,af,g⟩::rest) e w K:=
 DL.store j ht hi hx k l m (Nat.ble_eq_true_of_le o) p
theorem DL.J4{x y:Operand}{c d:TypeId}{b f:Nat}{j cs:Array Value}(l:hU ops e g)(ht:l9 P c f)(hx:ev e x=Pt b)(m:ev e y=.agg cs)(hs:cs.size=f)(h1:cs.all (·.oneCell'))
  (k:w.heap[b]? =some (.cells j d (0,0))) (o:j.size=f)
  (p:∀w',Fr [b] w w'→w'.heap.size=w.heap.size→w'.heap[b]? =some (.cells cs d (0,0))→DL P n ops rest e w' K):
  DL P n ops (⟨none,.store c x y,ty,pos,af,g⟩::rest) e w K:=by
 have q:(P.info? c).map (·.size)=some cs.size:=by
  unfold l9 at ht
  rw[Tx]at ht
  cases hi:P.info? c with
  |none=>rw[hi]at ht;cases ht.2
  |some i=>rw[hi]at ht;simp only[Vd,hs];simpa using ht.2
 have hrun:=run_storeVar_row (P:=P) w b d c j cs k q (by rw[o,hs]) h1
 have u:=hC k
 refine DL.Kz (w':=w.setRow b cs) l rfl ?_ (p _ ⟨rfl,rfl,rfl,by simp[World.setRow],fun i hi r=>?_⟩ (by simp[World.setRow]) ?_)
 ·simp only[execOp,hx,m,Instr.storeAt,Instr.sureAddr,Sem.run_bind,Sem.run_pure,Result.andThen_ok,hrun]
 ·have t:b≠i:=fun h=>r (by simp[h])
  simp[World.setRow,UZ,t]
 simp[World.setRow,UZ,k]
end
section
variable{P:Program}{n:Nat}{e:Env}{w:World}{ops rest:List Oper}{K:Env→World→Prop}{dst:Option Tmp}{ty:TypeId}{pos:String}{af:Array Edge}{g:Option (Nat×Bool)}
theorem Y.vw{x y:Operand}{t:TypeId}{s:ByteArray}{k:IntKind}{l:Int}(ht:P.underlying t=some .string)(hx:ev e x=.string s)(b:ev e y=.int k l)(h0:0≤l)(h1:l≤s.size):
  Y P e ⟨dst,.slice t x (some y) none none,ty,pos,af,g⟩ w (.string (s.extract l.toNat s.size)):=by
 unfold Y
 simp[execOp,Instr.sliceAt,Instr.slice,run_underlying ht,hx,b,Instr.sliceBounds,Instr.sliceBound,asIntOf,h0,h1]
theorem Y.nh{x y b:Operand}{t:TypeId}{s:ByteArray}{k k':IntKind}{l h:Int}(ht:P.underlying t=some .string)(hx:ev e x=.string s)(c:ev e y=.int k l)(d:ev e b=.int k' h)(h0:0≤l)(h1:l≤h)(h2:h≤s.size):
  Y P e ⟨dst,.slice t x (some y) (some b) none,ty,pos,af,g⟩ w (.string (s.extract l.toNat h.toNat)):=by
 unfold Y
 have f:(h.toNat:Int)=h:=Int.toNat_of_nonneg Ac
 have j:0≤h:=by omega
 simp[execOp,Instr.sliceAt,Instr.slice,run_underlying ht,hx,c,d,Instr.sliceBounds,Instr.sliceBound,asIntOf,h0,h1,h2,f,j]
theorem hD.qm{b ty c d f:Nat}{cs:Array Value}{x:Value}{j:Ending→World→Prop}(h:e b=.pointer (some ⟨c,d,none⟩))(ht:l9 P ty cs.size)(hc:hB w c d cs)(hu:e f=x)(k:j (.returned (.tuple #[.agg cs,x])) w):hD P [.cell b ty,.tmp f] j .ret e w:=
 ⟨⟨[.agg cs,x],⟨⟨_,h,mT ht hc⟩,hu,trivial⟩,k⟩⟩
theorem Y.qW{x:Operand}{t u:TypeId}{b c:Nat}{cs sub:Array Value}{d:Nat×Nat}(hx:ev e x=.pointer (some ⟨b,c,none⟩))(f:w.heap[b]? =some (.cells cs u d))(hs:cs.extract c (c+sub.size)=sub)(ht:l9 P t sub.size):
  Y P e ⟨dst,.load t x,ty,pos,af,g⟩ w (.agg sub):=by
 refine Y.D1 ht hx (fun i hi=>?_)
 have h2:sub[i]? =(cs.extract c (c+sub.size))[i]? :=by rw[hs]
 rw[h2,Array.getElem?_extract]
 have j:(cs.extract c (c+sub.size)).size=sub.size:=by rw[hs]
 have k:min (c+sub.size) cs.size - c=sub.size:=by simpa using j
 rw[k,TU hi]
 simp[World.cell?,f]
end
section
variable{P:Program}{n:Nat}{e:Env}{w:World}{ops rest:List Oper}{K:Env→World→Prop}{dst:Option Tmp}{ty:TypeId}{pos:String}{af:Array Edge}{g:Option (Nat×Bool)}
theorem Y.Jz{x:Operand}{t:TypeId}{a c:Int}(hx:ev e x=.int .i64 a)(hc: -a=c)(h1: -9223372036854775808≤ -a)(h2: -a≤9223372036854775807):Y P e ⟨dst,.unOp .neg t x,ty,pos,af,g⟩ w (.int .i64 c):=by
 have:=Y.neg (P:=P) (w:=w) (dst:=dst) (ty:=ty) (pos:=pos) (af:=af) (g:=g) (t:=t) hx
 rw[show(0:Int) - a= -a by omega,wrap_i64 h1 h2,hc]at this
 exact this
theorem Y.FD{x:Operand}{s t:Nat}{k:IntKind}{b:Int}(hs:(P.underlying s).isSome)(ht:P.underlying t=some .string)(hx:ev e x=.int k b):Y P e ⟨dst,.convert s t x,ty,pos,af,g⟩ w (.string (Utf8.encode b)):=by
 obtain⟨d,c⟩:=UO.1 hs
 unfold Y;simp[execOp,convert,run_underlying c,run_underlying ht,hx,Conv.intToString]
end
def hX(v:Value):List Nat:=match v.ownBlock with|some b=>[b]|none=>[]
theorem hF{b:Value}{c:Nat}:c∈hX b↔b.ownBlock=some c:=by
 unfold hX
 cases h:b.ownBlock with
 |none=>simp
 |some d=>simp[eq_comm]
theorem ik{w:World}{c e f n:Nat}{d:Value}{j:List Value}(h:w.ownsRow c e f d n j):∀b∈hX d,c≤b∧b<w.heap.size:=fun b k=>h.lt b (hF.1 k)
theorem kX{c:List Nat}{w d:World}{f e j n:Nat}{b:Value}{k:List Value}(h:w.ownsRow f e j b n k)(l:Fr c w d)(hs:∀m∈c,b.ownBlock≠some m):d.ownsRow f e j b n k:=by
 refine⟨h.1,?_⟩
 rcases h.2 with o|⟨g,p,q,rfl,r,t,rest⟩
 ·exact .inl o
 exact .inr ⟨g,p,q,rfl,r,l.hO t (fun u=>hs g u (by simp[Value.ownBlock])),rest⟩
theorem mo{w b:World}{c:Value}(h:w.grownBy b c.ownBlock):Fr (hX c) w b:=
 ⟨h.os,h.tape,h.output,h.size,fun i hi hs=>h.block i hi (fun e=>hs (hF.2 e.symm))⟩
theorem kg{w:World}{k e b n:Nat}{l:Value}{f:List Value}(h:w.ownsRow k e b l n f):∃a j,l=.slice a n j∧n*b=f.length∧∀(i:Nat),i<n→∃d,a=some ⟨d,0,none⟩∧k≤d∧d<w.heap.size∧∀c,c<b→w.cell? ⟨d,i*b+c,none⟩=f[i*b+c]? :=by
 rcases h.2 with⟨rfl,rfl⟩|⟨g,j,q,rfl,o,m,r,_,t,ht⟩
 ·exact⟨none,0,rfl,h.1.symm,fun i hi=>Tu hi Ac⟩
 refine⟨some ⟨g,0,none⟩,j,rfl,h.1.symm,fun i hi=>⟨g,rfl,o,(UY.1 m).1,fun c hj=>?_⟩⟩
 have p:i*b+c<n*b:=by
  have h1:(i+1)*b≤n*b:=UP _ Ac
  rw[Nat.add_mul,Nat.one_mul]at h1
  omega
 rw[←ht,Vz,TU p]
 simp[World.cell?,m]
theorem yW(c:List Value):∀(b:Nat)(a:Array Value),((c.zipIdx b).foldl (fun(f:Array Value) (d:Value×Nat)=>f.setIfInBounds d.2 d.1) a).size=a.size∧
  ∀i,i<a.size→((c.zipIdx b).foldl (fun(f:Array Value) (d:Value×Nat)=>f.setIfInBounds d.2 d.1) a)[i]? =if b≤i∧i<b+c.length then c[i - b]? else a[i]? :=by
 induction c with
 |nil=>intro b a;simp;intro i hi h1 h2;omega
 |cons j c k=>
  intro b a
  obtain⟨h1,h2⟩:=k (b+1) (a.setIfInBounds b j)
  simp only[List.zipIdx_cons,Vy]
  refine⟨by rw[h1];simp,fun i hi=>?_⟩
  rw[h2 i A3]
  by_cases l:i=b
  ·subst l
   rw[TI Ac,TU Al]
   simp[hi]
  by_cases hc:b+1≤i∧i<b+1+c.length
  ·rw[TU hc,TU AM]
   rw[show i - b=(i - (b+1))+1 by omega]
   simp
  rw[TI hc,TI AM,U5 Ac]
theorem Ey{j:Value}{b d:Array Value}{f:Nat}(k:j.cells=b)(hs:b.size=f)(l:d.size=f):Instr.fill (fun i=>some (i*f,f)) d [(0,j)]=some b:=by
 unfold Instr.fill
 simp only[Nat.zero_mul,T9,k]
 rw[TI (by simp[hs,l])]
 unfold Instr.fill
 have h:=yW b.toList 0 d
 have e:(b.zipIdx.foldl (fun(a:Array Value) (c:Value×Nat)=>a.setIfInBounds c.2 c.1) d)=(b.toList.zipIdx 0).foldl (fun(a:Array Value) (c:Value×Nat)=>a.setIfInBounds c.2 c.1) d:=by
  rw[←Array.foldl_toList,Array.toList_zipIdx]
 congr 1
 show b.zipIdx.foldl (fun(a:Array Value) (c:Value×Nat)=>a.setIfInBounds c.2 c.1) d=b
 rw[e]
 apply Array.ext_getElem?
 intro i
 by_cases hi:i<d.size
 ·rw[h.2 i hi,TU ⟨TE _,by simp;omega⟩]
  simp
 rw[Uz (by rw[h.1];omega),Uz Ac]
section
variable{P:Program}{n:Nat}{e:Env}{w:World}{ops rest:List Oper}{K:Env→World→Prop}{dst:Option Tmp}{ty:TypeId}{pos:String}{af:Array Edge}{g:Option (Nat×Bool)}
def lR(P:Program)(t el size bytes:Nat):Bool:=match P.underlying t,P.info? el with
 |some (.slice el'),some i=>(el'==el)&&(i.size==size)&&(i.bytes==bytes)&&(match i.zero with|some z=>z.cells.size==size|none=>false)&& !(size==0)&&Nat.ble size 1000
 |_,_=>false
theorem kj{j f b k:Nat}(h:lR P j f b k):∃i c,P.underlying j=some (.slice f)∧P.info? f=some i∧i.size=b∧i.bytes=k∧i.zero=some c∧c.cells.size=b∧0<b∧b≤1000:=by
 unfold lR at h
 split at h
 ·rename_i q i h1 h2
  simp only[Tx,Uh,UR,beq_eq_false_iff_ne]at h
  obtain⟨⟨⟨⟨⟨l,m⟩,o⟩,d⟩,r⟩,p⟩:=h
  subst l
  cases hz:i.zero with
  |none=>rw[hz]at d;cases d
  |some c=>rw[hz]at d;exact⟨i,c,h1,h2,m,o,hz,by simpa using d,Ac,TM p⟩
 cases h
theorem DL.iu{x:Operand}{c f l m j:Nat}{v:Value}{cs:Array Value}(o:hU ops e g)(p:Nat.blt j n)(ht:lR P c f l m)(hx:ev e x=v)(q:v.cells=cs)(hs:cs.size=l)
  (r:∀b w',Fr [] w w'→w.heap.size≤b→b<w'.heap.size→w'.heap[b]? =some (.cells cs f (0,0))→DL P n ops rest (jZ e j (.slice (some ⟨b,0,none⟩) 1 1)) w' K):
  DL P n ops (⟨some j,.buildSlice c 1 #[(0,x)],ty,pos,af,g⟩::rest) e w K:=by
 obtain⟨i,t,h1,h2,k,A,u,B,C,D⟩:=kj ht
 have hrun:=run_buildSlice (P:=P) w c f 1 #[(0,v)] cs i t h1 h2 u (by rw[k];omega) (by rw[k];omega) (by
  rw[k]
  exact Ey q hs Al)
 refine DL.run (w':={w with heap:=w.heap.push (.cells cs f)}) o p (v:=.slice (some ⟨w.heap.size,0,none⟩) 1 1) ?_ (r w.heap.size _ (mN w _) (Tv _) Al (mr w _))
 have y:(#[(0,x)]:Array (Nat×Operand)).map (fun d=>(d.1,ev e d.2))=#[(0,v)]:=by simp[hx]
 have z:execOp (ev e) ⟨some j,.buildSlice c 1 #[(0,x)],ty,pos,af,g⟩=(do pure (.value (←Instr.buildSlice c 1 ((#[(0,x)]:Array (Nat×Operand)).map (fun d=>(d.1,ev e d.2)))))):=rfl
 rw[z,y]
 simp only[Sem.run_bind,hrun,Result.andThen_ok,Sem.run_pure]
 rfl
theorem DL.append{s x:Operand}{j k d m o l c r N b p:Nat}{u:Nat×Nat}{v:Value}{q:List Value}{news:Array Value}(y:hU ops e g)(z:Nat.blt o n)(ht:lR P j k d m)(hs:ev e s=v)(hx:ev e x=.slice (some ⟨b,0,none⟩) c r)
  (A:w.ownsRow l k d v N q) (B:w.heap[b]? =some (.cells news p u)) (hl:news.size=c*d) (h1:news.all (·.oneCell')) (hby:(N+c)*m≤140737488355328) (C:N+c≤9223372036854775807) (D:l≤w.heap.size)
  (E:∀f w',Fr (hX v) w w'→w'.ownsRow l k d f (N+c) (q++news.toList)→DL P n ops rest (jZ e o f) w' K):
  DL P n ops (⟨some o,.call ⟨.builtin .append,#[s,x],#[j,j]⟩,ty,pos,af,g⟩::rest) e w K:=by
 obtain⟨i,F,G,H,I,J,L,M,O,S⟩:=kj ht
 obtain⟨f,w',hrun,Q,R,_⟩:=run_append_own (P:=P) w l j ty k i F d m G H L I J M O v N q A ⟨b,0,none⟩ c r news.toList Bo (fun t p hu=>by
  rw[kt,T9]
  exact jm B (by simpa using hu)) (fun p hu=>by
  have:=VU.1 h1
  obtain⟨t,hj,rfl⟩:=T0 hu
  simpa using this t B1) C hby D
 refine DL.run y z (v:=f) ?_ (E f w' (mo R) Q)
 simp[execOp,resolve,Go.invoke,builtin,hs,hx,hrun]
theorem DL.vy{x y:Operand}{c f:TypeId}{b d:Nat}{cs cs':Array Value}{v:Value}(j:hU ops e g)(ht:P.cellsOf c=1)(hi:(P.info? c).isSome)(hx:ev e x=.pointer (some ⟨b,d,none⟩))(k:ev e y=v)(l:v.oneCell')
  (m:w.heap[b]? =some (.cells cs f (0,0))) (o:d<cs.size) (hc:cs.setIfInBounds d v=cs')
  (p:∀w',Fr [b] w w'→w'.heap.size=w.heap.size→w'.heap[b]? =some (.cells cs' f (0,0))→DL P n ops rest e w' K):
  DL P n ops (⟨none,.store c x y,ty,pos,af,g⟩::rest) e w K:=
 DL.JT j ht hi hx k l m o (fun w' h1 h2 q=>p w' h1 h2 (by rw[q,hc]))
end
structure DH(P:Program)(n:Nat)(l:List Oper)(w0:World)(fuel:Nat)(listed:Array Bool)(e:Env)(w:World)(K:Env→World→Prop):Prop where
 out:∀(a:Act)(Q:Exit→Act→World→Prop),mJ n a e→Fr [] w0 w→(∀c a w,¬Q (.panic c) a w)→(∀a' e' w',mJ n a' e'→(∀t,t∉iQ l→e' t=e t)→Fr [] w0 w'→K e' w'→Q .normal a' w')→
  wpAnyH P .any l.toArray Q (Fr [] w0) fuel listed a w
section
variable{P:Program}{n:Nat}{e:Env}{w w0:World}{l:List Oper}{fuel:Nat}{listed:Array Bool}{K:Env→World→Prop}
theorem tl{b:Oper}{c:Nat}(d:b.dst=some c):∀(l:List Oper)(i:Nat),l[i]? =some b→c∈iQ l:=by
 intro l
 induction l with
 |nil=>intro i h;simp at h
 |cons f j g=>
  intro i h
  unfold iQ
  cases i with
  |zero=>
   simp only[List.getElem?_cons_zero,UD]at h
   rw[h,d];simp
  |succ i=>
   have:=g i AU
   cases hp:f.dst with
   |none=>exact this
   |some k=>exact Ux _ this
theorem kS{o:Oper}{i b:Nat}{c:Value}(h:l[i]? =some o)(ht:b∉iQ l):put e o.dst c b=e b:=
 mX c (fun g d f=>ht (f▸tl d l i h))
theorem DH.take{b:Oper}{v:Value}(i:Nat)(hi:kW l i=some b)(hs:Region.noSelect l.toArray)(g:Region.free .any l.toArray listed i)(j:(Region.ready .any l.toArray listed).contains i)
  (k:hU l e b.guard) (m:nE n b.dst) (h:∀w,Fr [] w0 w→Y P e b w v) (o:DH P n l w0 fuel (listed.setIfInBounds i true) (put e b.dst v) w K):DH P n l w0 (fuel+1) listed e w K:=by
 rw[j8]at hi
 refine⟨fun a p c hw f q=>wpAnyH_take (oi:=b) (v:=v) A3 hs g j (fun B a w h=>(f _ _ _ h).elim) (Ts ⟨by rw[jx c,k],fun d r=>by rw[c.eval];exact h d r⟩) hw
  (o.out _ p (c.put b.dst v (jy m)) hw f (fun t u d h1 h2 y z=>q t u d h1 (fun A ht=>?_) y z))⟩
 rw[h2 A ht,kS hi ht]
theorem DH.done(b:Region.ready .any l.toArray listed=[])(h:K e w):DH P n l w0 fuel listed e w K:=
 ⟨fun a f c hw g d=>wpAnyH_done b (d a e w c (fun _ _=>rfl) hw h) fuel⟩
theorem DC.held{id:Nat}{f:Exit→Env→World→Prop}(j:P.follows .mixedOrders)
  (h:∀d,Fr [] w d→d.heap.size=w.heap.size→DH P n l d l.length (Array.replicate l.length false) e d (fun k m=>f .normal k m)):DC P n (.region id l.toArray true) e w f:=by
 refine⟨fun a o=>wp_region_noPanic (wp_region_held (S:=Fr [] {w with drawn:=w.drawn+1}) j ?_)⟩
 have:=(h _ (Fr.drawn w (w.drawn+1)) rfl).out a (NoPanic fun x g d=>∃b,mJ n g b∧(∀c,c∉ji (.region id l.toArray true)→b c=e c)∧f x b d) o (Fr.refl _ _) (fun q a w h=>h) (fun g b d h1 h2 _ p=>
  (show∃b,mJ n g b∧(∀c,c∉ji (.region id l.toArray true)→b c=e c)∧f .normal b d from⟨b,h1,fun c ht=>h2 c Br,p⟩))
 simpa using this
theorem Y.rG{x y:Operand}{t u:TypeId}{a b:ByteArray}{c:Bool}{dst:Option Tmp}{ty:TypeId}{pos:String}{af:Array Edge}{g:Option (Nat×Bool)}(hx:ev e x=.string a)(d:ev e y=.string b)(h:decide (a=b)=c):Y P e ⟨dst,.binOp .eql t x y u,ty,pos,af,g⟩ w (.bool c):=by
 rw[←h];exact Y.seq hx d
theorem Y.yA{x y:Operand}{t u:TypeId}{a b c:Int}{dst:Option Tmp}{ty:TypeId}{pos:String}{af:Array Edge}{g:Option (Nat×Bool)}(hx:ev e x=.int .i64 a)(d:ev e y=.int .i64 b)(hc:a*b=c)(h1: -9223372036854775808≤a*b)(h2:a*b≤9223372036854775807):Y P e ⟨dst,.binOp .mul t x y u,ty,pos,af,g⟩ w (.int .i64 c):=by
 have:=Y.mul (P:=P) (w:=w) (dst:=dst) (t:=t) (u:=u) (ty:=ty) (pos:=pos) (af:=af) (g:=g) hx d
 rw[wrap_i64 h1 h2,hc]at this;exact this
end
end Go.Proofs.YtlojelcoibpphaaGreatDoor.D
