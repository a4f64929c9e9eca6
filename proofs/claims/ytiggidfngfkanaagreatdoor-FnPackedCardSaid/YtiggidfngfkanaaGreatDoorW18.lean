/- FnPacked, part 18. No condition. -/
import Derived.Test.YtiggidfngfkanaaGreatDoorW17
namespace Go.Proofs.YtiggidfngfkanaaGreatDoor
open Go Go.Proofs.Tryz
set_option maxRecDepth 100000
set_option maxHeartbeats 4000000
set_option linter.all false
set_option exponentiation.threshold 9999
open Bool renaming false->A, true->G
open Decidable renaming decide->D
open Go renaming IntKind->U, TypeId->es, Value->ip, World->ii
open Go.Proofs.Tryz renaming prog->B
open List renaming replicate->lc
open Option renaming none->N, some->E
variable{th:Int}
abbrev Aq:Nat->Option Nat:=λg=>bif Nat.beq g 1 then E 1 else bif Nat.beq g 4 then E 3 else bif Nat.beq g 7 then E 4 else N
noncomputable abbrev K71:List (Nat×jB):=[(73,KZ Aq Pv),(96,KZ Aq Dw)]
noncomputable abbrev Dy:fw:=ep Aq K71 LQ
noncomputable abbrev zB:Code:=dB f71
def DG:ji B Dy:=gy ⟨⟨xH,S9 Aq⟩,⟨PY,acs Aq⟩,dD⟩ (jF Aq)
def aan: ∀g i,Dy.mw g=E i->i<7:=by
  intro g i h;have h:Aq g=E i:=h;unfold Aq at h;cases M:Nat.beq g 1
  .rw [M]at h;cases S:Nat.beq g 4
   .rw [S]at h;cases l:Nat.beq g 7
    .rw [l]at h;cases h
    .rw [l]at h;cases h;decide
   .rw [S]at h;cases h;decide
  .rw [M]at h;cases h;decide
def aKu(F H w e d q u C b:Int)(t:es)(P L s b4:dI):letI a:dI:=⟨.ws .u32 [F,H,w,e,d,q,u,C,b],t⟩;letI c:dI:=⟨.lit [.b A,.s N 0 0],90⟩;mQ (fF Dy f71.ntmps N 2 200 [.code zB] ⟨fo 0 [.p (E (0,0))],[a,P,L,s,b4],[],[]⟩) [0,3,4]=(dO 2 zB [],[(0,.p (E (0,0))),(3,.p (E (5,0))),(4,.p (E (6,0)))],[a,P,L,s,b4,c,c],eb []):=I
def aFr(F H w P L q u C s:Int)(t:es)(m:dE):letI a:=[F,H,w,P,L,q,u,C,s];letI b:V:= .i .i64 (U.i64.wrap (a.getD 8 0));letI c:V:= .p (E (5,0));letI d:dE:=⟨.ws .u32 a,t⟩::m;(mW Dy (eC Dy f71.ntmps 200 [0,3,4,8,13] (dO 2 zB []) ⟨[(0,.p (E (0,0))),(3,c),(4,.p (E (6,0)))],d,[],[]⟩))=(E (79,[c,b],E 14),dF 2 7 zB [],[(0,.p (E (0,0))),(3,c),(4,.p (E (6,0))),(8,c),(13,b)],d,[G,G]):=I
def aNq(x:Int)(m:dE):letI a:V:= .p (E (5,0));mQ (fF Dy f71.ntmps (E [0,3,4,5]) 6 200 (dF 2 7 zB []) ⟨[(14,a),(0,.p (E (0,0))),(3,a),(4,.p (E (6,0))),(8,a),(13,.i .i64 x)],m,[],[]⟩) [0,3,4,5]=(dO 6 zB [],[(0,.p (E (0,0))),(3,a),(4,.p (E (6,0))),(5,.i .i64 7)],m,eb []):=I
abbrev Yw(F H w P L q u C s v t z:Int)(a R k M T:es)(n:Addr):dE:=[⟨.ws .u32 [F,H,w,P,L,q,u,C,s],a⟩,kj 2 R n,gY n k,⟨.lit [.i .i64 z],M⟩,⟨.lit [.i .i64 40],T⟩,⟨.int v,90⟩,⟨.int t,90⟩,⟨.int Dw,90⟩]
abbrev alx(F H w P L q u C s v t z:Int)(a R k M T:es)(n:Addr):dE:=[⟨.ws .u32 [F,H,w,P,L,q,u,C,s],a⟩,kj 2 R n,gY n k,⟨.lit [.i .i64 z],M⟩,⟨.lit [.i .i64 40],T⟩,⟨.int v,90⟩,⟨.int t,90⟩,⟨.int Dw,90⟩,⟨.int Pv,90⟩]
abbrev Zk(F H w P L q u C s v t z:Int)(a R k M T:es)(n:Addr):dE:=[⟨.ws .u32 [F,H,w,P,L,q,u,C,s],a⟩,kj 2 R n,gY n k,⟨.lit [.i .i64 z],M⟩,⟨.lit [.i .i64 40],T⟩,⟨.int v,90⟩,⟨.int t,90⟩]
def aNn(F H w P L q u C s v t z:Int)(b R k M T:es)(n:Addr):letI a:V:= .p (E (5,0));(mW Dy (eC Dy f71.ntmps 200 [0,3,4,40,41,42] (dO 11 zB []) ⟨[(0,.p (E (0,0))),(3,a),(4,.p (E (6,0)))],Zk F H w P L q u C s v t z b R k M T n,[],[]⟩))=
    (E (95,[a,a,.p (E (7,0))],E 43),dF 11 4 zB [],[(0,.p (E (0,0))),(3,a),(4,.p (E (6,0))),(40,a),(41,a),(42,.p (E (7,0)))],Yw F H w P L q u C s v t z b R k M T n,[G]):=I
def aKv(F H w P L q u C s v t z:Int)(b R k M T:es)(n:Addr):letI a:V:= .p (E (5,0));(mW Dy (eC Dy f71.ntmps 200 [0,3,44,45,46] (dF 11 4 zB []) ⟨[(43,a),(0,.p (E (0,0))),(3,a),(4,.p (E (6,0))),(40,a),(41,a),(42,.p (E (7,0)))],Yw F H w P L q u C s v t z b R k M T n,[],[]⟩))=
    (E (51,[a,a,.p (E (8,0))],E 47),dF 12 4 zB [],[(0,.p (E (0,0))),(3,a),(44,a),(45,a),(46,.p (E (8,0)))],alx F H w P L q u C s v t z b R k M T n,[G]):=I
def aFh(m:dE):letI a:V:= .p (E (5,0));(runM Dy f71.results.toList (fe Dy f71.ntmps N N 200 (dF 12 4 zB []) ⟨[(47,a),(0,.p (E (0,0))),(3,a),(44,a),(45,a),(46,.p (E (8,0)))],m,[],[]⟩))=(G,E (a,G),m,[]):=I
def Hn:eo B 79:=ga f79
def RM:eo B 95:=ga f95
def ase: ∀g i,gd 2 g=E i-> ∃j,[5,8,3][i]?=E j/\Aq g=E j:=rL ⟨_,K,K⟩ DO
def aza: ∀g i,gk 2 g=E i-> ∃j,[5,7,4][i]?=E j/\Aq g=E j:=rL ⟨_,K,K⟩ DO
abbrev E71(i:Int):eZ:=[(0,.p (E (0,0))),(3,.p (E (5,0))),(4,.p (E (6,0))),(5,.i .i64 i)]
abbrev aJu(i:Int)(s:Nat):eZ:=[(0,.p (E (0,0))),(3,.p (E (5,0))),(4,.p (E (6,0))),(5,.i .i64 i),(s,.p (E (5,0))),(s+1,.p (E (5,0)))]
def IQ{F H y P L q u C p v t x R:Int}{z S te M T:es}{ev:Addr}{Q:V->dE->Prop}{tl:List Item}{el:eZ}(r s w j st:Nat)(i:Int)(kl:List Nat):letI a:=Zk F H y P L q u C p v t R z S te M T ev;letI b:V:= .p (E (5,0));letI l:Int:=v*2^w;letI c:=Zk F H y P L q u C p (l+x) x R z S te M T ev;letI d:=Zk F H y P L q u C p l t R z S te M T ev;letI e:V:= .p (E (6,0));letI f:Int:=[F,H,y,P,L,q,u,C,p].getD j 0;letI g:=Zk F H y P L q u C p l x R z S te M T ev;letI h:Nat×V:=(0,.p (E (0,0)));letI k:Nat×V:=(5,.i .i64 i);letI n:V:= .i .i64 (U.i64.wrap f);letI o:=aJu i s;∀(ka:(mW Dy (eC Dy f71.ntmps 200 [0,3,4,5,s,s+1] (dO 6 zB []) ⟨E71 i,a,[],[]⟩))=(E (90,[b,b,.i .u64 (w:Int)],E (s+2)),dF r 3 zB [],o,a,[]))(kb:(mW Dy (eC Dy f71.ntmps 200 [0,3,4,5,28,34] (dF r 3 zB []) ⟨(s+2,b)::o,d,[],[]⟩))=(E (79,[e,n],E 35),dF 9 8 zB [],[h,(3,b),(4,e),k,(28,e),(34,n)],d,[G,G]))(kc:(mW Dy (eC Dy f71.ntmps 200 [0,3,4,5,36,37,38] (dF 9 8 zB []) ⟨[(35,e),h,(3,b),(4,e),k,(28,e),(34,.i .i64 x)],g,[],[]⟩))=(E (52,[b,b,e],E 39),dF 10 4 zB [],[h,(3,b),(4,e),k,(36,b),(37,b),(38,e)],g,[]))(kd:mQ (fF Dy f71.ntmps (E [0,3,4,5]) st 200 (dF 10 4 zB []) ⟨[(39,b),h,(3,b),(4,e),k,(36,b),(37,b),(38,e)],c,[],[]⟩) kl=(tl,el,c,G))(kp:fA f71.ntmps o (E (s+2)) b=E ((s+2,b)::o))(hc:eM B Aq 90 [b,b,.i .u64 (w:Int)] a (λr m=>r=b/\m=d))(hx:f=x)(ac:0<x/\x<pw 1)(ab:x<=9223372036854775807)(hu:0<l/\l<pw 1000)(next:Ev B Dy 71 f71.ntmps 5 [] tl el c Q),Ev B Dy 71 f71.ntmps 5 [] (dO 6 zB []) (E71 i) a Q:=by
  intro ka kb kc kd kp hc hx ac ab hu next;refine dY (eB DG) ka K K K IX hc K ?_;rintro r m'⟨rfl,rfl⟩_;refine⟨_,kp,?_⟩;rw[hx,show U.i64.wrap x=x from iy O]at kb;refine dY (eB DG) kb K K K Hn ((ZH t x 90 O O).lift (gl:=Aq) [6] ⟨K,K,dD⟩ J (λg i h=>by cases h) K) K ?_;rintro r m'⟨r0,aa,⟨rfl,rfl⟩,_,rfl,rfl⟩_;refine⟨_,K,?_⟩;refine dY (eB DG) kc K K K ID ((aab (v*2^w) x 90 90 O O O O).lift (gl:=Aq) [5,6] ⟨K,K,K,K,dD⟩ J (λg i h=>by cases h) K) K ?_;rintro r m'⟨r0,aa,⟨rfl,rfl⟩,_,rfl,rfl⟩_;refine⟨_,K,?_⟩;exact fk (eB DG) kd K next
def atz{F H w P L q j f s z S:Int}{t R k M T:es}{n:Addr}:letI a:=[F,H,w,P,L,q,j,f,s];letI b:dI:=⟨.lit [.i .i64 z],M⟩;letI c:dI:=⟨.lit [.i .i64 40],T⟩;letI d:dI:=⟨.ws .u32 a,t⟩;∀(hP:X7 a)(hL:xF a S)(aa:4<z),eM B Aq 71 [.p (E (0,0))] [d,kj 2 R n,gY n k,b,c]
      (λr m=>r= .p (E (5,0))/\m=[d,kj 2 R n,gY n k,b,c,⟨.int (S*Dw%Pv),90⟩]):=by
  intro hP hL aa;obtain⟨p0,p1,p2,p3,p4,p5,p6,p7,p8⟩:=hP;obtain⟨q0,q1,q2,q3,q4,q5,q6,q7,q8,hS⟩:=hL;simp only[bd]at q0 q1 q2 q3 q4 q5 q6 q7 q8;simp only[mA]at hS;have av:(2582249878086908589655919172003011874329705792829223512830659356540647622016841194629645353280137831435903171972747493376:Int)<pw 900:=kt;have ar:pw 900<=pw 1000:=jk O;have h1:pw 1=18446744073709551616:=J;have h3:pw 3=6277101735386680763835789423207666416102355444464034512896:=J;refine zj 6 Y (Q:=λr m=>r= .p (E (5,0))/\ ∃y:dE,m=[⟨.ws .u32 [F,H,w,P,L,q,j,f,s],t⟩,kj 2 R n,gY n k,⟨.lit [.i .i64 z],M⟩,⟨.lit [.i .i64 40],T⟩,⟨.int (S*Dw%Pv),90⟩]++y) ?_ ?_
  .refine dL _ f71 (fk (eB DG) (aKu F H w P L q j f s t (kj 2 R n) (gY n k) ⟨.lit [.i .i64 z],M⟩ ⟨.lit [.i .i64 40],T⟩) K ?_);refine Ev.rP 7 (Zk F H w P L q j f s 0 0 z t R k M T n) (fs.nU 5 Y K (fs.nU 6 Y K (fs.refl _ _))) Y Y aan K K ?_;have e8:U.i64.wrap ([F,H,w,P,L,q,j,f,s].getD 8 0)=s:=iy (by show _<=s/\s<=_;omega);have k8:=aFr F H w P L q j f s t (Zk F H w P L q j f s 0 0 z t R k M T n).tail;rw[e8]at k8;refine dY (eB DG) k8 K K K Hn ((ZH 0 s 90 O O).lift (gl:=Aq) (m:=Zk F H w P L q j f s 0 0 z t R k M T n) [5] ⟨K,K,dD⟩ J (λg i h=>by cases h) K) K ?_;rintro r l⟨C,e,⟨rfl,rfl⟩,_,rfl,rfl⟩_;refine⟨_,K,?_⟩;refine fk (eB DG) (aNq s _) K ?_;refine IQ 8 25 28 7 6 7 [0,3,4,5] (tl:=dO 6 zB []) (el:=[(0,.p (E (0,0))),(3,.p (E (5,0))),(4,.p (E (6,0))),(5,.i .i64 6)]) (x:=f) I I I I I (((xT s 90 O).lift (gl:=Aq) [5] ⟨K,K,dD⟩ J (λg i h=>by cases h) K).mono (by rintro r l⟨C,e,⟨rfl,rfl⟩,_,rfl,rfl⟩;exact⟨K,K⟩)) K O O O ?_;obtain⟨v7,ac⟩: ∃v,v=s*2^28+f:=⟨_,K⟩
   rw[<-ac];refine IQ 7 22 29 6 6 6 [0,3,4,5] (tl:=dO 6 zB []) (el:=[(0,.p (E (0,0))),(3,.p (E (5,0))),(4,.p (E (6,0))),(5,.i .i64 5)]) (x:=j) I I I I I (((xJ v7 90 O).lift (gl:=Aq) [5] ⟨K,K,dD⟩ J (λg i h=>by cases h) K).mono (by rintro r l⟨C,e,⟨rfl,rfl⟩,_,rfl,rfl⟩;exact⟨K,K⟩)) K O O O ?_;obtain⟨v6,ad⟩: ∃v,v=v7*2^29+j:=⟨_,K⟩
   rw[<-ad];refine IQ 8 25 28 5 6 5 [0,3,4,5] (tl:=dO 6 zB []) (el:=[(0,.p (E (0,0))),(3,.p (E (5,0))),(4,.p (E (6,0))),(5,.i .i64 4)]) (x:=q) I I I I I (((xT v6 90 O).lift (gl:=Aq) [5] ⟨K,K,dD⟩ J (λg i h=>by cases h) K).mono (by rintro r l⟨C,e,⟨rfl,rfl⟩,_,rfl,rfl⟩;exact⟨K,K⟩)) K O O O ?_;obtain⟨v5,ae⟩: ∃v,v=v6*2^28+q:=⟨_,K⟩
   rw[<-ae];refine IQ 7 22 29 4 6 4 [0,3,4,5] (tl:=dO 6 zB []) (el:=[(0,.p (E (0,0))),(3,.p (E (5,0))),(4,.p (E (6,0))),(5,.i .i64 3)]) (x:=L) I I I I I (((xJ v5 90 O).lift (gl:=Aq) [5] ⟨K,K,dD⟩ J (λg i h=>by cases h) K).mono (by rintro r l⟨C,e,⟨rfl,rfl⟩,_,rfl,rfl⟩;exact⟨K,K⟩)) K O O O ?_;obtain⟨v4,af⟩: ∃v,v=v5*2^29+L:=⟨_,K⟩
   rw[<-af];refine IQ 8 25 28 3 6 3 [0,3,4,5] (tl:=dO 6 zB []) (el:=[(0,.p (E (0,0))),(3,.p (E (5,0))),(4,.p (E (6,0))),(5,.i .i64 2)]) (x:=P) I I I I I (((xT v4 90 O).lift (gl:=Aq) [5] ⟨K,K,dD⟩ J (λg i h=>by cases h) K).mono (by rintro r l⟨C,e,⟨rfl,rfl⟩,_,rfl,rfl⟩;exact⟨K,K⟩)) K O O O ?_;obtain⟨v3,ag⟩: ∃v,v=v4*2^28+P:=⟨_,K⟩
   rw[<-ag];refine IQ 7 22 29 2 6 2 [0,3,4,5] (tl:=dO 6 zB []) (el:=[(0,.p (E (0,0))),(3,.p (E (5,0))),(4,.p (E (6,0))),(5,.i .i64 1)]) (x:=w) I I I I I (((xJ v3 90 O).lift (gl:=Aq) [5] ⟨K,K,dD⟩ J (λg i h=>by cases h) K).mono (by rintro r l⟨C,e,⟨rfl,rfl⟩,_,rfl,rfl⟩;exact⟨K,K⟩)) K O O O ?_;obtain⟨v2,ah⟩: ∃v,v=v3*2^29+w:=⟨_,K⟩
   rw[<-ah];refine IQ 8 25 28 1 6 1 [0,3,4,5] (tl:=dO 6 zB []) (el:=[(0,.p (E (0,0))),(3,.p (E (5,0))),(4,.p (E (6,0))),(5,.i .i64 0)]) (x:=H) I I I I I (((xT v2 90 O).lift (gl:=Aq) [5] ⟨K,K,dD⟩ J (λg i h=>by cases h) K).mono (by rintro r l⟨C,e,⟨rfl,rfl⟩,_,rfl,rfl⟩;exact⟨K,K⟩)) K O O O ?_;obtain⟨v1,aj⟩: ∃v,v=v2*2^28+H:=⟨_,K⟩
   rw[<-aj];refine IQ 7 22 29 0 11 0 [0,3,4] (tl:=dO 11 zB []) (el:=[(0,.p (E (0,0))),(3,.p (E (5,0))),(4,.p (E (6,0)))]) (x:=F) I I I I I (((xJ v1 90 O).lift (gl:=Aq) [5] ⟨K,K,dD⟩ J (λg i h=>by cases h) K).mono (by rintro r l⟨C,e,⟨rfl,rfl⟩,_,rfl,rfl⟩;exact⟨K,K⟩)) K O O O ?_;obtain⟨p,ak⟩: ∃v,v=v1*2^29+F:=⟨_,K⟩
   rw[<-ak];have an:S=p:=O;have aq:(1:Int)<Pv:=J;have ap:Pv<pw 4:=kt;have ao:pw 3<=Dw:=kt;have ab:Dw<pw 4:=kt;refine dY (eB DG) (aNn F H w P L q j f s p F z t R k M T n) K K K RM ((azx p Dw 90 90 T O O ao ab).lift (gl:=Aq) (m:=Yw F H w P L q j f s p F z t R k M T n) [5,7,4] ⟨K,K,K,K,K,K,dD⟩ J aza K) K ?_;rintro r l⟨C,e,⟨rfl,rfl⟩,_,rfl,rfl⟩_;refine⟨_,K,?_⟩;show Ev B Dy 71 f71.ntmps 5 [] _ _ (Yw F H w P L q j f s (p*Dw) F z t R k M T n) _;have am:0<p*Dw:=BF O J
   have al:p*Dw<pw 90000:=by have a1:p*Dw<pw 900*Dw:=FX O J;have a2:pw 900*Dw<=pw 900*pw 4:=gF (gA ab) (gA (gH 900));have a3:pw 900*pw 4=pw 904:=(uq 900 4).symm;have a4:pw 904<=pw 90000:=jk O;omega
   refine dY (eB DG) (aKv F H w P L q j f s (p*Dw) F z t R k M T n) K K K BE ((Ss (v:=p*Dw) (u:=Pv) (z:=z) (P:=90) (R:=90) (f:=M) am al aq ap aa).lift (gl:=Aq) (m:=alx F H w P L q j f s (p*Dw) F z t R k M T n) [5,8,3] ⟨K,K,K,K,K,K,dD⟩ J ase K) K ?_;rintro r l⟨C,e,⟨rfl,rfl⟩,_,rfl,rfl⟩_;refine⟨_,K,?_⟩;refine kF (eB DG) (fn:=f71) (i:=N) (j:=200) (z:=[]) (s:=[]) (r:= .p (E (5,0))) (o:=G) (by exact aFh _) K K ⟨K,[⟨.int F,90⟩,⟨.int Dw,90⟩,⟨.int Pv,90⟩],by rw[an];rfl⟩
  .rintro r m⟨rfl,y,rfl⟩;exact⟨_,fs.take 6 Y Y K K,Y,K,K,K⟩
abbrev qF:Nat->Option Nat:=λg=>bif Nat.beq g 1 then E 0 else bif Nat.beq g 4 then E 2 else N
noncomputable abbrev tP:fw:=ep qF [] LQ
noncomputable abbrev vY:Code:=dB f66
def qy:ji B tP:=gy dD (jF qF)
def zY:eo B 89:=ga f89
def uE:eo B 67:=ga f67
def nmC:ByteArray:={data:= #[83,77,50,45,80,45,50,53,54]}
def AW(l:List Int):List V:=l.map (V.i .u32)
def SW(n:Nat): ∀l:List Int,nd n (AW l)=G
  |[]=>rfl
  |_::l=>by have:=SW n l;simp only[AW,nA,nd,V.wf]at this⊢;exact this
def NC(s:Nat->Nat): ∀l:List Int,ml s (AW l)=AW l
  |[]=>rfl
  |a::l=>by have:=NC s l;simp only[AW,nA,ml,V.iU]at this⊢;rw[this]
def Ho(p j:ip)(l:List Int):Ju (.r p:: .r j::AW l):=⟨λn=>by simp only[nd,V.wf,SW,xn],λs=>by simp only[ml,V.iU,NC]⟩
def wQ:List Int:=[0,0,0,0,0,0,0,0,0,0,0,0,0,0,0,0,0,0,0,0,0,0,0,0,0,0,0,0,0,0,0,0,0,0,0,0]
def HL:List Int:=[536870905,268435455,895,268428288,536870911,268435455,536870911,150994943,268435455,0,0,0,0,0,0,0,0,0,0,0,0,0,0,0,0,0,0,0,0,0,0,0,0,0,0,0]
def IA:List Int:=[536870905,268435455,895,268428288,536870911,268435455,536870911,150994943,268435455,0,0,0,0,0,0,0,0,0,137364797,52992271,113266657,202339045,31563580,107393171,24488059,247693942,35835723,0,0,0,0,0,0,0,0,0]
def IE:List Int:=[536870905,268435455,895,268428288,536870911,268435455,536870911,150994943,268435455,0,0,0,0,0,0,0,0,0,137364797,52992271,113266657,202339045,31563580,107393171,24488059,247693942,35835723,408558522,55895443,311818945,254526569,75260154,203012265,258167614,151236203,209300666]
def OC:List Int:=[536870905,268435455,895,268428288,536870911,268435455,536870911,150994943,268435455,394377860,220399154,355969936,163370829,236861671,88177300,303341152,24396229,75627569,137364797,52992271,113266657,202339045,31563580,107393171,24488059,247693942,35835723,408558522,55895443,311818945,254526569,75260154,203012265,258167614,151236203,209300666]
abbrev N5:List Int:=OC
abbrev Z66:dI:=⟨.lit (.p N:: .p N::AW wQ),111⟩
abbrev Cv(p:V)(l:List Int):dI:=⟨.lit (p:: .p (E (5,0))::AW l),111⟩
abbrev CP(a b c d e:V)(n:Int):dI:=⟨.lit [a,b,c,d,e,.i .i64 n,.r (.string nmC)],84⟩
abbrev pt(i:Nat):V:= .p (E (i,0))
abbrev Dt:eZ:=[(0,pt 3),(1,pt 4),(2,pt 6)]
def BY(m:Nat): ∀g i,mK g=E i-> ∃j,[m,0,1][i]?=E j/\qF g=E j:=rL ⟨_,K,K⟩ DO
def F5(x:Nat): ∀g i,Jw g=E i-> ∃j,[4,x,0,1,2][i]?=E j/\qF g=E j:=rL ⟨_,K,K⟩ (rL ⟨_,K,K⟩ DO)
section
variable{tg te tk:es}{ev:Addr}{th:Int}{b:Nat}{Q:V->dE->Prop}
abbrev G66(tg te tk:es)(ev:Addr)(th:Int)(r:dE):dE:=kj 1 tg ev::gY ev te::⟨.lit [.i .i64 th],tk⟩::Z66::r
def aFs(T P L:dI):letI a:V:= .p N;mQ (fF tP f66.ntmps N 3 200 [.code vY] ⟨fo 0 [],[T,P,L],[],[]⟩) [0,1]=(dO 3 vY [],[(0,pt 3),(1,pt 4)],[T,P,L,Z66,Cv a wQ,CP a a a a a 0],eb [G]):=I
def in_1(T P L s b4 u:dI):(mW tP (eC tP f66.ntmps 200 [0,1,8] (dO 3 vY []) ⟨[(0,pt 3),(1,pt 4)],[T,P,L,s,b4,u],[],[]⟩))=(E (89,[pt 6,.r (.string hsA),.i .i64 16],E 9),dF 3 2 vY [],[(0,pt 3),(1,pt 4),(8,pt 6)],[T,P,L,s,b4,u,⟨.lit [.b A,.s N 0 0],90⟩],[]):=I
def aOj(m:dE):mQ (fF tP f66.ntmps N 4 200 (dF 3 2 vY []) ⟨[(9,.t [pt 6,.b G]),(0,pt 3),(1,pt 4),(8,pt 6)],m,[],[]⟩) [0,1,2]=(dO 4 vY [],Dt,m,eb []):=I
abbrev cpA(k a:Nat):V:=bif Nat.blt a k then pt (7+a)else .p N
abbrev CPk(k:Nat)(n:Int):dI:=CP (cpA k 0) (cpA k 1) (cpA k 2) (cpA k 3) (cpA k 4) n
abbrev bI(v:Int):dI:=⟨.int v,90⟩
abbrev nI:dI:=⟨.lit [.b A,.s N 0 0],90⟩
abbrev Mk(tg te tk:es)(ev:Addr)(th:Int)(k:Nat)(r:dE):dE:=G66 tg te tk ev th (Cv (.p N) wQ::CPk k 0::r)
abbrev d66(k i:Nat):Nat:=12+(i+9*k)
abbrev ahr(k:Nat):eZ:=(d66 k 2,pt 5)::(d66 k 1,.p (E (4,1)))::Dt
abbrev XJ(k:Nat):eZ:=(d66 k 3,pt (7+k))::ahr k
abbrev afl(k:Nat):eZ:=(d66 k 4,.t [pt (7+k),.b G])::XJ k
abbrev Wx(k:Nat):eZ:=(d66 k 8,.p (E (5,k)))::(d66 k 7,pt 5)::(d66 k 6,.b G)::(d66 k 5,pt (7+k))::(d66 k 0,.t [pt (7+k),.b G])::afl k
noncomputable abbrev o66(k:Nat):List Oper:=(opsOf (k+4) vY).toList
def T6{k:Nat}{s:ByteArray}{v:Int}{L:dE}
    (q:dO (k+4) vY []= .code (.region (k+4) (opsOf (k+4) vY) G)::jM (k+4) vY):letI a:dE:=Mk tg te tk ev th (k+1) (L++[bI v]);letI c:=Mk tg te tk ev th k (L++[bI v]);letI d:=Mk tg te tk ev th k L;letI e:=Mk tg te tk ev th k (L++[nI]);letI f:V:=pt (7+k);letI g:=o66 k;letI h:List V:=[f,.r (.string s),.i .i64 16];∀(o:pZ tP g [0,1,2,3,4,5,6,7,8,9]=G)(j:Rq tP f66.ntmps g [4] [0,1] Dt d=E (ahr k,[G]))(C:MZ tP f66.ntmps g 2 (ahr k) d=E (f,e,G,XJ k))(F:J6 tP g 3 (XJ k)=E (89,h,E (d66 k 4)))(p:fA f66.ntmps (XJ k) (E (d66 k 4)) (.t [f,.b G])=E (afl k))(R:Rq tP f66.ntmps g [4] [4,5,6,7,8] (afl k) (c)=E (Wx k,[]))(P:MZ tP f66.ntmps g 9 (Wx k) (c)=E (.t [],a,G,Wx k))(i:mQ (fF tP f66.ntmps N (k+5) 20 (jM (k+4) vY) ⟨gN (Wx k) [0,1,2],a,[],[]⟩) [0,1,2]=(dO (k+5) vY [],Dt,a,G))(l:(fZ d.length Dt,(f).wf (e).length,(V.t [f,.b G]).wf (c).length)=(G,G,G))(x:eM B qF 89 h (e) (λr m=>r= .t [f,.b G]/\m=c))(next:Ev B tP 66 f66.ntmps b [] (dO (k+5) vY []) Dt (a) Q),Ev B tP 66 f66.ntmps b [] (dO (k+4) vY []) Dt d Q:=by
  intro o j C F p R P i l x next;obtain⟨l,w⟩:=nM l;obtain⟨w,y⟩:=nM w;have H: ∀{r:dE}(b:Nat),b∈[4]->b<(Mk tg te tk ev th k r).length-> ∀{z:Nat}{n:dE},(Mk tg te tk ev th z n)[b]?=(Mk tg te tk ev th k r)[b]?:=λb H _=>by rw[tI]at H;subst H;intros;rfl
  refine Ev.eq q K K ?_;refine tX [4] [0,1,2,3,4,5,6,7,8,9] iZ ni o l K ?_;refine iS [0,1] [2,3,4,5,6,7,8,9] j K ?_;refine Fg ni qy C K w (λb M S=>H b M S) ?_;refine ko F zY x ?_;rintro r u⟨rfl,rfl⟩_;refine⟨y,(λb M S=>H b M S),_,p,?_⟩;refine iS [4,5,6,7,8] [9] R K ?_;refine Fg ni qy P K K (λb M S=>H b M S) ?_;refine kJ.done ?_;refine Ev.fq [0,1,2] ?_;exact fk (eB qy) i K next
def aqa(next:Ev B tP 66 f66.ntmps b [] (dO 5 vY []) Dt (Mk tg te tk ev th 1 ([bI 115792089210356248756420345214020892766250353991924191454421193933289684991996]++[bI 115792089210356248756420345214020892766250353991924191454421193933289684991999])) Q):Ev B tP 66 f66.ntmps b [] (dO 4 vY []) Dt (Mk tg te tk ev th 0 ([bI 115792089210356248756420345214020892766250353991924191454421193933289684991996])) Q:=
  T6 (k:=0) (s:=hsP) (v:=115792089210356248756420345214020892766250353991924191454421193933289684991999) I I I I I I I I I I
   (((yH (tz:=90) (tg:=tg) (te:=te) (ev:=ev) Uw).lift (gl:=qF) (m:=Mk tg te tk ev th 0 ([bI 115792089210356248756420345214020892766250353991924191454421193933289684991996]++[nI])) [7,0,1] ⟨K,K,K,K,K,K,dD⟩ J (BY 7) I).mono (by rintro r u⟨C,e,⟨rfl,rfl⟩,_,rfl,rfl⟩;rw[TR];exact⟨K,K⟩)) next
abbrev LW:dE:=[bI 115792089210356248756420345214020892766250353991924191454421193933289684991996]++[bI 115792089210356248756420345214020892766250353991924191454421193933289684991999]
def aso(next:Ev B tP 66 f66.ntmps b [] (dO 6 vY []) Dt (Mk tg te tk ev th 2 (LW++[bI 115792089210356248756420345214020892766061623724957744567843809356293439045923])) Q):Ev B tP 66 f66.ntmps b [] (dO 5 vY []) Dt (Mk tg te tk ev th 1 LW) Q:=
  T6 (k:=1) (s:=hsN) (v:=115792089210356248756420345214020892766061623724957744567843809356293439045923) I I I I I I I I I I
   (((yH (tz:=90) (tg:=tg) (te:=te) (ev:=ev) aaq).lift (gl:=qF) (m:=Mk tg te tk ev th 1 (LW++[nI])) [8,0,1] ⟨K,K,K,K,K,K,dD⟩ J (BY 8) I).mono (by rintro r u⟨C,e,⟨rfl,rfl⟩,_,rfl,rfl⟩;rw[afx];exact⟨K,K⟩)) next
abbrev MV:dE:=LW++[bI 115792089210356248756420345214020892766061623724957744567843809356293439045923]
def avb(next:Ev B tP 66 f66.ntmps b [] (dO 7 vY []) Dt (Mk tg te tk ev th 3 (MV++[bI 18505919022281880113072981827955639221458448578012075254857346196103069175443])) Q):Ev B tP 66 f66.ntmps b [] (dO 6 vY []) Dt (Mk tg te tk ev th 2 MV) Q:=
  T6 (k:=2) (s:=abk) (v:=18505919022281880113072981827955639221458448578012075254857346196103069175443) I I I I I I I I I I
   (((yH (tz:=90) (tg:=tg) (te:=te) (ev:=ev) U6).lift (gl:=qF) (m:=Mk tg te tk ev th 2 (MV++[nI])) [9,0,1] ⟨K,K,K,K,K,K,dD⟩ J (BY 9) I).mono (by rintro r u⟨C,e,⟨rfl,rfl⟩,_,rfl,rfl⟩;rw[XY];exact⟨K,K⟩)) next
abbrev ND:dE:=MV++[bI 18505919022281880113072981827955639221458448578012075254857346196103069175443]
def auu(next:Ev B tP 66 f66.ntmps b [] (dO 8 vY []) Dt (Mk tg te tk ev th 4 (ND++[bI 22963146547237050559479531362550074578802567295341616970375194840604139615431])) Q):Ev B tP 66 f66.ntmps b [] (dO 7 vY []) Dt (Mk tg te tk ev th 3 ND) Q:=
  T6 (k:=3) (s:=hsX) (v:=22963146547237050559479531362550074578802567295341616970375194840604139615431) I I I I I I I I I I
   (((yH (tz:=90) (tg:=tg) (te:=te) (ev:=ev) aez).lift (gl:=qF) (m:=Mk tg te tk ev th 3 (ND++[nI])) [10,0,1] ⟨K,K,K,K,K,K,dD⟩ J (BY 10) I).mono (by rintro r u⟨C,e,⟨rfl,rfl⟩,_,rfl,rfl⟩;rw[ajg];exact⟨K,K⟩)) next
abbrev Tw:dE:=ND++[bI 22963146547237050559479531362550074578802567295341616970375194840604139615431]
def aly(next:Ev B tP 66 f66.ntmps b [] (dO 9 vY []) Dt (Mk tg te tk ev th 5 (Tw++[bI 85132369209828568825618990617112496413088388631904505083283536607588877201568])) Q):Ev B tP 66 f66.ntmps b [] (dO 8 vY []) Dt (Mk tg te tk ev th 4 Tw) Q:=
  T6 (k:=4) (s:=hsY) (v:=85132369209828568825618990617112496413088388631904505083283536607588877201568) I I I I I I I I I I
   (((yH (tz:=90) (tg:=tg) (te:=te) (ev:=ev) aff).lift (gl:=qF) (m:=Mk tg te tk ev th 4 (Tw++[nI])) [11,0,1] ⟨K,K,K,K,K,K,dD⟩ J (BY 11) I).mono (by rintro r u⟨C,e,⟨rfl,rfl⟩,_,rfl,rfl⟩;rw[aiw];exact⟨K,K⟩)) next
end
abbrev Mf(tg te tk:es)(ev:Addr)(th:Int)(p:V)(l:List Int)(n:Int)(r:dE):dE:=G66 tg te tk ev th (Cv p l::CPk 5 n::bI 115792089210356248756420345214020892766250353991924191454421193933289684991996::bI 115792089210356248756420345214020892766250353991924191454421193933289684991999::bI 115792089210356248756420345214020892766061623724957744567843809356293439045923::bI 18505919022281880113072981827955639221458448578012075254857346196103069175443::bI 22963146547237050559479531362550074578802567295341616970375194840604139615431::bI 85132369209828568825618990617112496413088388631904505083283536607588877201568::r)
def aLc(tg te tk:es)(ev:Addr)(th:Int):(mW tP (eC tP f66.ntmps 200 [0,1,2,58] (dO 9 vY []) ⟨Dt,Mf tg te tk ev th (.p N) wQ 0 [],[],[]⟩))=(E (89,[pt 12,.r (.string hsR),.i .i64 16],E 59),dF 9 2 vY [],[(0,pt 3),(1,pt 4),(2,pt 6),(58,pt 12)],Mf tg te tk ev th (.p N) wQ 0 [nI],[]):=I
def amm(tg te tk:es)(ev:Addr)(th:Int):letI a:dE:=[bI 57896044551258231062740198220913455226441901632205615997740090104278065086466];mQ (fF tP f66.ntmps N 11 200 (dF 9 2 vY []) ⟨[(59,.t [pt 12,.b G]),(0,pt 3),(1,pt 4),(2,pt 6),(58,pt 12)],Mf tg te tk ev th (.p N) wQ 0 a,[],[]⟩) [0,1,2]=(dO 11 vY [],Dt,Mf tg te tk ev th (pt 12) wQ 256 a,G):=I
abbrev rf(tg te tk:es)(ev:Addr)(th:Int)(w S u u4 o v:Nat)(u3:List Int)(i:Tmp):Prop:=letI a:dE:=Mf tg te tk ev th (pt 12) u3 256 [bI 57896044551258231062740198220913455226441901632205615997740090104278065086466];(Nb tP (eC tP f66.ntmps 200 [0,1,2,w,S] (dO u vY []) ⟨Dt,a,[],[]⟩))=(E (67,[.p (E (4,u4)),pt o],E i),dF u v vY [],[(0,pt 3),(1,pt 4),(2,pt 6),(w,.p (E (4,u4))),(S,pt o)],a,G)
def adt(tg te tk:es)(ev:Addr)(th:Int):rf tg te tk ev th 67 68 11 2 6 3 wQ 69:=dR
abbrev qP(m:dE)(w S u u3 u4 o i v:Nat):Prop:=mQ (fF tP f66.ntmps N w 200 (dF S u vY []) ⟨[(u3,.t []),(0,pt 3),(1,pt 4),(2,pt 6),(u4,.p (E (4,o))),(i,pt v)],m,[],[]⟩) [0,1,2]=(dO w vY [],Dt,m,G)
def aen(m:dE):qP m 12 11 3 69 67 2 68 6:=dR
def aex{tg te tk:es}{ev:Addr}(q:4<th):letI a:dE:=[bI 57896044551258231062740198220913455226441901632205615997740090104278065086466];eM B qF 67 [.p (E (4,2)),pt 6] (Mf tg te tk ev th (pt 12) wQ 256 a) (λr m=>r= .t []/\m=(Mf tg te tk ev th (pt 12) HL 256 a)):=by
  refine eM.mono (eM.Ti (t:=qF) (f:=67) (a:=(Mf tg te tk ev th (pt 12) wQ 256 [bI 57896044551258231062740198220913455226441901632205615997740090104278065086466])) (R:= .t []) (i:=4) (o:=pt 12) (d:=pt 5) (r:=AW wQ) (Q:=AW HL) (ty:=111) K K K (eT _) λp j=>?_) ?_
  .refine((IW (l:= .r p:: .r j::AW wQ) (o:=2) (v:=115792089210356248756420345214020892766250353991924191454421193933289684991996) (z:=th) (y:=111) (S:=90) (R:=tg) (k:=te) (M:=tk) (n:=ev) J kt (mi K) (Ho p j wQ) q).lift (gl:=qF) [4,6,0,1,2] ⟨I,K,K,K,K,K,K,K,K,K,dD⟩ J (F5 6) I).mono ?_;rintro r u⟨C,e,⟨rfl,rfl⟩,_,rfl,rfl⟩;exact⟨K,I⟩
  .rintro r m⟨rfl,rfl⟩;exact⟨K,K⟩
def adv(tg te tk:es)(ev:Addr)(th:Int):rf tg te tk ev th 70 75 12 20 10 7 HL 76:=dR
def acy(m:dE):qP m 13 12 7 76 70 20 75 10:=dR
def ahf{tg te tk:es}{ev:Addr}(q:4<th):letI a:dE:=[bI 57896044551258231062740198220913455226441901632205615997740090104278065086466];eM B qF 67 [.p (E (4,20)),pt 10] (Mf tg te tk ev th (pt 12) HL 256 a) (λr m=>r= .t []/\m=(Mf tg te tk ev th (pt 12) IA 256 a)):=by
  refine eM.mono (eM.Ti (t:=qF) (f:=67) (a:=(Mf tg te tk ev th (pt 12) HL 256 [bI 57896044551258231062740198220913455226441901632205615997740090104278065086466])) (R:= .t []) (i:=4) (o:=pt 12) (d:=pt 5) (r:=AW HL) (Q:=AW IA) (ty:=111) K K K (eT _) λp j=>?_) ?_
  .refine((IW (l:= .r p:: .r j::AW HL) (o:=20) (v:=22963146547237050559479531362550074578802567295341616970375194840604139615431) (z:=th) (y:=111) (S:=90) (R:=tg) (k:=te) (M:=tk) (n:=ev) J kt (mi K) (Ho p j HL) q).lift (gl:=qF) [4,10,0,1,2] ⟨I,K,K,K,K,K,K,K,K,K,dD⟩ J (F5 10) I).mono ?_;rintro r u⟨C,e,⟨rfl,rfl⟩,_,rfl,rfl⟩;exact⟨K,I⟩
  .rintro r m⟨rfl,rfl⟩;exact⟨K,K⟩
def aaz(tg te tk:es)(ev:Addr)(th:Int):rf tg te tk ev th 77 82 13 29 11 7 IA 83:=dR
def ail(m:dE):qP m 14 13 7 83 77 29 82 11:=dR
def abf{tg te tk:es}{ev:Addr}(q:4<th):letI a:dE:=[bI 57896044551258231062740198220913455226441901632205615997740090104278065086466];eM B qF 67 [.p (E (4,29)),pt 11] (Mf tg te tk ev th (pt 12) IA 256 a) (λr m=>r= .t []/\m=(Mf tg te tk ev th (pt 12) IE 256 a)):=by
  refine eM.mono (eM.Ti (t:=qF) (f:=67) (a:=(Mf tg te tk ev th (pt 12) IA 256 [bI 57896044551258231062740198220913455226441901632205615997740090104278065086466])) (R:= .t []) (i:=4) (o:=pt 12) (d:=pt 5) (r:=AW IA) (Q:=AW IE) (ty:=111) K K K (eT _) λp j=>?_) ?_
  .refine((IW (l:= .r p:: .r j::AW IA) (o:=29) (v:=85132369209828568825618990617112496413088388631904505083283536607588877201568) (z:=th) (y:=111) (S:=90) (R:=tg) (k:=te) (M:=tk) (n:=ev) J kt (mi K) (Ho p j IA) q).lift (gl:=qF) [4,11,0,1,2] ⟨I,K,K,K,K,K,K,K,K,K,dD⟩ J (F5 11) I).mono ?_;rintro r u⟨C,e,⟨rfl,rfl⟩,_,rfl,rfl⟩;exact⟨K,I⟩
  .rintro r m⟨rfl,rfl⟩;exact⟨K,K⟩
def acb(tg te tk:es)(ev:Addr)(th:Int):rf tg te tk ev th 84 89 14 11 9 7 IE 90:=dR
def afo(m:dE):qP m 15 14 7 90 84 11 89 9:=dR
def afk{tg te tk:es}{ev:Addr}(q:4<th):letI a:dE:=[bI 57896044551258231062740198220913455226441901632205615997740090104278065086466];eM B qF 67 [.p (E (4,11)),pt 9] (Mf tg te tk ev th (pt 12) IE 256 a) (λr m=>r= .t []/\m=(Mf tg te tk ev th (pt 12) OC 256 a)):=by
  refine eM.mono (eM.Ti (t:=qF) (f:=67) (a:=(Mf tg te tk ev th (pt 12) IE 256 [bI 57896044551258231062740198220913455226441901632205615997740090104278065086466])) (R:= .t []) (i:=4) (o:=pt 12) (d:=pt 5) (r:=AW IE) (Q:=AW OC) (ty:=111) K K K (eT _) λp j=>?_) ?_
  .refine((IW (l:= .r p:: .r j::AW IE) (o:=11) (v:=18505919022281880113072981827955639221458448578012075254857346196103069175443) (z:=th) (y:=111) (S:=90) (R:=tg) (k:=te) (M:=tk) (n:=ev) J kt (mi K) (Ho p j IE) q).lift (gl:=qF) [4,9,0,1,2] ⟨I,K,K,K,K,K,K,K,K,K,dD⟩ J (F5 9) I).mono ?_;rintro r u⟨C,e,⟨rfl,rfl⟩,_,rfl,rfl⟩;exact⟨K,I⟩
  .rintro r m⟨rfl,rfl⟩;exact⟨K,K⟩
def aBi(tg te tk:es)(ev:Addr)(th:Int):letI a:dI:=bI 57896044551258231062740198220913455226441901632205615997740090104278065086466;letI b:List V:=pt 12::pt 5::AW N5;oX tP f66.results.toList (fe tP f66.ntmps N N 200 (dO 15 vY []) ⟨Dt,Mf tg te tk ev th (pt 12) OC 256 [a],[],[]⟩)=(G,E (.g b,G),kj 1 tg ev::gY ev te::⟨.lit [.i .i64 th],tk⟩::⟨.lit b,111⟩::[Cv (pt 12) OC,CPk 5 256,bI 115792089210356248756420345214020892766250353991924191454421193933289684991996,bI 115792089210356248756420345214020892766250353991924191454421193933289684991999,bI 115792089210356248756420345214020892766061623724957744567843809356293439045923,bI 18505919022281880113072981827955639221458448578012075254857346196103069175443,bI 22963146547237050559479531362550074578802567295341616970375194840604139615431,bI 85132369209828568825618990617112496413088388631904505083283536607588877201568,a],G):=I
abbrev dd:dI:=⟨.dead,0⟩
def amu{tg te tk:es}{ev:Addr}(q:4<th):letI a:dI:=⟨.lit [.i .i64 th],tk⟩;eM B qF 66 [] [kj 1 tg ev,gY ev te,a] (λr m=>r= .g (pt 12::pt 5::AW N5)/\m=[kj 1 tg ev,gY ev te,a,dd,dd,dd,dd,dd,dd,dd,dd,dd,dd]):=by
  refine zj 13 Y (Q:=λr m=>r= .g (pt 12::pt 5::AW N5)/\m=(kj 1 tg ev::gY ev te::⟨.lit [.i .i64 th],tk⟩::⟨.lit (pt 12::pt 5::AW N5),111⟩::[Cv (pt 12) OC,CPk 5 256,bI 115792089210356248756420345214020892766250353991924191454421193933289684991996,bI 115792089210356248756420345214020892766250353991924191454421193933289684991999,bI 115792089210356248756420345214020892766061623724957744567843809356293439045923,bI 18505919022281880113072981827955639221458448578012075254857346196103069175443,bI 22963146547237050559479531362550074578802567295341616970375194840604139615431,bI 85132369209828568825618990617112496413088388631904505083283536607588877201568,bI 57896044551258231062740198220913455226441901632205615997740090104278065086466])) ?_ ?_
  .refine dL _ f66 (fk (eB qy) (aFs _ _ _) K ?_)
   refine dY (eB qy) (in_1 _ _ _ _ _ _) K K K zY
     ((yH (tz:=90) (tg:=tg) (te:=te) (ev:=ev) abh).lift (gl:=qF) (m:=G66 tg te tk ev th [Cv (.p N) wQ,CPk 0 0,nI]) [6,0,1] ⟨K,K,K,K,K,K,dD⟩ J (BY 6) I) K ?_
   rintro r u⟨C,e,⟨rfl,rfl⟩,_,rfl,rfl⟩_;refine⟨_,K,?_⟩;rw[aeu];refine fk (eB qy) (aOj _) K ?_;refine aqa (aso (avb (auu (aly ?_))))
   refine dY (eB qy) (aLc tg te tk ev th) K K K zY
     ((yH (tz:=90) (tg:=tg) (te:=te) (ev:=ev) SR).lift (gl:=qF) (m:=(Mf tg te tk ev th (.p N) wQ 0 [nI])) [12,0,1] ⟨K,K,K,K,K,K,dD⟩ J (BY 12) I) K ?_
   rintro r u⟨C,e,⟨rfl,rfl⟩,_,rfl,rfl⟩_;refine⟨_,K,?_⟩;rw[PL];refine fk (eB qy) (amm tg te tk ev th) K ?_;refine fH (eB qy) (adt tg te tk ev th) K K I uE (aex q) I ?_;rintro r u⟨rfl,rfl⟩_;refine⟨_,K,?_⟩;refine fk (eB qy) (aen _) K ?_;refine fH (eB qy) (adv tg te tk ev th) K K I uE (ahf q) I ?_;rintro r u⟨rfl,rfl⟩_;refine⟨_,K,?_⟩;refine fk (eB qy) (acy _) K ?_;refine fH (eB qy) (aaz tg te tk ev th) K K I uE (abf q) I ?_;rintro r u⟨rfl,rfl⟩_;refine⟨_,K,?_⟩;refine fk (eB qy) (ail _) K ?_;refine fH (eB qy) (acb tg te tk ev th) K K I uE (afk q) I ?_;rintro r u⟨rfl,rfl⟩_;refine⟨_,K,?_⟩;refine fk (eB qy) (afo _) K ?_;exact gB (eB qy) (aBi tg te tk ev th) K K ⟨K,K⟩
  .rintro r m⟨rfl,rfl⟩;refine⟨_,fs.drop 3 0 Y K (fs.drop 4 0 Y K (fs.drop 5 0 Y K (fs.drop 6 0 Y K (fs.drop 7 0 Y K (fs.drop 8 0 Y K (fs.drop 9 0 Y K (fs.drop 10 0 Y K (fs.drop 11 0 Y K (fs.drop 12 0 Y K (fs.refl _ _)))))))))),Y,I,K,K⟩
def eM.aJn{P:Program}{R:Nat->Option Nat}{f:FuncId}{args:List V}{m M:dE}{o d:Option (Nat×Nat)}{r:List V}(h:eM P R f args m (λv u=>v= .g (.p o:: .p d::r)/\u=M)):
    eM P R f args m (λv u=>(∃a j,v= .g (.r (.pointer a):: .r (.pointer j)::r))/\u=M):=by
  intro q w y p;refine(h q w y p).mono ?_;rintro i S⟨l,v,u,L,rfl,rfl,rfl⟩;exact⟨l,.g (.r ((V.p o).ee l):: .r ((V.p d).ee l)::r),u,L,K,⟨_,_,K⟩,K⟩
abbrev tV(p j:Option Addr):List V:= .r (.pointer p):: .r (.pointer j)::AW N5
def aja(n:Nat)(p j:Option Addr):nd n (tV p j)=G:=(Ho (.pointer p) (.pointer j) N5).1 n
section
variable{tg te tk:es}{ev:Addr}{th:Int}
def Rt(q:4<th):letI a:dE:=[kj 1 tg ev,gY ev te,⟨.lit [.i .i64 th],tk⟩];eM B qF 66 [] a (λr m=>(∃p j,r= .g (tV p j))/\m=a):=by refine eM.rP (eM.aJn (amu q)) ?_;rintro r m⟨⟨p,j,rfl⟩,rfl⟩;exact⟨_,fs.take 3 Y Y K K,Y,aja _ _ _,⟨p,j,K⟩,K⟩
abbrev vt(m:dE)(w v:Nat)(S:List Nat)(u:List Item)(u3:St)(u4:FuncId)(o:List V)(i:Tmp)(F:Func)(t:List (Nat×V)):Prop:=(mW tP (eC tP w 200 S u u3))=(E (u4,o,E i),dF 1 v (dB F) [],t,m,[])
def aDz(m:dE):vt m f46.ntmps 1 [] [.code (dB f46)] ⟨fo 0 [],m,[],[]⟩ 66 [] 1 f46 []:=dR
def aJx(m:dE)(p j:Option Addr):oX tP f46.results.toList (fe tP f46.ntmps N N 200 (dF 1 1 (dB f46) []) ⟨[(1,.g (tV p j))],m,[],[]⟩)=(G,E (.y 111 (.g (tV p j)),G),m,G):=I
def Ja:eo B 66:=ga f66
def Hs:eo B 46:=ga f46
def H5:eo B 48:=ga f48
def HK:eo B 65:=ga f65
def Zn(q:4<th):letI a:dE:=[kj 1 tg ev,gY ev te,⟨.lit [.i .i64 th],tk⟩];eM B qF 46 [] a (λr m=>(∃p j,r= .y 111 (.g (tV p j)))/\m=a):=by refine dL _ f46 (dY (eB qy) (aDz _) K K K Ja (Rt q) K ?_);rintro r u⟨⟨p,j,rfl⟩,rfl⟩_;refine⟨_,K,?_⟩;exact gB (eB qy) (aJx _ p j) K K ⟨⟨p,j,K⟩,K⟩
end
def aQa(c:Nat)(b:dI):letI a:V:= .s (E (0,0)) 32 c;(mW (ep gz [] LQ) (eC (ep gz [] LQ) f65.ntmps 200 [3,4] [.code (dB f65)] ⟨fo 0 [a],[b],[],[]⟩))=(E (48,[.p (E (1,0)),a],E 5),dF 1 3 (dB f65) [],[(3,.p (E (1,0))),(4,a)],[b,⟨.lit [.b A,.s N 0 0],90⟩],[]):=I
def aCh(c:Nat)(m:dE):letI a:V:= .p (E (1,0));oX (ep gz [] LQ) f65.results.toList (fe (ep gz [] LQ) f65.ntmps N N 200 (dF 1 3 (dB f65) []) ⟨[(5,a),(3,a),(4,.s (E (0,0)) 32 c)],m,[],[]⟩)=(G,E (a,G),m,G):=I
def Zd{v c:Nat}{H:List Int}{tb:es}(Q:v<115792089237316195423570985008687907853269984665640564039457584007913129639936)(s:32<c∨c=32)(f:32<=H.length)(L: ∀k,k<32->H.getD k 0=(bL v).getD k 0):letI a:dI:=⟨.ws .u8 H,tb⟩;eM B gz 65 [.s (E (0,0)) 32 c] [a] (λr m=>r= .p (E (1,0))/\m=[a,⟨.int v,90⟩]):=by refine dL (ep gz [] LQ) f65 ?_;have x:ji B (ep gz [] LQ):=gy dD (jF gz);refine dY (eB x) (aQa c _) K K K H5 ((Zt (P:=90) (R:=tb) (o:=0) Q s O (λk R=>by rw[ir];exact L k R)).lift (gl:=gz) (m:=[⟨.ws .u8 H,tb⟩,⟨.lit [.b A,.s N 0 0],90⟩]) [1,0] ⟨K,K,K,K,dD⟩ J (λg i h=>by cases h) K) K ?_;rintro r u⟨C,e,⟨rfl,rfl⟩,_,rfl,rfl⟩_;refine⟨_,K,?_⟩;exact gB (eB x) (aCh c _) K K ⟨K,K⟩
section
variable{tg te tk tb tc:es}{ev:Addr}{th:Int}
abbrev M42(tg te tk:es)(ev:Addr)(th:Int)(r:dE):dE:=kj 1 tg ev::gY ev te::⟨.lit [.i .i64 th],tk⟩::r
def aRr(c d:Nat)(m:dE):vt m f42.ntmps 1 [0,1] [.code (dB f42)] ⟨fo 0 [.s (E (3,0)) 32 c,.s (E (4,0)) 32 d],m,[],[]⟩ 46 [] 5 f42 [(0,.s (E (3,0)) 32 c),(1,.s (E (4,0)) 32 d)]:=dR
def aEd(c d:Nat)(v:V)(m:dE):letI a:V:= .s (E (3,0)) 32 c;vt m f42.ntmps 3 [1,5,6] (dF 1 1 (dB f42) []) ⟨[(5,v),(0,a),(1,.s (E (4,0)) 32 d)],m,[],[]⟩ 65 [a] 7 f42 [(1,.s (E (4,0)) 32 d),(5,v),(6,a)]:=dR
def aBv(c d:Nat)(v p:V)(m:dE):letI a:V:= .s (E (4,0)) 32 d;vt m f42.ntmps 5 [5,7,8] (dF 1 3 (dB f42) []) ⟨[(7,p),(1,a),(5,v),(6,.s (E (3,0)) 32 c)],m,[],[]⟩ 65 [a] 9 f42 [(5,v),(7,p),(8,a)]:=dR
def aOz(v:V)(d:Nat)(T P L s b4 u f:dI):oX tP f42.results.toList (fe tP f42.ntmps N N 200 (dF 1 5 (dB f42) []) ⟨[(9,pt 6),(5,.y 111 v),(7,pt 5),(8,.s (E (4,0)) 32 d)],[T,P,L,s,b4,u,f],[],[]⟩)=(G,E (pt 7,G),[T,P,L,s,b4,u,f,⟨.lit [.y 111 v,pt 5,pt 6],59⟩],G):=I
def ayj{x y c d:Nat}{H p:List Int}(q:4<th):letI a:Nat:=115792089237316195423570985008687907853269984665640564039457584007913129639936;letI b:dI:=⟨.ws .u8 H,tb⟩;letI e:dI:=⟨.ws .u8 p,tc⟩;∀(L:x<a)(Q:y<a)(s:32<c∨c=32)(z:32<d∨d=32)(T:32<=H.length)(o: ∀k,k<32->H.getD k 0=(bL x).getD k 0)(P:32<=p.length)(l: ∀k,k<32->p.getD k 0=(bL y).getD k 0),eM B qF 42 [.s (E (3,0)) 32 c,.s (E (4,0)) 32 d] (M42 tg te tk ev th [b,e])
      (λr m=>r=pt 7/\ ∃n j,m=M42 tg te tk ev th [b,e,⟨.int x,90⟩,⟨.int y,90⟩,⟨.lit [.y 111 (.g (tV n j)),pt 5,pt 6],59⟩]):=by
  intro L Q s z T o P l;refine dL _ f42 (dY (eB qy) (aRr c d _) K K K Hs ((Zn q).lift (gl:=qF) (m:=M42 tg te tk ev th [⟨.ws .u8 H,tb⟩,⟨.ws .u8 p,tc⟩]) [0,1,2] ⟨K,K,K,K,K,K,dD⟩ J (λg i h=>⟨i,by unfold qF at h;cases M:Nat.beq g 1<;>rw[M]at h<;>(try(cases h;rfl));cases S:Nat.beq g 4<;>rw[S]at h<;>cases h;rfl,h⟩) K) K ?_);rintro r u⟨C,f,⟨⟨n,j,rfl⟩,rfl⟩,_,rfl,rfl⟩_;refine⟨_,K,?_⟩;refine dY (eB qy) (aEd c d _ _) K K K HK ((Zd (tb:=tb) L s T o).lift (gl:=qF) (m:=M42 tg te tk ev th [⟨.ws .u8 H,tb⟩,⟨.ws .u8 p,tc⟩]) [3] ⟨K,K,dD⟩ J (λg i h=>by cases h) K) K ?_;rintro r u⟨C,f,⟨rfl,rfl⟩,_,rfl,rfl⟩_;refine⟨_,K,?_⟩;refine dY (eB qy) (aBv c d _ _ _) K K K HK ((Zd (tb:=tc) Q z P l).lift (gl:=qF) (m:=M42 tg te tk ev th [⟨.ws .u8 H,tb⟩,⟨.ws .u8 p,tc⟩,⟨.int x,90⟩]) [4] ⟨K,K,dD⟩ J (λg i h=>by cases h) K) K ?_;rintro r u⟨C,f,⟨rfl,rfl⟩,_,rfl,rfl⟩_;refine⟨_,K,?_⟩;exact gB (eB qy) (aOz (.g (tV n j)) d _ _ _ _ _ _ _) K K ⟨K,n,j,K⟩
end
def jA.pick{m H:dE}{q:Nat->Nat}{w:ii}(y:jA q m w)(o:List Nat)(L:sJ m (sg o m.length) o H)(hn:o.Nodup):
    jA (λk=>q (sg o m.length k)) H w/\ ∀c,kW (λk=>q (sg o m.length k)) H w c->kW q m w c:=by
  have b:=uy L
  have Q: ∀k i,o[k]?=E i->i<m.length:=λk i R=>by obtain⟨x,_,P,_⟩:=uo L k i R;exact(fQ.1 P).1
  have u: ∀k,k<H.length-> ∃i,o[k]?=E i/\sg o m.length k=i/\i<m.length:=λk R=>by have M:k<o.length:=O;exact⟨o[k],by simp[M],by simp[sg,M],Q k _ (by simp[M])⟩
  have s: ∀k z i:Nat,o[k]?=E i->o[z]?=E i->k=z:=λk z i M S=>by
    obtain⟨M,e1⟩:=fQ.1 M;obtain⟨S,e2⟩:=fQ.1 S;have C:=Qz.1 hn;rcases nf k z with l|l|l
    .exact(C k z M S l (by rw[e1,e2])).elim
    .exact l
    .exact(C z k S M l (by rw[e1,e2])).elim
  have h: ∀k x,H[k]?=E x-> ∃i,o[k]?=E i/\sg o m.length k=i/\i<m.length/\m[i]?=E (x.iU (sg o m.length))/\x.c.iQ=G:=λk x R=>by obtain⟨i,g,e,f⟩:=u k (fQ.1 R).1;obtain⟨v,a,d,T⟩:=uo L k i g;rw[R]at a;cases a;exact⟨i,g,e,f,d,T⟩
  refine⟨⟨λk x R=>?_,λk z x v c R t hl p=>?_,λk R=>?_,λj=>?_⟩,λc hc=>?_⟩
  .obtain⟨i,g,e,_,d,_⟩:=h k x R;show uz _ w (q (sg o m.length k)) x;rw[e];exact(GY q _ w _ x).1 (y.cells i _ d)
  .obtain⟨i,g,e,_,d,_⟩:=h k x R;obtain⟨i',n,e',_,r,_⟩:=h z v t;simp only[e]at hl;simp only[e']at p;have:=y.inj i i' _ _ c d r ((oA _ w _ c x).2 hl) ((oA _ w _ c v).2 p);subst this;exact s k z i g n
  .obtain⟨i,_,e,g⟩:=u k R;simp only[e];exact y.lt i g
  .show q (sg o m.length (H.length+j))=_;rw[<-b,CH,y.next]
  .have go: ∀k x,H[k]?=E x->fp w (q (sg o m.length k)) x c->kW q m w c:=λk x R F=>by obtain⟨i,g,e,_,d,_⟩:=h k x R;rw[e]at F;exact .inr ⟨i,_,d,(oA _ w _ c x).2 F⟩
   rcases hc with⟨k,R,rfl⟩ |⟨k,x,R,F⟩
   .have t:H[k]?=E H[k]:=by simp[R]
    obtain⟨_,_,_,_,_,hs⟩:=h k _ t;exact go k _ t (fp.self hs)
   .exact go k x R F
def eM.pick{P:Program}{R:Nat->Option Nat}{f:FuncId}{args:List V}{m:dE}{Q:V->dE->Prop}
    (h:eM P R f args m (λr a=> ∃o C H,sJ a (sg o a.length) o H/\o.Nodup/\m.length<=H.length/\(∀i,i<m.length->o[i]?=E i)/\r=C.iU (sg o a.length)/\Q C H)):eM P R f args m Q:=by
  intro q w y p;refine(h q w y p).mono λv t b=>?_
  obtain⟨d,r,a,L,j,o,C,H,M,S,l,u,k,e⟩:=b;obtain⟨F,n⟩:=L.rel.pick o M S;refine⟨_,C,H,⟨λi g=>?_,l,λc s=>L.new c (n c s),F,L.iY⟩,by rw[j,k,sj],e⟩;show d (sg o a.length i)=_;rw[uv (u i g),L.ln i g]
noncomputable abbrev Bw:fw:=ep gz [] LQ
noncomputable abbrev Dj:Code:=dB f41
def jb:ji B Bw:=gy dD (jF gz)
def aFl(m:dE):(mW Bw (eC Bw f63.ntmps 200 [3] [.code (dB f63)] ⟨fo 0 [pt 0],m,[],[]⟩))=(E (88,[pt 0,.i .i64 0],E 4),dF 1 2 (dB f63) [],[(3,pt 0)],m,[]):=I
abbrev Ep(m:dE)(w:List ResultVar)(S u u3 i F:Nat)(u4:Code)(o:(List (Nat×V)->List (Nat×V)))(v t s:V):Prop:=oX Bw w (fe Bw S N N 200 (dF u u3 u4 []) ⟨(o [(i,v),(F,t)]),m,[],[]⟩)=(G,E (s,G),m,G)
def aJz(v:V)(m:dE):Ep m f63.results.toList f63.ntmps 1 2 4 3 (dB f63) (λS=>S) v (pt 0) v:=dR
def Tk:eo B 88:=ga f88
def IF:eo B 63:=ga f63
def RK:eo B 64:=ga f64
def ZO{v:Int}{T:es}(Q:0<v):eM B gz 63 [pt 0] [⟨.int v,T⟩] (λr m=>r= .i .u64 (v%2)/\m=[⟨.int v,T⟩]):=by refine dL _ f63 (dY (eB jb) (aFl _) K K K Tk ((avg (T:=T) Q).lift (gl:=gz) (m:=[⟨.int v,T⟩]) [0] ⟨K,K,dD⟩ J (λg i h=>by cases h) K) K ?_);rintro r u⟨C,e,⟨rfl,rfl⟩,_,rfl,rfl⟩_;refine⟨_,K,?_⟩;exact gB (eB jb) (aJz _ _) K K ⟨K,K⟩
def aGf:oX Bw f64.results.toList (fe Bw f64.ntmps N N 200 [.code (dB f64)] ⟨fo 0 [],[],[],[]⟩)=(G,E (.s (E (0,0)) 32 32,G),[⟨.ws .u8 (lc 32 0),5⟩],G):=I
def aww:eM B gz 64 [] [] (λr m=>r= .s (E (0,0)) 32 32/\m=[⟨.ws .u8 (lc 32 0),5⟩]):=by exact dL _ f64 (gB (eB jb) aGf K K ⟨K,K⟩)
def anp{v:Nat}(Q:v<115792089237316195423570985008687907853269984665640564039457584007913129639936):(bL v).take (m9 v)=lc (m9 v) 0:=by
  obtain⟨M,S,_⟩:=Ej Q;unfold m9;split
  .rfl
  .rename_i a;have T:iI v 7 3=0:=by rw[M,zC O];rfl
   split
   .show [iI v 7 3]=[0];rw[T]
   .rename_i b;have f:iI v 7 2=0:=by rw[S O,zC O];rfl
    show [iI v 7 3,iI v 7 2]=[0,0];rw[T,f]
def aew(v:Nat):m9 v<=2:=by unfold m9;split<;>(try split)<;>omega
def lL(v:Nat):(bL v).length=32:=rfl
abbrev PB(p j:Option Addr)(i:Nat):dI:=⟨.lit [.y 111 (.g (tV p j)),pt i,pt (i+1)],59⟩
abbrev xE(x:Nat)(t:es):dI:=⟨.int x,t⟩
def aQp(T P L:dI):mQ (fF Bw f41.ntmps N 2 200 [.code Dj] ⟨fo 0 [pt 0],[T,P,L],[],[]⟩) [0,3]=(dO 2 Dj [],[(0,pt 0),(3,.s (E (3,0)) 0 0)],[T,P,L,⟨.ws .u8 [],5⟩],G):=I
abbrev EH(p j:Option Addr)(m:dE)(w S u u3 F:Nat)(u4:(List (Nat×V)->List (Nat×V)))(o i:V)(v:FuncId)(t:Tmp):Prop:=(mW Bw (eC Bw f41.ntmps 200 [w,S,u] (dO u3 Dj []) ⟨(u4 [(w,o),(S,i)]),PB p j 1::m,[],[]⟩))=(E (v,[pt F],E t),dF u3 5 Dj [],[(w,o),(S,i),(u,pt F)],PB p j 1::m,[G])
def aBw(p j:Option Addr)(m:dE):EH p j m 0 3 10 2 2 (λS=>S) (pt 0) (.s (E (3,0)) 0 0) 63 11:=dR
abbrev sA(m:dE)(w:Nat)(S:List Item)(u o:List (Nat×V))(u3:List Bool)(u4:List Nat)(i:Bool):Prop:=mQ (fF Bw f41.ntmps N w 200 S ⟨u,m,u3,[]⟩) u4=(dO w Dj [],o,m,i)
def aQh(a:V)(m:dE):sA m 3 (dF 2 5 Dj []) [(11,a),(0,pt 0),(3,.s (E (3,0)) 0 0),(10,pt 2)] [(0,pt 0),(3,.s (E (3,0)) 0 0),(4,a)] [] [0,3,4] G:=dR
def aPm(p j:Option Addr)(a:V)(m:dE):(mW Bw (eC Bw f41.ntmps 200 [0,4,12,16] (dO 3 Dj []) ⟨[(0,pt 0),(3,.s (E (3,0)) 0 0),(4,a)],PB p j 1::m,[],[]⟩))=(E (54,[pt 1],E 17),dF 3 6 Dj [],[(0,pt 0),(4,a),(12,.s (E (3,0)) 0 0),(16,pt 1)],PB p j 1::m,[G]):=I
def aBd(a v:V)(m:dE):letI b:V:= .s (E (3,0)) 0 0;(match eC Bw f41.ntmps 200 [0,4,12,17] (dF 3 6 Dj []) ⟨[(17,v),(0,pt 0),(4,a),(12,b),(16,pt 1)],m,[],[]⟩with|(c,T,q,R)=>(qh Bw c T,iF c,T,q,R))=(E (22,b,v,E 18),dF 3 7 Dj [],[(0,pt 0),(4,a),(12,b),(17,v)],m,[]):=I
def aHu(a u v:V)(m:dE):sA m 4 (dF 3 7 Dj []) [(18,u),(0,pt 0),(4,a),(12,.s (E (3,0)) 0 0),(17,v)] ((λS=>(0,pt 0)::S) [(3,u),(4,a)]) [] ((λS=>0::S) [3,4]) G:=dR
def aHi(p j:Option Addr)(a u:V)(m:dE):EH p j m 3 4 22 4 1 (λS=>(0,pt 0)::S) u a 54 23:=dR
def aGv(a u:V)(p:Option (Nat×Nat))(n c:Nat)(m:dE):sA m 5 (dF 4 5 Dj []) [(23,.s p n c),(3,u),(4,a),(22,pt 1)] [(3,u),(4,a),(5,.i .i64 (n:Int))] [] [3,4,5] G:=dR
def aRv(n:Nat)(a u:V)(m:dE):sA m 7 (dO 5 Dj []) ((λS=>S) [(3,u),(4,a),(5,.i .i64 (n:Int))]) ((λS=>S) [(3,u),(4,a)]) [A] ((λS=>S) [3,4]) (eb [D ((n:Int)<32)==A]):=dR
def aIt(n:Nat)(a u:V)(m:dE):letI b:eZ:=[(3,u),(4,a),(5,.i .i64 (n:Int))];(mW Bw (eC Bw f41.ntmps 200 [3,4,5] (dO 5 Dj []) ⟨b,m,[G],[]⟩))=(E (64,[],E 27),dF 6 1 Dj [],b,m,[D ((n:Int)<32)==G]):=I
def aQj(n k:Nat)(a u:V)(m:dE):letI b:Int:=U.i64.wrap (32-(n:Int));letI c:V:= .s (E (k,0)) b.toNat 32;(match eC Bw f41.ntmps 200 [4,30,31] (dF 6 1 Dj []) ⟨[(27,.s (E (k,0)) 32 32),(3,u),(4,a),(5,.i .i64 (n:Int))],m,[],[]⟩with|(v,T,q,R)=>(qh Bw v T,iF v,T,q,R))=(E (22,c,u,E 32),dF 6 6 Dj [],[(4,a),(30,c),(31,u)],m,
    [ed (D (0<=b/\b<=32)) (D (0<=(b).toNat))]):=I
def aRj(a u v w:V)(m:dE):sA m 7 (dF 6 6 Dj []) ((λS=>(32,w)::S) [(4,a),(30,v),(31,u)]) ((λS=>S) [(3,w),(4,a)]) [] ((λS=>S) [3,4]) G:=dR
def aCa(y:Int)(u:V)(m:dE):letI a:V:= .s (E (m.length,0)) 1 1;(match eC Bw f41.ntmps 200 [35,36] (dO 7 Dj []) ⟨[(3,u),(4,.i .u64 y)],m,[],[]⟩with|(v,T,q,R)=>(qh Bw v T,iF v,T,q,R))=(E (22,a,u,E 37),dF 7 5 Dj [],[(35,a),(36,u)],m++[⟨.ws .u8 [U.u8.wrap y],5⟩],[G]):=I
def aMs(a u v:V)(m:dE):Ep m f41.results.toList f41.ntmps 7 5 35 36 Dj (λS=>(37,a)::S) u v a:=dR
def Q41(p j:Option Addr)(x y:Nat)(t ty:es)(r:V)(m:dE):Prop:= ∃F:List Int,r= .s (E (3,0)) 33 (33+F.length)/\m=[PB p j 1,xE x t,xE y ty,⟨.ws .u8 (((y:Int)%2)::(bL x++F)),5⟩]
def Z1(p j:Option Addr)(x y:Nat)(t ty:es)(r:V)(q:dE):Prop:=
  ∃o C H,sJ q (sg o q.length) o H/\o.Nodup/\3<=H.length/\(∀i,i<3->o[i]?=E i)/\r=C.iU (sg o q.length)/\Q41 p j x y t ty C H
def Md{p e:Option Addr}{x y:Nat}{t ty:es}(F:dE)(j c:Nat)(R:List Int):letI a:dE:=PB p e 1::xE x t::xE y ty::F;∀(H:a[j]?=E ⟨.ws .u8 R,5⟩)(L:R.take 32=bL x),Ev B Bw 41 f41.ntmps 3 [] (dO 7 Dj []) [(3,.s (E (j,0)) 32 c),(4,.i .u64 ((y:Int)%2))] a (Z1 p e x y t ty):=by
  intro H L
  have u:32<=R.length:=by have:=kC List.length L;rw[gR,lL]at this;omega
  have d:U.u8.wrap ((y:Int)%2)=(y:Int)%2:=by have:U.u8.wrap ((y:Int)%2)=(y:Int)%2%256:=K;rw[this];omega
  have q:j<(PB p e 1::xE x t::xE y ty::F).length:=(fQ.1 H).1;have b:=aCa ((y:Int)%2) (.s (E (j,0)) 32 c) (PB p e 1::xE x t::xE y ty::F);rw[d]at b;generalize s:(PB p e 1::xE x t::xE y ty::F)=M at*;have m:M.length=3+F.length:=by rw[<-s];simp only[eI];omega
  have inl: ∀i n c,Nat.blt i n=G->(V.s (E (i,0)) 32 c).wf n=G:=λi n c h=>h
  refine jW (eB jb) 200 [] [35,36] [G] b K K K ?_ (g:=5) (k:= .u8) (z:=E M.length) (l:=1) (c:=1) (x:=j) (ox:=0) (n:=32) (c2:=c) (F:=[(y:Int)%2]) (xs:=R) (tx:=5) K K K K ?_ O O O ?_ ?_ ?_
  .simp only[fZ,V.wf,tQ,BH,iv,nD,gw,Kd];omega
  .rw [oF q];exact H
  .exact⟨by rw[pP (eT _),wZ];rfl,eT _,eT _⟩
  .intro Q _ h;omega
  .intro _ T f _;refine⟨_,K,?_⟩;refine gB (eB jb) (aMs _ _ _ _) K K ?_;have o:((R.drop 0).take 32)=bL x:=L;rw[o];have S:(M++[(⟨.ws .u8 [(y:Int)%2],5⟩:dI)]).length=4+F.length:=by rw[gw,m];simp only[Kd];omega
   refine⟨[0,1,2,4+F.length],.s (E (3,0)) 33 T,[PB p e 1,xE x t,xE y ty,⟨.ws .u8 (((y:Int)%2)::(bL x++lc (T-33) 0)),5⟩],⟨?_,K,?_,K,?_,K,?_,K,dD⟩,?_,Y,?_,?_,lc (T-33) 0,?_,K⟩
   .rw [<-s];rfl
   .rw [<-s];rfl
   .rw [<-s];rfl
   .rw [pP O,S,wZ];rfl
   .simp only[Aa,kh,lO,iT,List.nodup_nil,im,lN];omega
   .intro i g
    match i,g with
    |0,_=>rfl
    |1,_=>rfl
    |2,_=>rfl
   .rw [S];rfl
   .rw [fJ]
    congr 1
    omega
def aok{p j:Option Addr}{x y:Nat}{t ty:es}(M:2^232<=x)(L:x<115792089237316195423570985008687907853269984665640564039457584007913129639936)(S:0<y):
    eM B gz 41 [pt 0] [PB p j 1,xE x t,xE y ty] (Q41 p j x y t ty):=by
  refine eM.pick ?_;show eM B gz 41 [pt 0] [PB p j 1,xE x t,xE y ty] (Z1 p j x y t ty);have R:=aew x;refine dL _ f41 (fk (eB jb) (aQp _ _ _) K ?_);refine dY (eB jb) (aBw p j _) K K K IF ((ZO (v:=(y:Int)) (T:=ty) O).lift (gl:=gz) (m:=[PB p j 1,xE x t,xE y ty,⟨.ws .u8 [],5⟩]) [2] ⟨K,K,dD⟩ J (λg i h=>by cases h) K) K ?_;rintro r u⟨f,e,⟨rfl,rfl⟩,_,rfl,rfl⟩_;refine⟨_,K,?_⟩;refine fk (eB jb) (aQh _ _) K ?_;refine dY (eB jb) (aPm p j _ _) K K K Jm ((ZB (t:=t) M L).lift (gl:=gz) (m:=[PB p j 1,xE x t,xE y ty,⟨.ws .u8 [],5⟩]) [1] ⟨K,K,dD⟩ J (λg i h=>by cases h) K) K ?_;rintro r u⟨f,e,⟨rfl,rfl⟩,_,rfl,rfl⟩_;refine⟨_,K,?_⟩;refine jW (eB jb) 200 [] [0,4,12,17] [] (aBd _ _ _) K K K K (g:=5) (k:= .u8) (z:=E 3) (l:=0) (c:=0) (x:=5) (ox:=m9 x) (n:=32-m9 x) (c2:=32-m9 x) (F:=[]) (xs:=bL x) (tx:=5) K K K K K (by rw[lL];omega) O O ⟨K,eT _,eT _⟩ (λQ _ h=>O) ?_;intro _ T hG H;refine⟨_,K,?_⟩;refine fk (eB jb) (aHu _ _ _ _) K ?_;obtain⟨s,q⟩: ∃s,s=([]:List Int).take 0++((bL x).drop (m9 x)).take (32-m9 x)++lc (T-(0+(32-m9 x))) (0:Int):=⟨_,K⟩
  have o:((bL x).drop (m9 x)).take (32-m9 x)=(bL x).drop (m9 x):=sQ (by rw[jK,lL];exact eT _);rw[o]at q;have w:((bL x).drop (m9 x)).length=32-m9 x:=by rw[jK,lL]
  show Ev B Bw 41 f41.ntmps 3 [] (dO 4 Dj []) [(0,pt 0),(3,.s (E (6,0)) (0+(32-m9 x)) T),(4,.i .u64 ((y:Int)%2))] [PB p j 1,xE x t,xE y ty,⟨.ws .u8 [],5⟩,⟨.dead,0⟩,⟨.ws .u8 (bL x),5⟩,⟨.ws .u8 (([]:List Int).take 0++((bL x).drop (m9 x)).take (32-m9 x)++lc (T-(0+(32-m9 x))) (0:Int)),5⟩] (Z1 p j x y t ty);rw[o,<-q,ir];refine dY (eB jb) (aHi p j _ _ _) K K K Jm ((ZB (t:=t) M L).lift (gl:=gz) (m:=[PB p j 1,xE x t,xE y ty,⟨.ws .u8 [],5⟩,⟨.dead,0⟩,⟨.ws .u8 (bL x),5⟩,⟨.ws .u8 s,5⟩]) [1] ⟨K,K,dD⟩ J (λg i h=>by cases h) K) K ?_;rintro r u⟨f,e,⟨rfl,rfl⟩,_,rfl,rfl⟩_;refine⟨_,K,?_⟩;refine fk (eB jb) (aGv _ _ _ _ _ _) K ?_;rcases np (m9 x)with C|C
  .refine fk (eB jb) (aRv _ _ _ _) ?_ ?_
   .have:(D (((32-m9 x:Nat):Int)<32)==A)=G:=by rw[nY,rF];omega
    rw[this];rfl
   rw[show V.s (E (6,0)) (32-m9 x) T= .s (E (6,0)) 32 T from by rw[C]]
   exact Md [⟨.ws .u8 [],5⟩,⟨.dead,0⟩,⟨.ws .u8 (bL x),5⟩,⟨.ws .u8 s,5⟩,⟨.dead,0⟩,⟨.ws .u8 (bL x),5⟩] 6 T s K (by
     rw[q,C];show(bL x++lc _ 0).take 32=bL x
     exact jO (lL x))
  .refine dY (eB jb) (aIt _ _ _ _) ?_ K K RK (aww.lift (gl:=gz) (m:=[PB p j 1,xE x t,xE y ty,⟨.ws .u8 [],5⟩,⟨.dead,0⟩,⟨.ws .u8 (bL x),5⟩,⟨.ws .u8 s,5⟩,⟨.dead,0⟩,⟨.ws .u8 (bL x),5⟩]) [] dD J (λg i h=>by cases h) K) K ?_
   .have:(D (((32-m9 x:Nat):Int)<32)==G)=G:=by rw[nY,eG];omega
    rw[this];rfl
   rintro r u⟨f,e,⟨rfl,rfl⟩,_,rfl,rfl⟩_;refine⟨_,K,?_⟩;have b:=aQj (32-m9 x) 9 (.i .u64 ((y:Int)%2)) (.s (E (6,0)) (32-m9 x) T) [PB p j 1,xE x t,xE y ty,⟨.ws .u8 [],5⟩,⟨.dead,0⟩,⟨.ws .u8 (bL x),5⟩,⟨.ws .u8 s,5⟩,⟨.dead,0⟩,⟨.ws .u8 (bL x),5⟩,⟨.ws .u8 (lc 32 0),5⟩]
   have d:U.i64.wrap (32-((32-m9 x:Nat):Int))=(m9 x:Nat):=by rw[show(32:Int)-((32-m9 x:Nat):Int)=(m9 x:Nat)from O];exact iy O
   rw[d,dU]at b
   have P:(lc 32 (0:Int)).take (m9 x)++(bL x).drop (m9 x)++(lc 32 (0:Int)).drop (m9 x+(32-m9 x))=bL x:=by rw[Dq,List.drop_replicate,qk O,<-anp L,Ae,show 32-(m9 x+(32-m9 x))=0 from O];exact jx _
   refine jW (eB jb) 200 [] [4,30,31] _ b (by rw[fG (show(0:Int)<=(m9 x:Nat)/\((m9 x:Nat):Int)<=32 from⟨O,O⟩),fG (qM _)];rfl) K K K (g:=5) (k:= .u8) (z:=E 9) (l:=m9 x) (c:=32) (x:=6) (ox:=0) (n:=32-m9 x) (c2:=T) (F:=lc 32 0) (xs:=s) (tx:=5) K K K K K (by rw[q,gw,gw,w];omega) O O ⟨K,O,by rw[fJ];exact eT _⟩ ?_ (λh=>O);rintro Q a _;cases a;refine⟨_,K,?_⟩;refine fk (eB jb) (aRj _ _ _ _ _) K ?_
   have F:(s.drop 0).take (32-m9 x)=(bL x).drop (m9 x):=by rw[q];show((bL x).drop (m9 x)++lc _ 0).take (32-m9 x)=_;exact jO w
   rw[F,show m9 x+(32-m9 x)=32 from O];refine Md [⟨.ws .u8 [],5⟩,⟨.dead,0⟩,⟨.ws .u8 (bL x),5⟩,⟨.ws .u8 s,5⟩,⟨.dead,0⟩,⟨.ws .u8 (bL x),5⟩,⟨.ws .u8 (dC (lc 32 0) ((bL x).drop (m9 x)) (m9 x)),5⟩] 9 32 _ K ?_;unfold dC;rw[w,P];rfl
def QX:eo B 41:=ga f41
abbrev oD:Nat->Option Nat:=λg=>bif Nat.beq g 1 then E 0 else bif Nat.beq g 4 then E 2 else bif Nat.beq g 7 then E 3 else bif Nat.beq g 3 then E 4 else bif Nat.beq g 11 then E 5 else N
noncomputable abbrev m8:fw:=ep oD [] LQ
noncomputable abbrev rM:Code:=dB f45
def ma:ji B m8:=gy dD (jF oD)
abbrev z9:List Int:=[0,0,0,0,0,0,0,0,0]
abbrev Z9:dI:=⟨.lit (z9.map (V.i .u32)),109⟩
def aGj(n:Nat)(T P L s b4 u f:dI):letI a:V:= .s (E (6,0)) 33 (n+33);letI c:V:= .s (E (6,1)) 32 (n+32);(Nb m8 (eC m8 f45.ntmps 200 [0,3,4,5,10,12] [.code rM] ⟨fo 0 [a],[T,P,L,s,b4,u,f],[],[]⟩))=(E (48,[pt 10,c],E 13),dF 2 4 rM [],[(0,a),(3,pt 7),(4,pt 8),(5,pt 9),(10,pt 10),(12,c)],[T,P,L,s,b4,u,f,Z9,Z9,Z9,⟨.lit [.b A,.s N 0 0],90⟩],eb [G]):=I
abbrev j8(m:dE)(w:List Nat)(S:List Item)(u t:List (Nat×V))(u3 s:List Bool)(u4:FuncId)(o:List V)(i:Tmp)(v F:Nat):Prop:=(Nb m8 (eC m8 f45.ntmps 200 w S ⟨u,m,u3,[]⟩))=(E (u4,o,E i),dF v F rM [],t,m,eb s)
def aEe(n:Nat)(m:dE):letI a:V:= .s (E (6,0)) 33 (n+33);j8 m [0,3,4,5,6] (dF 2 4 rM []) [(13,pt 10),(0,a),(3,pt 7),(4,pt 8),(5,pt 9),(10,pt 10),(12,.s (E (6,1)) 32 (n+32))] [(0,a),(3,pt 7),(4,pt 8),(5,pt 9),(6,pt 10)] [] [] 66 [] 14 3 1:=dR
def aPk(n:Nat)(p j:Option Addr)(T P L s b4 u f h Q v i:dI):letI a:V:= .s (E (6,0)) 33 (n+33);mQ (fF m8 f45.ntmps N 4 200 (dF 3 1 rM []) ⟨[(14,.g (tV p j)),(0,a),(3,pt 7),(4,pt 8),(5,pt 9),(6,pt 10)],[T,P,L,s,b4,u,f,h,Q,v,i],[],[]⟩) [0,3,4,5,6,7]=(dO 4 rM [],[(0,a),(3,pt 7),(4,pt 8),(5,pt 9),(6,pt 10),(7,pt 11)],[T,P,L,s,b4,u,f,h,Q,v,i,⟨.lit (tV p j),111⟩],eb []):=I
def aMh(n:Nat)(m:dE):letI a:V:= .s (E (6,0)) 33 (n+33);j8 m [0,3,4,5,6,7,15] (dO 4 rM []) ((λS=>S) [(0,a),(3,pt 7),(4,pt 8),(5,pt 9),(6,pt 10),(7,pt 11)]) [(0,a),(3,pt 7),(4,pt 8),(5,pt 9),(6,pt 10),(7,pt 11),(15,pt 10)] [] [] 67 [pt 8,pt 10] 16 4 2:=dR
def aEk(n:Nat)(m:dE):letI a:V:= .s (E (6,0)) 33 (n+33);j8 m [0,3,4,5,6,7] (dF 4 2 rM []) [(16,.t []),(0,a),(3,pt 7),(4,pt 8),(5,pt 9),(6,pt 10),(7,pt 11),(15,pt 10)] [(0,a),(3,pt 7),(4,pt 8),(5,pt 9),(6,pt 10),(7,pt 11)] [] [] 68 ((λS=>S) [pt 9,pt 8]) 17 5 1:=dR
def aGy(n:Nat)(m:dE):letI a:eZ:=[(6,pt 10),(7,pt 11)];letI b:V:= .s (E (6,0)) 33 (n+33);j8 m ((λS=>0::3::4::5::S) [6,7]) (dF 5 1 rM []) ((λS=>(17,.t [])::(0,b)::(3,pt 7)::(4,pt 8)::(5,pt 9)::S) a) ((λS=>(0,b)::(3,pt 7)::(4,pt 8)::(5,pt 9)::S) a) [] [] 69 [pt 9,pt 9,pt 8] 18 6 1:=dR
def aBz(n:Nat)(m:dE):letI a:V:= .s (E (6,0)) 33 (n+33);j8 m [0,3,4,5,6,7,19] (dF 6 1 rM []) ((λS=>(18,.t [])::S) [(0,a),(3,pt 7),(4,pt 8),(5,pt 9),(6,pt 10),(7,pt 11)]) [(0,a),(3,pt 7),(4,pt 8),(5,pt 9),(6,pt 10),(7,pt 11),(19,.p (E (11,2)))] [] [] 69 [pt 7,.p (E (11,2)),pt 8] 20 7 2:=dR
def aNw(n:Nat)(m:dE):letI a:V:= .s (E (6,0)) 33 (n+33);j8 m [0,3,4,5,6,7] (dF 7 2 rM []) [(20,.t []),(0,a),(3,pt 7),(4,pt 8),(5,pt 9),(6,pt 10),(7,pt 11),(19,.p (E (11,2)))] [(0,a),(3,pt 7),(4,pt 8),(5,pt 9),(6,pt 10),(7,pt 11)] [] [] 70 ((λS=>pt 9::S) [pt 9,pt 7]) 21 8 1:=dR
def aSc(n:Nat)(m:dE):letI a:V:= .s (E (6,0)) 33 (n+33);j8 m [0,3,4,5,6,7,22] (dF 8 1 rM []) ((λS=>(21,.t [])::S) [(0,a),(3,pt 7),(4,pt 8),(5,pt 9),(6,pt 10),(7,pt 11)]) [(0,a),(3,pt 7),(4,pt 8),(5,pt 9),(6,pt 10),(7,pt 11),(22,.p (E (11,11)))] [] [] 70 [pt 9,pt 9,.p (E (11,11))] 23 9 2:=dR
def aLt(n:Nat)(m:dE):letI a:V:= .s (E (6,0)) 33 (n+33);j8 m [0,5,6] (dF 9 2 rM []) [(23,.t []),(0,a),(3,pt 7),(4,pt 8),(5,pt 9),(6,pt 10),(7,pt 11),(22,.p (E (11,11)))] [(0,a),(5,pt 9),(6,pt 10)] [] [] 71 [pt 9] 24 10 1:=dR
def aFc(n:Nat)(T P L s b4 u f h Q v i S w:dI):letI a:V:= .s (E (6,0)) 33 (n+33);(Nb m8 (eC m8 f45.ntmps 200 [0,6,25,26] (dF 10 1 rM []) ⟨[(24,pt 12),(0,a),(5,pt 9),(6,pt 10)],[T,P,L,s,b4,u,f,h,Q,v,i,S,w],[],[]⟩))=(E (73,[],E 27),dF 11 3 rM [],[(0,a),(6,pt 10),(25,pt 13),(26,pt 12)],[T,P,L,s,b4,u,f,h,Q,v,i,S,w,⟨.lit [.b A,.s N 0 0],90⟩],eb []):=I
def aNz(n:Nat)(m:dE):letI a:V:= .s (E (6,0)) 33 (n+33);j8 m [0,6,25,26,27] (dF 11 3 rM []) [(27,pt 14),(0,a),(6,pt 10),(25,pt 13),(26,pt 12)] [(0,a),(6,pt 10),(25,pt 13),(26,pt 12),(27,pt 14)] [] [] 72 [pt 13,pt 12,pt 14] 28 11 4:=dR
abbrev zO(m:dE)(w:Nat)(S:List Item)(u:List (Nat×V))(u3 i:List Bool)(u4:(List Nat->List Nat))(o:(List (Nat×V)->List (Nat×V))):Prop:=mQ (fF m8 f45.ntmps N w 200 S ⟨u,m,u3,[]⟩) (u4 [6,9])=(dO w rM [],(o [(6,pt 10),(9,pt 13)]),m,eb i)
def aJr(n:Nat)(m:dE):letI a:V:= .s (E (6,0)) 33 (n+33);zO m 12 (dF 11 4 rM []) [(28,pt 13),(0,a),(6,pt 10),(25,pt 13),(26,pt 12),(27,pt 14)] [] [] (λS=>0::S) (λS=>(0,a)::S):=dR
def aLr(c:Bool)(m:dE):j8 m [6,9,36] (jM 12 rM) [(6,pt 10),(9,pt 13),(35,.b c)] [(6,pt 10),(9,pt 13),(36,pt 13)] [G] [c==G] 73 [] 37 13 2:=dR
def aFa(m:dE):letI a:V:=pt 13;j8 m [6,9,36,37,38] (dF 13 2 rM []) [(37,pt 15),(6,pt 10),(9,a),(36,a)] [(6,pt 10),(9,a),(36,a),(37,pt 15),(38,a)] [] [] 49 [a,pt 15,a] 39 13 4:=dR
def aOw(m:dE):zO m 14 (dF 13 4 rM []) ((λS=>(39,pt 13)::(6,pt 10)::(9,pt 13)::S) [(36,pt 13),(37,pt 15),(38,pt 13)]) [] [] (λS=>S) (λS=>S):=dR
def aFt(c:Bool)(m:dE):zO m 14 (jM 12 rM) ((λS=>S) [(6,pt 10),(9,pt 13),(35,.b c)]) [A] [c==A] (λS=>S) (λS=>S):=dR
def aOu(m:dE):letI a:eZ:=(λS=>S) [(6,pt 10),(9,pt 13)];j8 m ((λS=>S) [6,9]) (dO 14 rM []) a a [] [] 46 [] 40 14 1:=dR
def aPb(v:V)(m:dE):oX m8 f45.results.toList (fe m8 f45.ntmps N N 200 (dF 14 1 rM []) ⟨[(40,.y 111 v),(6,pt 10),(9,pt 13)],m,[],[]⟩)=(G,E (.p (E (m.length,0)),G),m++[⟨.lit [.y 111 v,pt 10,pt 13],59⟩],G):=I
def OD{l:List Int}{v:Int}(h:xF l v): ∃q F c H M p b a e,l=[q,F,c,H,M,p,b,a,e]:=by
  unfold xF at h;split at h
  .exact⟨_,_,_,_,_,_,_,_,_,K⟩
  .exact h.elim
def Pg:(2:Int)^257=((fS:Nat):Int):=kt
def Fz:Pv=((pN:Nat):Int):=kt
def adu(x:Nat):(x:Int)*2^257%Pv=((x*fS%pN:Nat):Int):=by rw[Pg,Fz,uC,lJ]
def aiz(s:Nat):(s:Int)*Dw%Pv=((s*Hk%pN:Nat):Int):=by rw[Fz,uC,lJ,show Dw=((Hk:Nat):Int)from by decide+kernel]
def aph(x:Nat):xF (mj ((x:Int)*2^257%Pv)) ((x*fS%pN:Nat):Int):=by rw[adu];have h:x*fS%pN<pN:=iD _ J;have S:pN<2^257:=J;refine O2 O ?_;have l:(2:Int)^257=((2^257:Nat):Int):=kt;rw[l];omega
def acq:xF [536870905,268435455,895,268428288,536870911,268435455,536870911,150994943,268435455] ((Ym:Nat):Int):=⟨⟨J,J⟩,⟨J,J⟩,⟨J,J⟩,⟨J,J⟩,⟨J,J⟩,⟨J,J⟩,⟨J,J⟩,⟨J,J⟩,⟨J,J⟩,by decide+kernel⟩
def ady:xF [394377860,220399154,355969936,163370829,236861671,88177300,303341152,24396229,75627569] ((cbN:Nat):Int):=⟨⟨J,J⟩,⟨J,J⟩,⟨J,J⟩,⟨J,J⟩,⟨J,J⟩,⟨J,J⟩,⟨J,J⟩,⟨J,J⟩,⟨J,J⟩,by decide+kernel⟩
def Qi:eo B 68:=ga f68
def IV:eo B 69:=ga f69
def Jc:eo B 70:=ga f70
def Rf:eo B 71:=ga f71
def PZ:eo B 72:=ga f72
def Qr:eo B 49:=ga f49
def S0: ∀g i,qF g=E i-> ∃j,[0,1,2][i]?=E j/\oD g=E j:=rL ⟨_,K,K⟩ (rL ⟨_,K,K⟩ DO)
def aet: ∀g i,Jw g=E i-> ∃j,[8,10,0,1,2][i]?=E j/\oD g=E j:=rL ⟨_,K,K⟩ (rL ⟨_,K,K⟩ DO)
def S8: ∀g i,(gc 1) g=E i-> ∃j,[9,4,8][i]?=E j/\oD g=E j:=rL ⟨_,K,K⟩ DO
def afq: ∀g i,(gc 1) g=E i-> ∃j,[7,4,11,8][i]?=E j/\oD g=E j:=rL ⟨_,K,K⟩ DO
def aha: ∀g i,(gc 1) g=E i-> ∃j,[9,4,7][i]?=E j/\oD g=E j:=rL ⟨_,K,K⟩ DO
def abp: ∀g i,(gc 1) g=E i-> ∃j,[9,4,11][i]?=E j/\oD g=E j:=rL ⟨_,K,K⟩ DO
def abj: ∀g i,Aq g=E i-> ∃j,[9,0,1,2,3][i]?=E j/\oD g=E j:=rL ⟨_,K,K⟩ (rL ⟨_,K,K⟩ (rL ⟨_,K,K⟩ DO))
def ZL: ∀g i,(ge 0) g=E i-> ∃j,[0,1][i]?=E j/\oD g=E j:=rL ⟨_,K,K⟩ DO
def atv: ∀g i,tT g=E i-> ∃j,[13,12,14,2,5][i]?=E j/\oD g=E j:=rL ⟨_,K,K⟩ (rL ⟨_,K,K⟩ DO)
abbrev oY(tg te tk tq tc tt tb:es)(ev:Addr)(th:Int)(xs:List Int)(r:dE):dE:=kj 1 tg ev::gY ev te::⟨.lit [.i .i64 th],tk⟩::⟨.lit [.i .i64 40],tq⟩::⟨.ws .u32 mn,tc⟩::⟨.ws .u8 jJ,tt⟩::⟨.ws .u8 xs,tb⟩::r
def Q45(tg te tk tq tc tt tb:es)(ev:Addr)(th:Int)(xs:List Int)(x y:Nat)(r:V)(m:dE):Prop:=r=pt 9/\ ∃p j,m=oY tg te tk tq tc tt tb ev th xs [⟨.int x,90⟩,⟨.int y,90⟩,PB p j 7]
def axt(tg te tk tq tc tt tb:es)(ev:Addr)(th:Int)(xs:List Int)(x y:Nat)(r:V)(q:dE):Prop:=
  ∃o C p,sJ q (sg o q.length) o p/\o.Nodup/\7<=p.length/\(∀i,i<7->o[i]?=E i)/\r=C.iU (sg o q.length)/\Q45 tg te tk tq tc tt tb ev th xs x y C p
section
variable{tg te tk tq tc tt tb:es}{ev:Addr}{th:Int}{xs:List Int}{x y n:Nat}
def MU(q:4<th)(h Q v S w:dI)(F:dE):letI a:dE:=oY tg te tk tq tc tt tb ev th xs (h::Q::v::⟨.int x,90⟩::S::w::⟨.int y,90⟩::F);∀(d:ek (14+F.length) a=G),Ev B m8 45 f45.ntmps 7 [] (dO 14 rM []) [(6,pt 10),(9,pt 13)] a (axt tg te tk tq tc tt tb ev th xs x y):=by
  intro d;have f:(oY tg te tk tq tc tt tb ev th xs (h::Q::v::⟨.int x,90⟩::S::w::⟨.int y,90⟩::F)).length=14+F.length:=by simp only[eI];omega
  refine fH (eB ma) (aOu _) K K K Hs ((Zn (tg:=tg) (te:=te) (tk:=tk) (ev:=ev) q).lift (gl:=oD) (m:=oY tg te tk tq tc tt tb ev th xs (h::Q::v::⟨.int x,90⟩::S::w::⟨.int y,90⟩::F)) [0,1,2] ⟨K,K,K,K,K,K,dD⟩ J S0 (by rw[f];exact d)) ?_ ?_
  .rw [f,mE];rfl
  rintro r u⟨C,e,⟨⟨p,j,rfl⟩,rfl⟩,_,rfl,rfl⟩_;refine⟨_,K,?_⟩;show Ev B m8 45 f45.ntmps 7 [] (dF 14 1 rM []) [(40,.y 111 (.g (tV p j))),(6,pt 10),(9,pt 13)] (oY tg te tk tq tc tt tb ev th xs (h::Q::v::⟨.int x,90⟩::S::w::⟨.int y,90⟩::F)++[]) _;rw[jx];refine gB (eB ma) (aPb _ _) K K ?_;have b:(oY tg te tk tq tc tt tb ev th xs (h::Q::v::⟨.int x,90⟩::S::w::⟨.int y,90⟩::F)++[(⟨.lit [.y 111 (.g (tV p j)),pt 10,pt 13],59⟩:dI)]).length=15+F.length:=by rw[gw,f];simp only[Kd];omega
  refine⟨[0,1,2,3,4,5,6,10,13,14+F.length],pt 9,oY tg te tk tq tc tt tb ev th xs [⟨.int x,90⟩,⟨.int y,90⟩,PB p j 7],⟨K,K,K,K,K,K,K,K,K,K,K,K,K,K,K,K,K,K,?_,K,dD⟩,?_,by simp only[eI];omega,?_,?_,K,p,j,K⟩
  .rw [pP (by rw[f];exact eT _),f,wZ];rfl
  .simp only[Aa,kh,lO,iT,List.nodup_nil,im,lN];omega
  .intro i g
   match i,g with
   |0,_=>rfl
   |1,_=>rfl
   |2,_=>rfl
   |3,_=>rfl
   |4,_=>rfl
   |5,_=>rfl
   |6,_=>rfl
  .rw [f];show V.p (E (14+F.length,0))=V.p (E (sg _ _ 9,0));rfl
def ays(hp:Ij x y)(hx:x<115792089237316195423570985008687907853269984665640564039457584007913129639936)(aa:4<th)(hl:33<=xs.length)(h0:xs.getD 0 0=(y:Int)%2)(ag: ∀k,k<32->xs.getD (1+k) 0=(bL x).getD k 0):
    eM B oD 45 [.s (E (6,0)) 33 (n+33)] (oY tg te tk tq tc tt tb ev th xs []) (Q45 tg te tk tq tc tt tb ev th xs x y):=by
  refine eM.pick ?_;show eM B oD 45 [.s (E (6,0)) 33 (n+33)] (oY tg te tk tq tc tt tb ev th xs []) (axt tg te tk tq tc tt tb ev th xs x y);have h3:pw 3=2^192:=kt;have h4:pw 4=2^256:=kt;have al:=hp.x2;have ak:=hp.y2;have aj:=hp.yp;have an:=hp.v2;have am:vN x<pN:=iD _ J;have pv:Pv=((pN:Nat):Int):=Fz;have ac:(x:Int)<pw 900:=K1 (show(x:Int)<pw 4 by rw[h4];omega) (jk O);refine dL _ f45 (fH (eB ma) (aGj n _ _ _ _ _ _ _) K K K H5 ((Zt (v:=x) (o:=1) (c:=n+32) (P:=90) (R:=tb) hx O O ag).lift (gl:=oD) (m:=oY tg te tk tq tc tt tb ev th xs [Z9,Z9,Z9,⟨.lit [.b A,.s N 0 0],90⟩]) [10,6] ⟨K,K,K,K,dD⟩ J (λg i h=>by cases h) K) K ?_);rintro r m'⟨r0,e,⟨rfl,rfl⟩,_,rfl,rfl⟩_;refine⟨_,K,?_⟩;refine pA 7 (k:= .u32) (l:=z9) (ty:=109) K ?_;refine pA 9 (k:= .u32) (l:=z9) (ty:=109) K ?_;show Ev B m8 45 f45.ntmps 7 [] (dF 2 4 rM []) _ (oY tg te tk tq tc tt tb ev th xs [⟨.ws .u32 z9,109⟩,Z9,⟨.ws .u32 z9,109⟩,⟨.int x,90⟩]) _;refine fH (eB ma) (aEe n _) K K K Ja ((Rt (tg:=tg) (te:=te) (tk:=tk) (ev:=ev) aa).lift (gl:=oD) (m:=(oY tg te tk tq tc tt tb ev th xs [⟨.ws .u32 z9,109⟩,Z9,⟨.ws .u32 z9,109⟩,⟨.int x,90⟩])) [0,1,2] ⟨K,K,K,K,K,K,dD⟩ J S0 K) K ?_;rintro r m'⟨r0,e,⟨⟨p,j,rfl⟩,rfl⟩,_,rfl,rfl⟩_;refine⟨_,K,?_⟩;refine fk (eB ma) (aPk n p j _ _ _ _ _ _ _ _ _ _ _) K ?_;show Ev B m8 45 f45.ntmps 7 [] (dO 4 rM []) _ (oY tg te tk tq tc tt tb ev th xs [⟨.ws .u32 z9,109⟩,Z9,⟨.ws .u32 z9,109⟩,⟨.int x,90⟩,⟨.lit (tV p j),111⟩]) _;refine fH (eB ma) (aMh n _) K K K uE ((IW (l:=z9.map (V.i .u32)) (o:=0) (v:=(x:Int)) (z:=th) (y:=109) (S:=90) (R:=tg) (k:=te) (M:=tk) (n:=ev) O ac (mi K) ⟨λn=>rfl,λτ=>rfl⟩ aa).lift (gl:=oD) (m:=(oY tg te tk tq tc tt tb ev th xs [⟨.ws .u32 z9,109⟩,Z9,⟨.ws .u32 z9,109⟩,⟨.int x,90⟩,⟨.lit (tV p j),111⟩])) [8,10,0,1,2] ⟨K,K,K,K,K,K,K,K,K,K,dD⟩ J aet K) K ?_;rintro r m'⟨r0,e,⟨rfl,rfl⟩,_,rfl,rfl⟩_;refine⟨_,K,?_⟩;show Ev B m8 45 f45.ntmps 7 [] (dF 4 2 rM []) _ (oY tg te tk tq tc tt tb ev th xs [⟨.ws .u32 z9,109⟩,⟨.lit (SH (z9.map (V.i .u32)) 0 (mj ((x:Int)*2^257%Pv))),109⟩,⟨.ws .u32 z9,109⟩,⟨.int x,90⟩,⟨.lit (tV p j),111⟩]) _;have hX:=aph x;obtain⟨lx,af⟩: ∃l,l=mj ((x:Int)*2^257%Pv):=⟨_,K⟩
  rw[<-af]at hX⊢;clear af;obtain⟨F,H,w,P,L,q,u,C,s,rfl⟩:=OD hX;refine pA 8 (k:= .u32) (l:=[F,H,w,P,L,q,u,C,s]) (ty:=109) K ?_;show Ev B m8 45 f45.ntmps 7 [] (dF 4 2 rM []) _ (oY tg te tk tq tc tt tb ev th xs [⟨.ws .u32 z9,109⟩,⟨.ws .u32 [F,H,w,P,L,q,u,C,s],109⟩,⟨.ws .u32 z9,109⟩,⟨.int x,90⟩,⟨.lit (tV p j),111⟩]) _;refine fH (eB ma) (aEk n _) K K K Qi ((agk (y0:=0) (y1:=0) (y2:=0) (y3:=0) (y4:=0) (y5:=0) (y6:=0) (y7:=0) (y8:=0) (q:=F) (F:=H) (y:=w) (H:=P) (M:=L) (p:=q) (v:=u) (n:=C) (e:=s) (T:=109) (z:=tc) (L:=109) hX hp.ev1).lift (gl:=oD) (m:=(oY tg te tk tq tc tt tb ev th xs [⟨.ws .u32 z9,109⟩,⟨.ws .u32 [F,H,w,P,L,q,u,C,s],109⟩,⟨.ws .u32 z9,109⟩,⟨.int x,90⟩,⟨.lit (tV p j),111⟩])) [9,4,8] ⟨K,K,K,K,K,K,dD⟩ J S8 K) K ?_;rintro r m'⟨r0,e,⟨rfl,l,hC,rfl⟩,_,rfl,rfl⟩_;refine⟨_,K,?_⟩;obtain⟨c0,c1,c2,c3,c4,c5,c6,c7,c8,rfl⟩:=OD hC;show Ev B m8 45 f45.ntmps 7 [] (dF 5 1 rM []) _ (oY tg te tk tq tc tt tb ev th xs [⟨.ws .u32 z9,109⟩,⟨.ws .u32 [F,H,w,P,L,q,u,C,s],109⟩,⟨.ws .u32 [c0,c1,c2,c3,c4,c5,c6,c7,c8],109⟩,⟨.int x,90⟩,⟨.lit (tV p j),111⟩]) _;refine fH (eB ma) (aGy n _) K K K IV ((aaw (x:=c0) (F:=c1) (y:=c2) (H:=c3) (M:=c4) (p:=c5) (v:=c6) (n:=c7) (e:=c8) (T:=F) (P:=H) (L:=w) (s:=P) (b4:=L) (u:=q) (f:=u) (h:=C) (q:=s) (ta:=109) (te:=tc) (tc:=109) hC hX hp.ev2).lift (gl:=oD) (m:=(oY tg te tk tq tc tt tb ev th xs [⟨.ws .u32 z9,109⟩,⟨.ws .u32 [F,H,w,P,L,q,u,C,s],109⟩,⟨.ws .u32 [c0,c1,c2,c3,c4,c5,c6,c7,c8],109⟩,⟨.int x,90⟩,⟨.lit (tV p j),111⟩])) [9,4,8] ⟨K,K,K,K,K,K,dD⟩ J S8 K) K ?_;rintro r m'⟨r0,e,⟨rfl,l,hD,rfl⟩,_,rfl,rfl⟩_;refine⟨_,K,?_⟩;obtain⟨d0,d1,d2,d3,d4,d5,d6,d7,d8,rfl⟩:=OD hD;show Ev B m8 45 f45.ntmps 7 [] (dF 6 1 rM []) _ (oY tg te tk tq tc tt tb ev th xs [⟨.ws .u32 z9,109⟩,⟨.ws .u32 [F,H,w,P,L,q,u,C,s],109⟩,⟨.ws .u32 [d0,d1,d2,d3,d4,d5,d6,d7,d8],109⟩,⟨.int x,90⟩,⟨.lit (tV p j),111⟩]) _;refine fH (eB ma) (aBz n _) K K K IV ((abb (y0:=0) (y1:=0) (y2:=0) (y3:=0) (y4:=0) (y5:=0) (y6:=0) (y7:=0) (y8:=0) (q:=536870905) (F:=268435455) (y:=895) (H:=268428288) (M:=536870911) (p:=268435455) (v:=536870911) (n:=150994943) (x:=268435455) (T:=F) (P:=H) (L:=w) (s:=P) (b4:=L) (u:=q) (f:=u) (h:=C) (z:=s) (z0:=394377860) (z1:=220399154) (z2:=355969936) (z3:=163370829) (z4:=236861671) (z5:=88177300) (z6:=303341152) (z7:=24396229) (z8:=75627569) (z9:=137364797) (ar:=52992271) (aq:=113266657) (ap:=202339045) (ao:=31563580) (an:=107393171) (am:=24488059) (al:=247693942) (ak:=35835723) (aj:=408558522) (ah:=55895443) (ag:=311818945) (af:=254526569) (ae:=75260154) (ad:=203012265) (ac:=258167614) (ab:=151236203) (aa:=209300666) (v0:= .pointer p) (v1:= .pointer j) (ta:=109) (te:=tc) (td:=111) (tc:=109) acq hX hp.ev3).lift (gl:=oD) (m:=(oY tg te tk tq tc tt tb ev th xs [⟨.ws .u32 z9,109⟩,⟨.ws .u32 [F,H,w,P,L,q,u,C,s],109⟩,⟨.ws .u32 [d0,d1,d2,d3,d4,d5,d6,d7,d8],109⟩,⟨.int x,90⟩,⟨.lit (tV p j),111⟩])) [7,4,11,8] ⟨K,K,K,K,K,K,K,K,dD⟩ J afq K) K ?_;rintro r m'⟨r0,e,⟨rfl,l,hE,rfl⟩,_,rfl,rfl⟩_;refine⟨_,K,?_⟩;obtain⟨e0,e1,e2,Q,M,t,a,z,T,rfl⟩:=OD hE;show Ev B m8 45 f45.ntmps 7 [] (dF 7 2 rM []) _ (oY tg te tk tq tc tt tb ev th xs [⟨.ws .u32 [e0,e1,e2,Q,M,t,a,z,T],109⟩,⟨.ws .u32 [F,H,w,P,L,q,u,C,s],109⟩,⟨.ws .u32 [d0,d1,d2,d3,d4,d5,d6,d7,d8],109⟩,⟨.int x,90⟩,⟨.lit (tV p j),111⟩]) _;refine fH (eB ma) (aNw n _) K K K Jc ((aem (w:=d0) (F:=d1) (y:=d2) (q:=d3) (M:=d4) (p:=d5) (v:=d6) (n:=d7) (e:=d8) (T:=e0) (P:=e1) (L:=e2) (s:=Q) (b4:=M) (u:=t) (o:=a) (h:=z) (Q:=T) (g:=109) (k:=tc) (C:=109) hD hE).lift (gl:=oD) (m:=(oY tg te tk tq tc tt tb ev th xs [⟨.ws .u32 [e0,e1,e2,Q,M,t,a,z,T],109⟩,⟨.ws .u32 [F,H,w,P,L,q,u,C,s],109⟩,⟨.ws .u32 [d0,d1,d2,d3,d4,d5,d6,d7,d8],109⟩,⟨.int x,90⟩,⟨.lit (tV p j),111⟩])) [9,4,7] ⟨K,K,K,K,K,K,dD⟩ J aha K) K ?_;rintro r m'⟨r0,e,⟨rfl,l,hF,_,rfl⟩,_,rfl,rfl⟩_;refine⟨_,K,?_⟩;obtain⟨f0,f1,f2,f3,f4,f5,f6,f7,f8,rfl⟩:=OD hF;show Ev B m8 45 f45.ntmps 7 [] (dF 8 1 rM []) _ (oY tg te tk tq tc tt tb ev th xs [⟨.ws .u32 [e0,e1,e2,Q,M,t,a,z,T],109⟩,⟨.ws .u32 [F,H,w,P,L,q,u,C,s],109⟩,⟨.ws .u32 [f0,f1,f2,f3,f4,f5,f6,f7,f8],109⟩,⟨.int x,90⟩,⟨.lit (tV p j),111⟩]) _;refine fH (eB ma) (aSc n _) K K K Jc ((acg (a0:=f0) (a1:=f1) (a2:=f2) (a3:=f3) (a4:=f4) (a5:=f5) (a6:=f6) (a7:=f7) (a8:=f8) (b0:=394377860) (M:=220399154) (F:=355969936) (s:=163370829) (b4:=236861671) (u:=88177300) (f:=303341152) (h:=24396229) (Q:=75627569) (z0:=536870905) (z1:=268435455) (z2:=895) (z3:=268428288) (z4:=536870911) (z5:=268435455) (z6:=536870911) (z7:=150994943) (z8:=268435455) (z9:=137364797) (i:=52992271) (q:=113266657) (y:=202339045) (v:=31563580) (L:=107393171) (p:=24488059) (P:=247693942) (n:=35835723) (e:=408558522) (g:=55895443) (x:=311818945) (o:=254526569) (k:=75260154) (C:=203012265) (w:=258167614) (j:=151236203) (z:=209300666) (v0:= .pointer p) (v1:= .pointer j) (T:=109) (te:=tc) (td:=111) hF ady).lift (gl:=oD) (m:=(oY tg te tk tq tc tt tb ev th xs [⟨.ws .u32 [e0,e1,e2,Q,M,t,a,z,T],109⟩,⟨.ws .u32 [F,H,w,P,L,q,u,C,s],109⟩,⟨.ws .u32 [f0,f1,f2,f3,f4,f5,f6,f7,f8],109⟩,⟨.int x,90⟩,⟨.lit (tV p j),111⟩])) [9,4,11] ⟨K,K,K,K,K,K,dD⟩ J abp K) K ?_;rintro r m'⟨r0,e,⟨rfl,l,hW,hP,rfl⟩,_,rfl,rfl⟩_;refine⟨_,K,?_⟩
  replace hP:=hP hp.nz
  obtain⟨w0,w1,w2,w3,w4,w5,w6,w7,w8,rfl⟩:=OD hW;show Ev B m8 45 f45.ntmps 7 [] (dF 9 2 rM []) _ (oY tg te tk tq tc tt tb ev th xs [⟨.ws .u32 [e0,e1,e2,Q,M,t,a,z,T],109⟩,⟨.ws .u32 [F,H,w,P,L,q,u,C,s],109⟩,⟨.ws .u32 [w0,w1,w2,w3,w4,w5,w6,w7,w8],109⟩,⟨.int x,90⟩,⟨.lit (tV p j),111⟩]) _;refine fH (eB ma) (aLt n _) K K K Rf ((atz (F:=w0) (H:=w1) (w:=w2) (P:=w3) (L:=w4) (q:=w5) (j:=w6) (f:=w7) (s:=w8) (z:=th) (S:=((sN x:Nat):Int)) (t:=109) (R:=tg) (k:=te) (M:=tk) (T:=tq) (n:=ev) hP hW aa).lift (gl:=oD) (m:=(oY tg te tk tq tc tt tb ev th xs [⟨.ws .u32 [e0,e1,e2,Q,M,t,a,z,T],109⟩,⟨.ws .u32 [F,H,w,P,L,q,u,C,s],109⟩,⟨.ws .u32 [w0,w1,w2,w3,w4,w5,w6,w7,w8],109⟩,⟨.int x,90⟩,⟨.lit (tV p j),111⟩])) [9,0,1,2,3] ⟨K,K,K,K,K,K,K,K,K,K,dD⟩ J abj K) K ?_;rintro r m'⟨r0,e,⟨rfl,rfl⟩,_,rfl,rfl⟩_;refine⟨_,K,?_⟩;show Ev B m8 45 f45.ntmps 7 [] (dF 10 1 rM []) _ (oY tg te tk tq tc tt tb ev th xs [⟨.ws .u32 [e0,e1,e2,Q,M,t,a,z,T],109⟩,⟨.ws .u32 [F,H,w,P,L,q,u,C,s],109⟩,⟨.ws .u32 [w0,w1,w2,w3,w4,w5,w6,w7,w8],109⟩,⟨.int x,90⟩,⟨.lit (tV p j),111⟩,⟨.int ((sN x:Nat)*Dw%Pv),90⟩]) _;rw[aiz,aqw];refine fH (eB ma) (aFc n _ _ _ _ _ _ _ _ _ _ _ _ _) K K K xH ((UC (R:=tg) (k:=te) (n:=ev)).lift (gl:=oD) (m:=(oY tg te tk tq tc tt tb ev th xs [⟨.ws .u32 [e0,e1,e2,Q,M,t,a,z,T],109⟩,⟨.ws .u32 [F,H,w,P,L,q,u,C,s],109⟩,⟨.ws .u32 [w0,w1,w2,w3,w4,w5,w6,w7,w8],109⟩,⟨.int x,90⟩,⟨.lit (tV p j),111⟩,⟨.int ((vN x:Nat):Int),90⟩,⟨.lit [.b A,.s N 0 0],90⟩])) [0,1] ⟨K,K,K,K,dD⟩ J ZL K) K ?_;rintro r m'⟨r0,e,⟨rfl,rfl⟩,_,rfl,rfl⟩_;refine⟨_,K,?_⟩;obtain⟨ab,ad,ae⟩:=OE hp;refine fH (eB ma) (aNz n _) K K K PZ ((awo (v:=((vN x:Nat):Int)) (R:=0) (z:=th) (P:=90) (x:=90) (w:=90) (p:=tk) (Q:=tt) (f:=400) (by rw[h3];omega) (by rw[pv];omega) aa (by rw[pv];exact Tl 400 (vN x) pN G hp.jac) ae ad).lift (gl:=oD) (m:=(oY tg te tk tq tc tt tb ev th xs [⟨.ws .u32 [e0,e1,e2,Q,M,t,a,z,T],109⟩,⟨.ws .u32 [F,H,w,P,L,q,u,C,s],109⟩,⟨.ws .u32 [w0,w1,w2,w3,w4,w5,w6,w7,w8],109⟩,⟨.int x,90⟩,⟨.lit (tV p j),111⟩,⟨.int ((vN x:Nat):Int),90⟩,⟨.lit [.b A,.s N 0 0],90⟩,⟨.int Pv,90⟩])) [13,12,14,2,5] ⟨K,K,K,K,K,K,K,K,K,K,dD⟩ J atv K) K ?_;rintro r m'⟨r0,e,⟨rfl,rfl⟩,_,rfl,rfl⟩_;refine⟨_,K,?_⟩;refine fk (eB ma) (aJr n _) K ?_;show Ev B m8 45 f45.ntmps 7 [] (dO 12 rM []) [(0,.s (E (6,0)) 33 (n+33)),(6,pt 10),(9,pt 13)] (oY tg te tk tq tc tt tb ev th xs [⟨.ws .u32 [e0,e1,e2,Q,M,t,a,z,T],109⟩,⟨.ws .u32 [F,H,w,P,L,q,u,C,s],109⟩,⟨.ws .u32 [w0,w1,w2,w3,w4,w5,w6,w7,w8],109⟩,⟨.int x,90⟩,⟨.lit (tV p j),111⟩,⟨.int ((vN x:Nat):Int),90⟩,⟨.int (om ((vN x:Nat):Int) Ge),90⟩,⟨.int Pv,90⟩]) _;generalize(om ((vN x:Nat):Int) Ge)=R at ab ad ae⊢;refine Ev.eq (t':= .code (.region 12 (opsOf 12 rM) G)::jM 12 rM) I K K ?_;refine tX [6] [0,2,3,4,5,1,6] iZ ni I K K ?_;refine iS [0,2,3,4,5] [1,6] (b:=[(34,.i .u64 (U.u64.wrap (xs.getD 0 0))),(33,.i .u8 (xs.getD 0 0)),(32,.p (E (6,0))),(31,.s (E (6,0)) 33 (n+33)),(29,pt 13),(0,.s (E (6,0)) 33 (n+33)),(6,pt 10),(9,pt 13)]) (p:=[G,D (0<xs.length)]) I (by rw[fG (O:0<xs.length)];rfl) ?_;refine ko (g:=63) (L:=[pt 13]) (d:=E 30) I IF ((ZO (v:=R) (T:=90) ad).lift (gl:=oD) (m:=(oY tg te tk tq tc tt tb ev th xs [⟨.ws .u32 [e0,e1,e2,Q,M,t,a,z,T],109⟩,⟨.ws .u32 [F,H,w,P,L,q,u,C,s],109⟩,⟨.ws .u32 [w0,w1,w2,w3,w4,w5,w6,w7,w8],109⟩,⟨.int x,90⟩,⟨.lit (tV p j),111⟩,⟨.int ((vN x:Nat):Int),90⟩,⟨.int R,90⟩,⟨.int Pv,90⟩])) [13] ⟨K,K,dD⟩ J (λg i h=>by cases h) K) ?_;rintro r m'⟨r0,e,⟨rfl,rfl⟩,_,rfl,rfl⟩_;refine⟨K,(λb hb _=>by rw[tI]at hb;subst hb;rfl),[(30,.i .u64 (R%2)),(34,.i .u64 (U.u64.wrap (xs.getD 0 0))),(33,.i .u8 (xs.getD 0 0)),(32,.p (E (6,0))),(31,.s (E (6,0)) 33 (n+33)),(29,pt 13),(0,.s (E (6,0)) 33 (n+33)),(6,pt 10),(9,pt 13)],K,?_⟩;show kJ B m8 f45.ntmps (opsOf 12 rM).toList [6] _ [6] ([(30,.i .u64 (R%2)),(34,.i .u64 (U.u64.wrap (xs.getD 0 0))),(33,.i .u8 (xs.getD 0 0)),(32,.p (E (6,0))),(31,.s (E (6,0)) 33 (n+33)),(29,pt 13),(0,.s (E (6,0)) 33 (n+33)),(6,pt 10),(9,pt 13)]) (oY tg te tk tq tc tt tb ev th xs [⟨.ws .u32 [e0,e1,e2,Q,M,t,a,z,T],109⟩,⟨.ws .u32 [F,H,w,P,L,q,u,C,s],109⟩,⟨.ws .u32 [w0,w1,w2,w3,w4,w5,w6,w7,w8],109⟩,⟨.int x,90⟩,⟨.lit (tV p j),111⟩,⟨.int ((vN x:Nat):Int),90⟩,⟨.int R,90⟩,⟨.int Pv,90⟩]);refine iS [6] [] (b:=[(35,.b (R%2 !=U.u64.wrap (xs.getD 0 0))),(30,.i .u64 (R%2)),(34,.i .u64 (U.u64.wrap (xs.getD 0 0))),(33,.i .u8 (xs.getD 0 0)),(32,.p (E (6,0))),(31,.s (E (6,0)) 33 (n+33)),(29,pt 13),(0,.s (E (6,0)) 33 (n+33)),(6,pt 10),(9,pt 13)]) (p:=[]) I K ?_;refine kJ.done ?_;have hw:U.u64.wrap (xs.getD 0 0)=(y:Int)%2:=by rw[h0];exact(by show((y:Int)%2)%18446744073709551616=_;omega)
  rw[hw];refine Ev.fq [6,9,35] ?_;show Ev B m8 45 f45.ntmps 7 [] (jM 12 rM) [(6,pt 10),(9,pt 13),(35,.b (R%2 !=(y:Int)%2))] (oY tg te tk tq tc tt tb ev th xs [⟨.ws .u32 [e0,e1,e2,Q,M,t,a,z,T],109⟩,⟨.ws .u32 [F,H,w,P,L,q,u,C,s],109⟩,⟨.ws .u32 [w0,w1,w2,w3,w4,w5,w6,w7,w8],109⟩,⟨.int x,90⟩,⟨.lit (tV p j),111⟩,⟨.int ((vN x:Nat):Int),90⟩,⟨.int R,90⟩,⟨.int Pv,90⟩]) _;rcases ab with er|er
  .subst er;have hb:(((y:Int)%2 !=(y:Int)%2)==A)=G:=Y;refine fk (eB ma) (aFt _ _) (by rw[hb];rfl) ?_;exact MU aa _ _ _ _ _ [⟨.int Pv,90⟩] K
  .have ah:(pN:Nat)%2=1:=J;have hb:((R%2 !=(y:Int)%2)==G)=G:=by rw[nY,kY];omega
   refine fH (eB ma) (aLr _ _) (by rw[hb];rfl) K K xH ((UC (R:=tg) (k:=te) (n:=ev)).lift (gl:=oD) (m:=(oY tg te tk tq tc tt tb ev th xs [⟨.ws .u32 [e0,e1,e2,Q,M,t,a,z,T],109⟩,⟨.ws .u32 [F,H,w,P,L,q,u,C,s],109⟩,⟨.ws .u32 [w0,w1,w2,w3,w4,w5,w6,w7,w8],109⟩,⟨.int x,90⟩,⟨.lit (tV p j),111⟩,⟨.int ((vN x:Nat):Int),90⟩,⟨.int R,90⟩,⟨.int Pv,90⟩])) [0,1] ⟨K,K,K,K,dD⟩ J ZL K) K ?_;rintro r m'⟨r0,e,⟨rfl,rfl⟩,_,rfl,rfl⟩_;refine⟨_,K,?_⟩;refine fH (eB ma) (aFa _) K K K Qr ((awt Pv R 3 90 90 O (by rw[h3];omega) (by rw[pv];omega) (by rw[pv,h4];exact J)).lift (gl:=oD) (m:=(oY tg te tk tq tc tt tb ev th xs [⟨.ws .u32 [e0,e1,e2,Q,M,t,a,z,T],109⟩,⟨.ws .u32 [F,H,w,P,L,q,u,C,s],109⟩,⟨.ws .u32 [w0,w1,w2,w3,w4,w5,w6,w7,w8],109⟩,⟨.int x,90⟩,⟨.lit (tV p j),111⟩,⟨.int ((vN x:Nat):Int),90⟩,⟨.int R,90⟩,⟨.int Pv,90⟩,⟨.int Pv,90⟩])) [13,15] ⟨K,K,K,K,dD⟩ J (λg i h=>by cases h) K) K ?_;rintro r m'⟨r0,e,⟨rfl,rfl⟩,_,rfl,rfl⟩_;refine⟨_,K,?_⟩;refine fk (eB ma) (aOw _) K ?_;have hR:Pv-R=(y:Int):=by rw[pv];omega
   show Ev B m8 45 f45.ntmps 7 [] (dO 14 rM []) [(6,pt 10),(9,pt 13)] (oY tg te tk tq tc tt tb ev th xs [⟨.ws .u32 [e0,e1,e2,Q,M,t,a,z,T],109⟩,⟨.ws .u32 [F,H,w,P,L,q,u,C,s],109⟩,⟨.ws .u32 [w0,w1,w2,w3,w4,w5,w6,w7,w8],109⟩,⟨.int x,90⟩,⟨.lit (tV p j),111⟩,⟨.int ((vN x:Nat):Int),90⟩,⟨.int (Pv-R),90⟩,⟨.int Pv,90⟩,⟨.int Pv,90⟩]) _;rw[hR];exact MU aa _ _ _ _ _ [⟨.int Pv,90⟩,⟨.int Pv,90⟩] K
end
end Go.Proofs.YtiggidfngfkanaaGreatDoor
