/- FnPacked, part 7. No condition. -/
import Derived.Test.YtiggidfngfkanaaGreatDoorW6
namespace Go.Proofs.YtiggidfngfkanaaGreatDoor
open Go Go.Proofs.Tryz
set_option maxRecDepth 100000
set_option maxHeartbeats 4000000
set_option linter.all false
set_option exponentiation.threshold 999
open Bool renaming false->A, true->G
open Decidable renaming decide->D
open Go renaming IntKind->U, TypeId->es, Value->ip
open Go.Proofs.Tryz renaming prog->B
open List renaming drop->kw, replicate->lc, take->jp
open Option renaming none->N, some->E
variable{s:Int}{R:Nat->Option Nat}{F:dE}{P:dI}{y:es}
def nz(x:Int):Nat:=64-bitLen x.toNat
def At(x:Int):Int:=x*2^nz x
abbrev Q5:List (Nat×QF):=[(155,YG),(174,H6)]
def aCu:List Int->V
  |[x]=> .i .u64 (iA (At x))
  |_=> .t []
def H4:List Int->Bool
  |[x]=>D (0<x/\x<18446744073709551616)
  |_=>A
abbrev ace:QF:=yG [.u64] aCu H4
def arn:List Int->V
  |[h,l,y,_]=> .t [.i .u64 ((h*18446744073709551616+l)/y),.i .u64 ((h*18446744073709551616+l)%y)]
  |_=> .t []
def DL:List Int->Bool
  |[h,l,y,r]=>D (0<=h/\h<y/\gn l/\y<18446744073709551616/\r=iA (At y))
  |_=>A
abbrev Vt:QF:=yG [.u64,.u64,.u64,.u64] arn DL
abbrev Q6:List (Nat×QF):=[(155,YG),(188,JY),(128,afu),(130,aec)]
theorem auw(R:Nat->Option Nat):gf R Q5:=⟨⟨ga f155,Gw R⟩,⟨ga f174,M9 R⟩,dD⟩
theorem Af(R:Nat->Option Nat):gf R Q6:=⟨⟨ga f155,Gw R⟩,⟨ga f188,LY R⟩,⟨ga f128,NF R⟩,⟨ga f130,LJ R⟩,dD⟩
theorem S7{x:Nat}(h0:0<x)(h1:x<18446744073709551616):letI a:=nz (x:Int);a<64/\bitLen x+a=64/\2^63<=x*2^a/\x*2^a<2^64:=by
  have H:bitLen x<=64:=pL x 64 h1;have f:bitLen x=x.log2+1:=by unfold bitLen;rw[if_neg O]
  have a:2^x.log2<=x:=Nat.log2_self_le O;have b:x<2^(x.log2+1):=Nat.lt_log2_self;unfold nz;rw[dU,f];refine⟨O,O,?_,?_⟩
  .calc 2^63=2^x.log2*2^(64-(x.log2+1)):=by rw[<-nu];congr 1;omega
     _<=_:=Gm _ a
  .calc x*2^(64-(x.log2+1))<2^(x.log2+1)*2^(64-(x.log2+1)):=JD b (zk _)
     _=2^64:=by rw[<-nu];congr 1;omega
theorem aek(R:Nat->Option Nat)(x:Int)(m:dE):letI e:=(↑(bitLen x.toNat):Int);letI a:Int:=U.u64.wrap (x*2^min (64-e).toNat 64);letI c:Int:=18446744073709551615;letI b:Int:=eA BinOp.xor .u64 c a;letI d:Int:=(18446744073709551616:Int);(qW (ep R [] Q5) f175.ntmps N 100 (dB f175) f175.results.toList [.i .u64 x] m [])=(E (.i .u64 ((b*d+c)/a),(m,[D (a<d/\0<=b/\b<a/\gn c/\(9223372036854775808<=a∨b=0)),D ((0:Int)<=64-e),lk [x]]))):=I
theorem Vu(x:Nat)(h:x<18446744073709551616):eA .xor .u64 18446744073709551615 (x:Int)=18446744073709551615-(x:Int):=by have T:(BitVec.ofInt 64 18446744073709551615)=BitVec.allOnes 64:=J;have f:(BitVec.ofInt 64 (x:Int)).toNat=x:=jG 64 x h;show U.u64.wrap (((BitVec.ofInt 64 18446744073709551615^^^BitVec.ofInt 64 (x:Int)).toNat:Nat):Int)=_;rw[T,BitVec.allOnes_xor,BitVec.toNat_not,f,kq];omega
theorem Y4{x:Nat}(h0:0<x)(h1:x<18446744073709551616):(64:Int)-((bitLen (x:Int).toNat:Nat):Int)=((nz (x:Int):Nat):Int):=by obtain⟨a,b,_,_⟩:=S7 h0 h1;rw[dU];omega
theorem wuP{a s:Nat}(h:a*2^s<18446744073709551616):U.u64.wrap ((a:Int)*2^s)=((a*2^s:Nat):Int):=by rw[<-Pe h];simp
theorem Mv(R:Nat->Option Nat):oR B R 175 ace:=by
  refine mJ (L:=[]) (q:=Q5) dD (auw R) (fn:=f175) (c:=dB f175) I I 100 ?_;intro l m f h
  match l,f with
  |[x],_=>
   have j:0<x/\x<18446744073709551616:=by simpa[H4]using h
   obtain⟨x,rfl⟩:=fy (O:0<=x);have h0:0<x:=O;have h1:x<18446744073709551616:=O;obtain⟨a,b,c,d⟩:=S7 h0 h1;have e:=aek R (x:Int) m;rw[Y4 h0 h1,dU,qk (O:nz (x:Int)<=64),wuP d,Vu _ d]at e;have y:iA (At (x:Int))=iA (((x*2^nz (x:Int):Nat)):Int):=by unfold At;simp
   have H:((18446744073709551615-(((x*2^nz (x:Int):Nat)):Int))*18446744073709551616+18446744073709551615)/(((x*2^nz (x:Int):Nat)):Int)=iA (At (x:Int)):=y.symm;rw[H]at e;refine⟨[],_,e,?_⟩
   .generalize k:x*2^nz (x:Int)=n at*;simp only[dK,dJ,eu,ew,Nat.reduceAdd,Nat.reduceLT,lk];have i:gn (x:Int):=⟨O,O⟩
    have g:gn (18446744073709551615:Int):=⟨O,O⟩
    simp only[i,g,fV,im];omega
theorem Qe(R:Nat->Option Nat)(h l y r:Int)(m:dE):letI a:Int:=18446744073709551616;letI e:Int:=(r*h%a+l+0)/a;letI b:=(r*h/a+h+e)%a;letI c:Int:=64-(↑(bitLen y.toNat):Int);letI j:=(a:Int);letI d:=y*(b)%j;letI f:Int:=U.u64.wrap ((l-d-0)%a-y);letI g:Int:=if l<d+0 then 1 else 0;(gi f176.results.toList (et (ep R [] Q6) f176.ntmps N 200 [.code (dB f176)] ⟨fo 0 [.i .u64 h,.i .u64 l,.i .u64 y,.i .u64 r],m,[A,G,G],[]⟩))=(G,E (.t [.i .u64 (U.u64.wrap (U.u64.wrap ((r*h/a+h+e)%j+1)+1)),.i .u64 ((U.u64.wrap (f-y)).fdiv (2^min c.toNat 64))]),m,[D ((0:Int)<=c),D (f≥y)==G,((h-y*(b)/a-g)%j !=0)==G,qB [h,y*(b)/a,g],qB [l,y*(b)%a,0],m6 [y,b],kI [r*h/a,h,e],kI [r*h%a,l,0],m6 [r,h],(c !=0)==A,lk [y]]):=I
abbrev wI(R:Nat->Option Nat)(h l y r:Int)(m:dE)(w S:Bool)(u:Int):Prop:=letI a:Int:=18446744073709551616;letI e:Int:=(r*h%a+l+0)/a;letI b:=(r*h/a+h+e)%a;letI c:Int:=64-(↑(bitLen y.toNat):Int);letI g:=y*(b);letI f:=(a:Int);letI d:Int:=if l<g%f+0 then 1 else 0;(gi f176.results.toList (et (ep R [] Q6) f176.ntmps N 200 [.code (dB f176)] ⟨fo 0 [.i .u64 h,.i .u64 l,.i .u64 y,.i .u64 r],m,[A,w,S],[]⟩))=(G,E (.t [.i .u64 (U.u64.wrap ((r*h/a+h+e)%f+1)),.i .u64 ((U.u64.wrap ((l-g%f-0)%a-y)).fdiv (2^min c.toNat 64))]),m,[D ((0:Int)<=c),D (u≥y)==S,((h-g/a-d)%f !=0)==w,qB [h,g/a,d],qB [l,g%a,0],m6 [y,b],kI [r*h/a,h,e],kI [r*h%a,l,0],m6 [r,h],(c !=0)==A,lk [y]])
theorem T4(R:Nat->Option Nat)(h l y r:Int)(m:dE):letI a:Int:=18446744073709551616;wI R h l y r m G A (U.u64.wrap ((l-y*((r*h/a+h+(r*h%a+l+0)/a)%a)%(a:Int)-0)%a-y)):=dR
theorem RL(R:Nat->Option Nat)(h l y r:Int)(m:dE):letI a:Int:=18446744073709551616;wI R h l y r m A G ((l-y*((r*h/a+h+(r*h%a+l+0)/a)%a)%(a:Int)-0)%a):=dR
theorem Sz(R:Nat->Option Nat)(h l y r:Int)(m:dE):letI a:Int:=18446744073709551616;letI f:=r*h%a;letI b:Int:=(r*h/a+h+(f+l+0)/a)%a;letI c:Int:=64-(↑(bitLen y.toNat):Int);letI d:=y*(b)%(a:Int);letI e:Int:=if l<d+0 then 1 else 0;(gi f176.results.toList (et (ep R [] Q6) f176.ntmps N 200 [.code (dB f176)] ⟨fo 0 [.i .u64 h,.i .u64 l,.i .u64 y,.i .u64 r],m,[A,A,A],[]⟩))=(G,E (.t [.i .u64 b,.i .u64 (((l-d-0)%a).fdiv (2^min c.toNat 64))]),m,[D ((0:Int)<=c),D ((l-d-0)%a≥y)==A,((h-y*(b)/a-e)%(a:Int)!=0)==A,qB [h,y*(b)/a,e],qB [l,y*(b)%a,0],m6 [y,b],kI [r*h/a,h,(f+l+0)/a],kI [f,l,0],m6 [r,h],(c !=0)==A,lk [y]]):=I
theorem Sn(R:Nat->Option Nat)(h l y r:Int)(m:dE):letI e:Int:=64-(↑(bitLen y.toNat):Int);letI c:Int:=2^min e.toNat 64;letI q:Int:=U.u64.wrap (64-(e));letI a:Int:=eA BinOp.or .u64 (U.u64.wrap (h*c)) (l.fdiv (2^min q.toNat 64));letI g:=U.u64.wrap (y*c);letI d:Int:=18446744073709551616;letI s:=r*a%d;letI f:=U.u64.wrap (l*c);letI j:Int:=r*a/d+a+(s+f+0)/d;letI b:=g*((j)%d);letI k:Bool:=D ((0:Int)<=e);letI n:=(d:Int);letI o:Int:=U.u64.wrap ((f-b%n-0)%d-g);letI p:Int:=if f<b%n+0 then 1 else 0;(gi f176.results.toList (et (ep R [] Q6) f176.ntmps N 200 [.code (dB f176)] ⟨fo 0 [.i .u64 h,.i .u64 l,.i .u64 y,.i .u64 r],m,[G,G,G],[]⟩))=(G,E (.t [.i .u64 (U.u64.wrap (U.u64.wrap ((j)%n+1)+1)),.i .u64 ((U.u64.wrap (o-g)).fdiv c)]),m,[k,D (o≥g)==G,((a-b/d-p)%n !=0)==G,qB [a,b/d,p],qB [f,b%d,0],m6 [g,(j)%d],kI [r*a/d,a,(s+f+0)/d],kI [s,f,0],m6 [r,a],k,k,D (0<=q),k,(e !=0)==G,lk [y]]):=I
theorem T8(R:Nat->Option Nat)(h l y r:Int)(m:dE):letI e:Int:=64-(↑(bitLen y.toNat):Int);letI c:Int:=2^min e.toNat 64;letI q:Int:=U.u64.wrap (64-(e));letI a:Int:=eA BinOp.or .u64 (U.u64.wrap (h*c)) (l.fdiv (2^min q.toNat 64));letI g:=U.u64.wrap (y*c);letI d:Int:=18446744073709551616;letI s:=r*a%d;letI f:=U.u64.wrap (l*c);letI j:Int:=r*a/d+a+(s+f+0)/d;letI b:=g*((j)%d);letI k:Bool:=D ((0:Int)<=e);letI n:=(d:Int);letI o:Int:=U.u64.wrap ((f-b%n-0)%d-g);letI p:Int:=if f<b%n+0 then 1 else 0;(gi f176.results.toList (et (ep R [] Q6) f176.ntmps N 200 [.code (dB f176)] ⟨fo 0 [.i .u64 h,.i .u64 l,.i .u64 y,.i .u64 r],m,[G,G,A],[]⟩))=(G,E (.t [.i .u64 (U.u64.wrap ((j)%n+1)),.i .u64 (o.fdiv c)]),m,[k,D (o≥g)==A,((a-b/d-p)%n !=0)==G,qB [a,b/d,p],qB [f,b%d,0],m6 [g,(j)%d],kI [r*a/d,a,(s+f+0)/d],kI [s,f,0],m6 [r,a],k,k,D (0<=q),k,(e !=0)==G,lk [y]]):=I
theorem Qc(R:Nat->Option Nat)(h l y r:Int)(m:dE):letI e:Int:=64-(↑(bitLen y.toNat):Int);letI c:Int:=2^min e.toNat 64;letI p:Int:=U.u64.wrap (64-(e));letI a:Int:=eA BinOp.or .u64 (U.u64.wrap (h*c)) (l.fdiv (2^min p.toNat 64));letI g:=U.u64.wrap (y*c);letI d:Int:=18446744073709551616;letI q:=r*a%d;letI f:=U.u64.wrap (l*c);letI j:Int:=r*a/d+a+(q+f+0)/d;letI b:=g*((j)%d);letI k:Bool:=D ((0:Int)<=e);letI n:=(d:Int);letI o:Int:=if f<b%n+0 then 1 else 0;(gi f176.results.toList (et (ep R [] Q6) f176.ntmps N 200 [.code (dB f176)] ⟨fo 0 [.i .u64 h,.i .u64 l,.i .u64 y,.i .u64 r],m,[G,A,G],[]⟩))=(G,E (.t [.i .u64 (U.u64.wrap ((j)%n+1)),.i .u64 ((U.u64.wrap ((f-b%n-0)%d-g)).fdiv c)]),m,[k,D ((f-b%n-0)%d≥g)==G,((a-b/d-o)%n !=0)==A,qB [a,b/d,o],qB [f,b%d,0],m6 [g,(j)%d],kI [r*a/d,a,(q+f+0)/d],kI [q,f,0],m6 [r,a],k,k,D (0<=p),k,(e !=0)==G,lk [y]]):=I
theorem Qf(R:Nat->Option Nat)(h l y r:Int)(m:dE):letI e:Int:=64-(↑(bitLen y.toNat):Int);letI c:Int:=2^min e.toNat 64;letI o:Int:=U.u64.wrap (64-(e));letI b:Int:=eA BinOp.or .u64 (U.u64.wrap (h*c)) (l.fdiv (2^min o.toNat 64));letI d:Int:=18446744073709551616;letI p:=r*b%d;letI g:=U.u64.wrap (l*c);letI a:Int:=(r*b/d+b+(p+g+0)/d)%d;letI f:=U.u64.wrap (y*c);letI j:=f*(a)%(d:Int);letI k:Bool:=D ((0:Int)<=e);letI n:Int:=if g<j+0 then 1 else 0;(gi f176.results.toList (et (ep R [] Q6) f176.ntmps N 200 [.code (dB f176)] ⟨fo 0 [.i .u64 h,.i .u64 l,.i .u64 y,.i .u64 r],m,[G,A,A],[]⟩))=(G,E (.t [.i .u64 a,.i .u64 (((g-j-0)%d).fdiv c)]),m,[k,D ((g-j-0)%d≥f)==A,((b-f*(a)/d-n)%(d:Int)!=0)==A,qB [b,f*(a)/d,n],qB [g,f*(a)%d,0],m6 [f,a],kI [r*b/d,b,(p+g+0)/d],kI [p,g,0],m6 [r,b],k,k,D (0<=o),k,(e !=0)==G,lk [y]]):=I
section
variable{Dv X1 X0:Int}(hd:9223372036854775808<=Dv)(hd':Dv<18446744073709551616)(h1:0<=X1)(h1':X1<Dv)(h0:gn X0)
include hd hd' h1 h1' h0
theorem aMk:letI a:Int:=18446744073709551616;(iA Dv*X1/a+X1+(iA Dv*X1%a+X0+0)/a)%a=oI Dv X1 X0:=by obtain⟨g0,n,C,F⟩:=yn hd hd' h1 h1' h0;unfold oI at*;generalize iA Dv*X1=P at*;omega
theorem asi:letI a:Int:=18446744073709551616;letI b:=Dv*oI Dv X1 X0;(X0-b%a-0)%a=(X1*a+X0-b)%a:=by generalize Dv*oI Dv X1 X0=P;omega
theorem atd:letI a:Int:=18446744073709551616;letI b:=Dv*oI Dv X1 X0;(X1-b/a-if X0<b%a+0 then 1 else 0)%a=(X1*a+X0-b)/a:=by obtain⟨g0,n,C,c⟩:=yn hd hd' h1 h1' h0;have q:=h0.1;have F:=h0.2;generalize Dv*oI Dv X1 X0=P at*;split<;>omega
theorem akx:letI a:Int:=18446744073709551616;letI b:=oI Dv X1 X0;letI c:=iA Dv*X1;m6 [iA Dv,X1]=G/\kI [c%a,X0,0]=G/\kI [c/a,X1,(c%a+X0+0)/a]=G/\
    m6 [Dv,b]=G/\qB [X0,Dv*b%a,0]=G/\
    qB [X1,Dv*b/a,if X0<Dv*b%a+0 then 1 else 0]=G:=by
  obtain⟨g0,n,C,e⟩:=yn hd hd' h1 h1' h0;obtain⟨l,q,M,r⟩:=Nk hd hd';have f:=h0.1;have F:=h0.2;have o:0<=iA Dv*X1:=jL l h1;have d:0<=Dv*oI Dv X1 X0:=jL O g0;have y:gn (iA Dv):=⟨l,q⟩
  have i:gn X1:=⟨h1,O⟩
  have h:gn Dv:=⟨O,hd'⟩
  have w:gn (oI Dv X1 X0):=⟨g0,n⟩
  simp only[m6,kI,qB,eG,y,i,h,w,and_self,fV];generalize iA Dv*X1=P at*;generalize Dv*oI Dv X1 X0=R at*;refine⟨O,O,O,?_⟩;split<;>omega
theorem ahz{q r:Int}(y:0<=r)(H:r<Dv):letI a:Int:=X1*18446744073709551616+X0;∀(j:a=Dv*q+r),q=a/Dv/\r=(a)%Dv:=by intro j;have:=Int.ediv_emod_unique (a:=X1*18446744073709551616+X0) (b:=Dv) (q:=q) (r:=r) O;obtain⟨a,b⟩:=this.2 ⟨O,y,H⟩;exact⟨a.symm,b.symm⟩
end
theorem aca(b:Nat->Option Nat)(m:dE)(h l y:Nat)(hh:h<y):letI a:Nat:=18446744073709551616;∀(hl:l<a)(hy:y<a),eM B b 176 [.i .u64 (h:Int),.i .u64 (l:Int),.i .u64 (y:Int),.i .u64 (iA (At (y:Int)))] m
      (λr' m'=>r'= .t [.i .u64 (((h*a+l)/y:Nat):Int),.i .u64 (((h*a+l)%y:Nat):Int)]/\m'=m):=by
  intro hl hy;refine dL (ep b [] Q6) f176 ?_;obtain⟨n1,n2,n3,n4⟩:=S7 (x:=y) O hy;have v:=Y4 (x:=y) O hy;generalize ag:nz (y:Int)=s at*;have p:At (y:Int)=((y*2^s:Nat):Int):=by unfold At;rw[ag];simp
  have aj:min s 64=s:=O;have ac: ∀(a k:Nat),(a:Int).fdiv (2^k)=((a/2^k:Nat):Int):=λa k=>by rw[kB _ (gA (xm O))];simp
  have hp:=zk s;generalize hN:(h*18446744073709551616+l)*2^s=o
  have ak:o<y*2^s*18446744073709551616:=by
    rw[<-hN]
    calc(h*18446744073709551616+l)*2^s<(y*18446744073709551616)*2^s:=JD O hp
      _=_:=by ac_rfl
  have ap:o/18446744073709551616<y*2^s:=by rw[Cy O];exact ak
  have aq:o%18446744073709551616<18446744073709551616:=iD _ O;have ad:o/(y*2^s)=(h*18446744073709551616+l)/y:=by rw[<-hN,Rc _ _ hp]
  have aa:o%(y*2^s)/2^s=(h*18446744073709551616+l)%y:=by rw[<-hN,Q7,Nat.mul_div_cancel _ hp]
  generalize al:y*2^s=Dv at*;have hD:(9223372036854775808:Int)<=(Dv:Int):=O;have F:(Dv:Int)<18446744073709551616:=O;have i1:(0:Int)<=((o/18446744073709551616:Nat):Int):=O;have i2:((o/18446744073709551616:Nat):Int)<(Dv:Int):=O;have i3:gn ((o%18446744073709551616:Nat):Int):=⟨O,O⟩
  have af:((o/18446744073709551616:Nat):Int)*18446744073709551616+((o%18446744073709551616:Nat):Int)=(o:Int):=O;obtain⟨b1,M,z,b4,u,f⟩:=akx hD F i1 i2 i3;have S:=aMk hD F i1 i2 i3;have j:=asi hD F i1 i2 i3;have e:=atd hD F i1 i2 i3;obtain⟨g0,g1,g2,g3⟩:=yn hD F i1 i2 i3;have wd:=λq r=>ahz (q:=q) (r:=r) hD F i1 i2 i3
  rw[af]at j e g2 g3;simp only[af]at wd;generalize C:((o/18446744073709551616:Nat):Int)=X1 at*;generalize T:((o%18446744073709551616:Nat):Int)=X0 at*;generalize ao:oI (Dv:Int) X1 X0=g at*;have c:lk [(y:Int)]=G:=by simp only[lk,eG];exact⟨O,O⟩
  have fin: ∀(q r:Int),0<=r->r<(Dv:Int)->(o:Int)=(Dv:Int)*q+r->V.t [.i .u64 q,.i .u64 (r.fdiv (2^s))]= .t [.i .u64 (((h*18446744073709551616+l)/y:Nat):Int),.i .u64 (((h*18446744073709551616+l)%y:Nat):Int)]:=λq r r0 r1 he=>by obtain⟨rfl,rfl⟩:=wd q r r0 r1 he;rw[<-ad,<-aa,<-ac];simp
  have ae:(Dv:Int)*(g+1)=(Dv:Int)*g+Dv:=by rw[fh,jU]
  have an:(Dv:Int)*(g+1+1)=(Dv:Int)*g+Dv+Dv:=by rw[fh,ae,jU]
  have ar:(o:Int)<(Dv:Int)*18446744073709551616:=O
  have H: ∀t:Int,(Dv:Int)*t<=o->t<18446744073709551616:=λt ht=>by
    rcases k9 t 18446744073709551616 with h|h
    .exact h
    .have:=gF h (O:(0:Int)<=Dv);omega
  generalize L:(Dv:Int)*g=R at*;by_cases hz:s=0
  .subst hz;have e1:(h:Int)=X1:=by rw[<-C,<-hN];omega
   have e2:(l:Int)=X0:=by rw[<-T,<-hN];omega
   have e3:(y:Int)=(Dv:Int):=O;have w:(64:Int)-((bitLen (Dv:Int).toNat:Nat):Int)=0:=by rw[<-e3,v];rfl
   have i:=w;rw[dU]at i;rw[e3]at c;rw[p,e1,e2,e3];by_cases c1:(18446744073709551616:Int)<=o-R
   .have x1:=H (g+1) O;by_cases c2:(Dv:Int)<=o-R-Dv
    .have x2:=H (g+1+1) O;refine Ev.done (gK dD (Af b)) (Qe b X1 X0 Dv (iA Dv) m) ?_ ⟨?_,K⟩
     .skip
      simp only[S,L,j,e,w,i,b1,M,z,b4,u,f,c,kq,dK,dJ,eu,ew,Nat.reduceAdd,Nat.reduceLT];omega
     .skip
      simp only[S,L,j,e,w,kq];rw[(O:((g+1)%18446744073709551616+1)%18446744073709551616=g+1+1),(O:(((o-R)%18446744073709551616-(Dv:Int))%18446744073709551616-(Dv:Int))%18446744073709551616=o-R-Dv-Dv)]
      first|exact fin _ _ O O O|(rw[n];exact fin _ _ O O O)
    .refine Ev.done (gK dD (Af b)) (T4 b X1 X0 Dv (iA Dv) m) ?_ ⟨?_,K⟩
     .skip
      simp only[S,L,j,e,w,i,b1,M,z,b4,u,f,c,kq,dK,dJ,eu,ew,Nat.reduceAdd,Nat.reduceLT];omega
     .skip
      simp only[S,L,j,e,w,kq];rw[(O:(g+1)%18446744073709551616=g+1),(O:((o-R)%18446744073709551616-(Dv:Int))%18446744073709551616=o-R-Dv)]
      first|exact fin _ _ O O O|(rw[n];exact fin _ _ O O O)
   .by_cases c2:(Dv:Int)<=o-R
    .have x1:=H (g+1) O;refine Ev.done (gK dD (Af b)) (RL b X1 X0 Dv (iA Dv) m) ?_ ⟨?_,K⟩
     .skip
      simp only[S,L,j,e,w,i,b1,M,z,b4,u,f,c,kq,dK,dJ,eu,ew,Nat.reduceAdd,Nat.reduceLT];omega
     .skip
      simp only[S,L,j,e,w,kq];rw[(O:(g+1)%18446744073709551616=g+1),(O:((o-R)%18446744073709551616-(Dv:Int))%18446744073709551616=o-R-Dv)]
      first|exact fin _ _ O O O|(rw[n];exact fin _ _ O O O)
    .refine Ev.done (gK dD (Af b)) (Sz b X1 X0 Dv (iA Dv) m) ?_ ⟨?_,K⟩
     .skip
      simp only[S,L,j,e,w,i,b1,M,z,b4,u,f,c,kq,dK,dJ,eu,ew,Nat.reduceAdd,Nat.reduceLT];omega
     .skip
      simp only[S,L,j,e,w,kq];rw[(O:(o-R)%18446744073709551616=o-R)]
      first|exact fin _ _ O O O|(rw[n];exact fin _ _ O O O)
  .have ah:0<s:=O;have Q:min ((s:Int)).toNat 64=s:=by rw[dU];exact aj
   have n:=Q;have w:=v;have i:=v;rw[dU]at i;have d:U.u64.wrap (64-(s:Int))=((64-s:Nat):Int):=by rw[mP O];omega
   have P:min (((64-s:Nat):Int)).toNat 64=64-s:=by rw[dU];omega
   have am:18446744073709551616=2^(64-s)*2^s:=by rw[<-nu,(O:64-s+s=64)]
   have ab:h*2^s<18446744073709551616:=by have:=JD hh hp;omega
   have hq:l*2^s/18446744073709551616=l/2^(64-s):=by rw[am,Rc _ _ hp]
   have Eh:eA .or .u64 (U.u64.wrap ((h:Int)*2^s)) ((l:Int).fdiv (2^(64-s)))=X1:=by have:=H2 s ah O h l hl;rw[ac,wuP ab];rw[show h*2^s%2^64=h*2^s from uG ab]at this;rw[this,<-C,<-hN,ot,show h*18446744073709551616*2^s=18446744073709551616*(h*2^s)by ac_rfl,K9 O];rw[hq]
   have El:U.u64.wrap ((l:Int)*2^s)=X0:=by rw[kq,<-T,<-hN,ot,show h*18446744073709551616*2^s=18446744073709551616*(h*2^s)by ac_rfl,Nat.mul_add_mod];simp
   have Ey:U.u64.wrap ((y:Int)*2^s)=(Dv:Int):=by rw[wuP O,al]
   rw[p];by_cases c1:(18446744073709551616:Int)<=o-R
   .have x1:=H (g+1) O;by_cases c2:(Dv:Int)<=o-R-Dv
    .have x2:=H (g+1+1) O;refine Ev.done (gK dD (Af b)) (Sn b h l y (iA Dv) m) ?_ ⟨?_,K⟩
     .simp only[v,Q,d,P,Eh,El,Ey];simp only[S,L,j,e,w,i,b1,M,z,b4,u,f,c,kq,dK,dJ,eu,ew,Nat.reduceAdd,Nat.reduceLT];omega
     .simp only[v,Q,d,P,Eh,El,Ey];simp only[S,L,j,e,w,kq];rw[(O:((g+1)%18446744073709551616+1)%18446744073709551616=g+1+1),(O:(((o-R)%18446744073709551616-(Dv:Int))%18446744073709551616-(Dv:Int))%18446744073709551616=o-R-Dv-Dv)]
      first|exact fin _ _ O O O|(rw[n];exact fin _ _ O O O)
    .refine Ev.done (gK dD (Af b)) (T8 b h l y (iA Dv) m) ?_ ⟨?_,K⟩
     .simp only[v,Q,d,P,Eh,El,Ey];simp only[S,L,j,e,w,i,b1,M,z,b4,u,f,c,kq,dK,dJ,eu,ew,Nat.reduceAdd,Nat.reduceLT];omega
     .simp only[v,Q,d,P,Eh,El,Ey];simp only[S,L,j,e,w,kq];rw[(O:(g+1)%18446744073709551616=g+1),(O:((o-R)%18446744073709551616-(Dv:Int))%18446744073709551616=o-R-Dv)]
      first|exact fin _ _ O O O|(rw[n];exact fin _ _ O O O)
   .by_cases c2:(Dv:Int)<=o-R
    .have x1:=H (g+1) O;refine Ev.done (gK dD (Af b)) (Qc b h l y (iA Dv) m) ?_ ⟨?_,K⟩
     .simp only[v,Q,d,P,Eh,El,Ey];simp only[S,L,j,e,w,i,b1,M,z,b4,u,f,c,kq,dK,dJ,eu,ew,Nat.reduceAdd,Nat.reduceLT];omega
     .simp only[v,Q,d,P,Eh,El,Ey];simp only[S,L,j,e,w,kq];rw[(O:(g+1)%18446744073709551616=g+1),(O:((o-R)%18446744073709551616-(Dv:Int))%18446744073709551616=o-R-Dv)]
      first|exact fin _ _ O O O|(rw[n];exact fin _ _ O O O)
    .refine Ev.done (gK dD (Af b)) (Qf b h l y (iA Dv) m) ?_ ⟨?_,K⟩
     .simp only[v,Q,d,P,Eh,El,Ey];simp only[S,L,j,e,w,i,b1,M,z,b4,u,f,c,kq,dK,dJ,eu,ew,Nat.reduceAdd,Nat.reduceLT];omega
     .simp only[v,Q,d,P,Eh,El,Ey];simp only[S,L,j,e,w,kq];rw[(O:(o-R)%18446744073709551616=o-R)]
      first|exact fin _ _ O O O|(rw[n];exact fin _ _ O O O)
theorem Hd(R:Nat->Option Nat):oR B R 176 Vt:=by
  refine gD λargs m r T=>?_
  unfold Vt yG at T;split at T
  .rename_i l p;simp only[eJ,ef]at T;obtain⟨rfl,F⟩:=T;obtain⟨rfl,S⟩:=Bm p
   match l,S with
   |[h,l,y,r],_=>
    simp only[DL,eG]at F;obtain⟨h0,h1,f,Q,rfl⟩:=F;obtain⟨h,rfl⟩:=fy h0;obtain⟨l,rfl⟩:=fy f.1;obtain⟨y,rfl⟩:=fy (O:0<=y);have:=aca R m h l y O (by have:=f.2;omega) O;refine this.mono λr u z=>⟨?_,z.2⟩
    rw[z.1];simp only[arn];simp
  .cases T
def grR(f s:Nat):Go.Shelf.Ren:=⟨λ|4=>f|n=>n,λ|22=>s|25=>137|n=>n,λn=>n⟩
def grL{f s:Nat}(h:Bears B f (Body8.n4 (grR f s)))(M:B.underlying s=E (TypeDesc.slice 137))(S: ∀w,(isAgg s).run B w= .ok A w)
    (l: ∀w,(Go.sizeOf s).run B w= .ok 1 w)(u: ∀w,(zeroValue s).run B w= .ok (ip.slice N 0 0) w):Lays8.n4 B (grR f s):=
  ⟨I,h,Tryz.underlying0,Tryz.isAgg0,Tryz.sizeOf0,Tryz.zeroValue0,Tryz.underlying3,Tryz.isAgg3,Tryz.sizeOf3,Tryz.zeroValue3,Tryz.underlying4,Tryz.isAgg4,Tryz.sizeOf4,Tryz.zeroValue4,
    Tryz.underlying9,Tryz.isAgg9,Tryz.sizeOf9,Tryz.zeroValue9,Tryz.underlying20,Tryz.isAgg20,Tryz.sizeOf20,Tryz.zeroValue20,M,S,l,u⟩
def anl:Lays8.n4 B (grR 198 87):=grL ⟨f198.name,J,Tryz.func198.trans (kC E I)⟩ Tryz.underlying87 Tryz.isAgg87 Tryz.sizeOf87 Tryz.zeroValue87
def alr:Lays8.n4 B (grR 180 88):=grL ⟨f180.name,J,Tryz.func180.trans (kC E I)⟩ Tryz.underlying88 Tryz.isAgg88 Tryz.sizeOf88 Tryz.zeroValue88
def YS(n:Nat):Builtin.zeroCells #[ip.int .u64 0] n=((lc n (0:Int)).map (ip.int .u64)).toArray:=by
  unfold Builtin.zeroCells;apply Array.ext
  .simp
  .intro i M S;simp[Nat.mod_one]
def Ht{f:Nat}{j:Go.Shelf.Ren}(L:Lays8.n4 B j)(C:TypeInfo)(t:j.f 4=f)(k:j.t 25=137)(g:B.info? 137=E C)(o:C.zero=E (.int .u64 0))(v:C.size=1)(H:C.bytes=8)
    (R:Nat->Option Nat)(m:dE)(n:Nat)(Q:0<n)(x:n<=1048576):
    eM B R f [.s N 0 0,.i .i64 (n:Int)] m (λr u=> ∃T,n<=T/\r= .s (E (m.length,0)) 0 T/\u=m++[⟨.ws .u64 (lc T 0),137⟩]):=by
  intro q w y _;have b:=Any8.slices_Grow_grow L C (.int .u64 0) (by rw[k];exact g) o O N 0 0 n [] w O O (by rw[H];omega) O Y (λ_=>rfl) (λa h=>by cases h);rw[t]at b;refine b.mono ?_;rintro en S⟨rfl,rfl⟩;have P:=grownCap_ge w (0+n) 0 (j.t 25);generalize d:grownCap w (0+n) 0 (j.t 25)=T at*;have i:jA q m w.drew:=y.draw _;have p:qE q m w q m w.drew:=qE.draw y _;have F:=i.push ⟨.ws .u64 (lc T 0),137⟩ K
  have c:Obj.cells ((#[]:Array ip)++Builtin.zeroCells #[ip.int .u64 0] (0+n-0)++Builtin.zeroCells #[ip.int .u64 0] (T-(0+n))) (j.t 25) (0,0)=dI.obj q ⟨.ws .u64 (lc T 0),137⟩:=by
    rw[YS,YS,k];unfold dI.obj;rw[lX];simp only[eH.list,Ro]
    congr 1
    have e: ∀l:List Int,l.map (V.ee q∘V.i .u64)=l.map (ip.int .u64):=λl=>JW λ_ _=>rfl
    rw[e];apply sa.1;simp only[Array.toList_append,List.map_replicate,sP];rw[Re]
    congr 1
    omega
  have s:q m.length=w.heap.size:=by simpa using y.next 0
  have z:=p.trans F;refine⟨q,.s (E (m.length,0)) 0 T,m++[⟨.ws .u64 (lc T 0),137⟩],?_,?_,T,O,K,K⟩
  .have e:w.drew.alloc (Obj.cells ((#[]:Array ip)++Builtin.zeroCells #[ip.int .u64 0] (0+n-0)++Builtin.zeroCells #[ip.int .u64 0] (T-(0+n))) (j.t 25) (0,0))={w.drew with heap:=w.drew.heap.push (dI.obj q ⟨.ws .u64 (lc T 0),137⟩)}:=by rw[c];rfl
   have M:qE q m w q (m++[⟨.ws .u64 (lc T 0),137⟩]) (w.drew.alloc (Obj.cells ((#[]:Array ip)++Builtin.zeroCells #[ip.int .u64 0] (0+n-0)++Builtin.zeroCells #[ip.int .u64 0] (T-(0+n))) (j.t 25) (0,0))):=by rw[e];exact z
   exact⟨M.ln,M.len,M.new,M.rel,M.iY⟩
  .simp [V.ee,pI,s]
def Ug(R:Nat->Option Nat)(m:dE)(n:Nat)(C:0<n)(x:n<=1048576):
    eM B R 198 [.s N 0 0,.i .i64 (n:Int)] m (λr u=> ∃T,n<=T/\r= .s (E (m.length,0)) 0 T/\u=m++[⟨.ws .u64 (lc T 0),137⟩]):=
  Ht anl _ K K (by rfl) (by rfl) K K R m n C x
def RY(R:Nat->Option Nat)(m:dE)(n:Nat)(C:0<n)(x:n<=1048576):
    eM B R 180 [.s N 0 0,.i .i64 (n:Int)] m (λr u=> ∃T,n<=T/\r= .s (E (m.length,0)) 0 T/\u=m++[⟨.ws .u64 (lc T 0),137⟩]):=
  Ht alr _ K K (by rfl) (by rfl) K K R m n C x
noncomputable abbrev avj(R:Nat->Option Nat)(q o:List Bool):List (Nat×jB):=(117,inl R (LS R q) LQ f117 o)::LS R q
def Xf(R:Nat->Option Nat)(q o:List Bool):fl R (avj R q o):=yF (apx R q) 117 f117 o I I I
def abc(n:Bool)(p:List Int)(T:Nat)(P t ty:es):(gi f90.results.toList (et (ep (λ_=>N) (avj (λ_=>N) [A,A] [A,A,A]) LQ) f90.ntmps N 200 [.code (dB f90)] ⟨fo 0 [.p (E (0,0)),.p (E (1,0)),.i .u64 257],[⟨.lit [.b A,.s N 0 0],P⟩,⟨.lit [.b n,.s (E (2,0)) T p.length],t⟩,⟨.ws .u64 p,ty⟩],[],[]⟩))=(G,E (.p (E (0,0))),[⟨.lit [.b n,.s (E (3,0)) (gm (λj=>(dC ((dC (lc (U.i64.wrap (U.i64.wrap (U.i64.wrap ((T:Int)+(4:Int))+(1:Int))+(4:Int))).toNat (0:Int)) (row (jc (1:Int) (λj=>p.getD (0+j) (0:Int)) ((U.i64.wrap ((T:Int)+(4:Int))).toNat-(U.i64.wrap (U.i64.wrap ((T:Int)+(4:Int))-(T:Int))).toNat)).fst ((U.i64.wrap ((T:Int)+(4:Int))).toNat-(U.i64.wrap (U.i64.wrap ((T:Int)+(4:Int))-(T:Int))).toNat)) (eO 0 (U.i64.wrap (U.i64.wrap (U.i64.wrap ((T:Int)+(4:Int))+(1:Int))+(4:Int))).toNat (U.i64.wrap (U.i64.wrap ((T:Int)+(4:Int))-(T:Int))).toNat 1)).set (U.i64.wrap ((T:Int)+(4:Int))).toNat (jc (1:Int) (λj=>p.getD (0+j) (0:Int)) ((U.i64.wrap ((T:Int)+(4:Int))).toNat-(U.i64.wrap (U.i64.wrap ((T:Int)+(4:Int))-(T:Int))).toNat)).snd) (lc ((U.i64.wrap (U.i64.wrap ((T:Int)+(4:Int))-(T:Int))).toNat-0) (0:Int)) 0).getD (0+j) (0:Int)) (U.i64.wrap (U.i64.wrap ((T:Int)+(4:Int))+(1:Int))).toNat) ((U.i64.wrap (U.i64.wrap (U.i64.wrap ((T:Int)+(4:Int))+(1:Int))+(4:Int))).toNat)],P⟩,⟨.lit [.b n,.s (E (2,0)) T (p.length)],t⟩,⟨.ws .u64 p,ty⟩,⟨.ws .u64 (dC ((dC (lc (U.i64.wrap (U.i64.wrap (U.i64.wrap ((T:Int)+(4:Int))+(1:Int))+(4:Int))).toNat (0:Int)) (row (jc (1:Int) (λj=>p.getD (0+j) (0:Int)) ((U.i64.wrap ((T:Int)+(4:Int))).toNat-(U.i64.wrap (U.i64.wrap ((T:Int)+(4:Int))-(T:Int))).toNat)).fst ((U.i64.wrap ((T:Int)+(4:Int))).toNat-(U.i64.wrap (U.i64.wrap ((T:Int)+(4:Int))-(T:Int))).toNat)) (eO 0 (U.i64.wrap (U.i64.wrap (U.i64.wrap ((T:Int)+(4:Int))+(1:Int))+(4:Int))).toNat (U.i64.wrap (U.i64.wrap ((T:Int)+(4:Int))-(T:Int))).toNat 1)).set (U.i64.wrap ((T:Int)+(4:Int))).toNat (jc (1:Int) (λj=>p.getD (0+j) (0:Int)) ((U.i64.wrap ((T:Int)+(4:Int))).toNat-(U.i64.wrap (U.i64.wrap ((T:Int)+(4:Int))-(T:Int))).toNat)).snd) (lc ((U.i64.wrap (U.i64.wrap ((T:Int)+(4:Int))-(T:Int))).toNat-0) (0:Int)) 0),137⟩],[G,G,G,eb [D ((U.i64.wrap (U.i64.wrap ((T:Int)+(4:Int))+(1:Int))).toNat<4294967296/\0+(U.i64.wrap (U.i64.wrap ((T:Int)+(4:Int))+(1:Int))).toNat<=(dC ((dC (lc (U.i64.wrap (U.i64.wrap (U.i64.wrap ((T:Int)+(4:Int))+(1:Int))+(4:Int))).toNat (0:Int)) (row (jc (1:Int) (λj=>p.getD (0+j) (0:Int)) ((U.i64.wrap ((T:Int)+(4:Int))).toNat-(U.i64.wrap (U.i64.wrap ((T:Int)+(4:Int))-(T:Int))).toNat)).fst ((U.i64.wrap ((T:Int)+(4:Int))).toNat-(U.i64.wrap (U.i64.wrap ((T:Int)+(4:Int))-(T:Int))).toNat)) (eO 0 (U.i64.wrap (U.i64.wrap (U.i64.wrap ((T:Int)+(4:Int))+(1:Int))+(4:Int))).toNat (U.i64.wrap (U.i64.wrap ((T:Int)+(4:Int))-(T:Int))).toNat 1)).set (U.i64.wrap ((T:Int)+(4:Int))).toNat (jc (1:Int) (λj=>p.getD (0+j) (0:Int)) ((U.i64.wrap ((T:Int)+(4:Int))).toNat-(U.i64.wrap (U.i64.wrap ((T:Int)+(4:Int))-(T:Int))).toNat)).snd) (lc ((U.i64.wrap (U.i64.wrap ((T:Int)+(4:Int))-(T:Int))).toNat-0) (0:Int)) 0).length/\(U.i64.wrap (U.i64.wrap ((T:Int)+(4:Int))+(1:Int))).toNat<=(U.i64.wrap (U.i64.wrap (U.i64.wrap ((T:Int)+(4:Int))+(1:Int))+(4:Int))).toNat),D (0+((U.i64.wrap (U.i64.wrap ((T:Int)+(4:Int))-(T:Int))).toNat-0)<=((dC (lc (U.i64.wrap (U.i64.wrap (U.i64.wrap ((T:Int)+(4:Int))+(1:Int))+(4:Int))).toNat (0:Int)) (row (jc (1:Int) (λj=>p.getD (0+j) (0:Int)) ((U.i64.wrap ((T:Int)+(4:Int))).toNat-(U.i64.wrap (U.i64.wrap ((T:Int)+(4:Int))-(T:Int))).toNat)).fst ((U.i64.wrap ((T:Int)+(4:Int))).toNat-(U.i64.wrap (U.i64.wrap ((T:Int)+(4:Int))-(T:Int))).toNat)) (eO 0 (U.i64.wrap (U.i64.wrap (U.i64.wrap ((T:Int)+(4:Int))+(1:Int))+(4:Int))).toNat (U.i64.wrap (U.i64.wrap ((T:Int)+(4:Int))-(T:Int))).toNat 1)).set (U.i64.wrap ((T:Int)+(4:Int))).toNat (jc (1:Int) (λj=>p.getD (0+j) (0:Int)) ((U.i64.wrap ((T:Int)+(4:Int))).toNat-(U.i64.wrap (U.i64.wrap ((T:Int)+(4:Int))-(T:Int))).toNat)).snd).length),D ((0:Int)<=U.i64.wrap (U.i64.wrap ((T:Int)+(4:Int))-(T:Int))/\U.i64.wrap (U.i64.wrap ((T:Int)+(4:Int))-(T:Int))<=(↑(U.i64.wrap (U.i64.wrap (U.i64.wrap ((T:Int)+(4:Int))+(1:Int))+(4:Int))).toNat:Int)),D (1=1/\(U.i64.wrap ((T:Int)+(4:Int))).toNat<(dC (lc (U.i64.wrap (U.i64.wrap (U.i64.wrap ((T:Int)+(4:Int))+(1:Int))+(4:Int))).toNat (0:Int)) (row (jc (1:Int) (λj=>p.getD (0+j) (0:Int)) ((U.i64.wrap ((T:Int)+(4:Int))).toNat-(U.i64.wrap (U.i64.wrap ((T:Int)+(4:Int))-(T:Int))).toNat)).fst ((U.i64.wrap ((T:Int)+(4:Int))).toNat-(U.i64.wrap (U.i64.wrap ((T:Int)+(4:Int))-(T:Int))).toNat)) (eO 0 (U.i64.wrap (U.i64.wrap (U.i64.wrap ((T:Int)+(4:Int))+(1:Int))+(4:Int))).toNat (U.i64.wrap (U.i64.wrap ((T:Int)+(4:Int))-(T:Int))).toNat 1)).length),D ((0:Int)<=U.i64.wrap ((T:Int)+(4:Int))/\U.i64.wrap ((T:Int)+(4:Int))<(↑(U.i64.wrap (U.i64.wrap ((T:Int)+(4:Int))+(1:Int))).toNat:Int)),eb [D (T=(U.i64.wrap ((T:Int)+(4:Int))).toNat-(U.i64.wrap (U.i64.wrap ((T:Int)+(4:Int))-(T:Int))).toNat/\0<(U.i64.wrap ((T:Int)+(4:Int))).toNat-(U.i64.wrap (U.i64.wrap ((T:Int)+(4:Int))-(T:Int))).toNat/\(U.i64.wrap ((T:Int)+(4:Int))).toNat-(U.i64.wrap (U.i64.wrap ((T:Int)+(4:Int))-(T:Int))).toNat<4294967295/\(0:Int)<(1:Int)/\(1:Int)<(64:Int)/\eO 0 (U.i64.wrap (U.i64.wrap (U.i64.wrap ((T:Int)+(4:Int))+(1:Int))+(4:Int))).toNat (U.i64.wrap (U.i64.wrap ((T:Int)+(4:Int))-(T:Int))).toNat 1+((U.i64.wrap ((T:Int)+(4:Int))).toNat-(U.i64.wrap (U.i64.wrap ((T:Int)+(4:Int))-(T:Int))).toNat)<=(lc (U.i64.wrap (U.i64.wrap (U.i64.wrap ((T:Int)+(4:Int))+(1:Int))+(4:Int))).toNat (0:Int)).length/\0+((U.i64.wrap ((T:Int)+(4:Int))).toNat-(U.i64.wrap (U.i64.wrap ((T:Int)+(4:Int))-(T:Int))).toNat)<=p.length/\dG p)],ed (D ((0:Int)<=U.i64.wrap ((T:Int)+(4:Int))/\U.i64.wrap ((T:Int)+(4:Int))<=(↑(U.i64.wrap (U.i64.wrap (U.i64.wrap ((T:Int)+(4:Int))+(1:Int))+(4:Int))).toNat:Int))) (D ((0:Int)<=U.i64.wrap (U.i64.wrap ((T:Int)+(4:Int))-(T:Int))/\U.i64.wrap (U.i64.wrap ((T:Int)+(4:Int))-(T:Int))<=(↑(U.i64.wrap ((T:Int)+(4:Int))).toNat:Int))),G,G,eb [D ((0:Int)<=U.i64.wrap (U.i64.wrap ((T:Int)+(4:Int))+(1:Int))/\U.i64.wrap (U.i64.wrap ((T:Int)+(4:Int))+(1:Int))<=U.i64.wrap (U.i64.wrap (U.i64.wrap ((T:Int)+(4:Int))+(1:Int))+(4:Int))/\(0:Int)<U.i64.wrap (U.i64.wrap (U.i64.wrap ((T:Int)+(4:Int))+(1:Int))+(4:Int))/\U.i64.wrap (U.i64.wrap (U.i64.wrap ((T:Int)+(4:Int))+(1:Int))+(4:Int))<=(1048576:Int)),(U.i64.wrap (U.i64.wrap ((T:Int)+(4:Int))+(1:Int))==(1:Int))==A,D (U.i64.wrap (U.i64.wrap ((T:Int)+(4:Int))+(1:Int))<=(0:Int))==A,G],G,((T:Int)==(0:Int))==A,G,G],G,G]):=I
def NW(v:Int)(P t:es)(C:v≠0)(Q:(v.natAbs:Int)<pw 1000):
    eM B (λ_=>N) 90 [.p (E (0,0)),.p (E (1,0)),.i .u64 257] [⟨.lit [.b A,.s N 0 0],P⟩,⟨.int v,t⟩] (λr u=>r= .p (E (0,0))/\u=[⟨.int (v*2^257),P⟩,⟨.int v,t⟩]):=by
  refine eV Y K (eM.ld 1 K K K (λh=>absurd h C) λn p T j d=>?_);have e:=d.le;have w:=fm d Q;have l:T≠0:=λh=>C ((gI d).1 h)
  have L:=λi=>eg d.mM i
  refine dL _ f90 (Ev.done (gK (Xf _ _ _) (jF _)) (abc n p T P t j) ?_ ?_)
  .simp(disch:=omega)only[iK,Int.reduceToNat,Int.reduceAdd,Int.reduceSub];simp only[eu,ew,Nat.reduceAdd,Nat.reduceLT,d.mM];omega
  .simp(disch:=omega)only[iK,Int.reduceToNat,Int.reduceAdd,Int.reduceSub];obtain⟨M,S⟩:=Fw (Z:=lc (T+9) 0) (k:=4) (s:=1) d l O O Y gp (dP _) K;refine⟨dD,fs.close' 0 3 Y J K K (by rw[S];simp) M (.close' 1 2 Y J K K K d (.take 2 Y Y K K))⟩
def XL(v:s=28∨s=29)(P:es):letI a:Nat:=(0:Nat);(gi f90.results.toList (et (ep g0 (RZ g0 [G] []) LR) f90.ntmps N 200 [.code (dB f90)] ⟨(fo 0 [.p (E (0,0)),.p (E (0,0)),.i .u64 s]),[⟨.lit [.b A,.s N 0 0],P⟩],[],[]⟩))=(Bool.true,(E (V.p (E (a,a)))),[⟨eH.lit [(V.b Bool.false),(V.s N a a)],P⟩],[Bool.true,Bool.true,Bool.true,Bool.true,Bool.true,Bool.true]):=by rcases v with rfl|rfl<;>kernel_rfl
def Tj(v:s=28∨s=29)(n:Bool)(p:List Int)(P ty:es):letI a:Nat:=(0:Nat);(gi f90.results.toList (et (ep g0 (RZ g0 [G] []) LR) f90.ntmps N 200 [.code (dB f90)] ⟨(fo 0 [.p (E (0,0)),.p (E (0,0)),.i .u64 s]),[⟨.lit [.b n,.s (E (1,0)) 0 p.length],P⟩,⟨.ws .u64 p,ty⟩],[],[]⟩))=(Bool.true,(E (V.p (E (a,a)))),[⟨eH.lit [(V.b n),(V.s (E (((1:Nat)),a)) a (p.length-(0:Nat)))],P⟩,⟨eH.ws .u64 p,ty⟩],[Bool.true,Bool.true,Bool.true,Bool.true,Bool.true,Bool.true]):=by rcases v with rfl|rfl<;>kernel_rfl
def V1(i:s=28∨s=29)(b:Bool)(p:List Int)(T:Nat)(P ty:es):letI v:=(T:Int);letI l:Int:=(0:Int);letI a:=U.i64.wrap (v+l);letI f:Nat:=(0:Nat);letI n:=a.toNat;letI k:=U.i64.wrap (a-v);letI e:=k.toNat;letI w:=n-e;letI m:=p.length-f;letI o:Nat:=(1:Nat);letI t:=eO f m e o;letI h:=dC p (row (jc s (λj=>p.getD (f+j) l) w).fst w) t;letI d:=h.set n (jc s (λj=>p.getD (f+j) l) w).snd;letI g:Int:=U.i64.wrap (a+(1:Int));letI q:=dC d (lc (e-f) l) f;letI r:=g.toNat-f;letI u:=g<=(p.length:Int);(gi f90.results.toList (et (ep g0 (RZ g0 [G] [A,A,A]) LR) f90.ntmps N 200 [.code (dB f90)] ⟨(fo 0 [.p (E (0,0)),.p (E (0,0)),.i .u64 s]),[⟨.lit [.b b,.s (E (1,0)) T p.length],P⟩,⟨.ws .u64 p,ty⟩],[],[]⟩))=(Bool.true,(E (V.p (E (f,f)))),[⟨eH.lit [(V.b b),(V.s (E (o,f)) (gm (λj=>q.getD (f+j) l) r) m)],P⟩,⟨eH.ws .u64 q,ty⟩],[Bool.true,Bool.true,Bool.true,(eb [(D (r<(4294967296:Nat)/\f+(r)<=q.length/\r<=p.length-f)),(D (f+(e-f)<=d.length)),(D (l<=k/\k<=(m:Int))),(D (o=o/\n<h.length)),(D (l<=a/\a<(↑(r):Int))),(eb [(ed (D (T=w/\f<w/\w<(4294967295:Nat)/\l<s/\s<(64:Int)/\t+(w)<=p.length/\f+(w)<=p.length/\dG p)) (oU [{c:=eH.lit [V.b b,V.s (E (o,f)) T p.length],ty:=P},{c:=eH.ws U.u64 p,ty:=ty}] (o,t) (o,f)))]),(ed (D (l<=a/\a<=(m:Int))) (D (l<=k/\k<=(n:Int)))),Bool.true,Bool.true,(eb [(D (l<=g/\u)),(D u==G),Bool.true]),Bool.true,((v==l)==A),Bool.true,Bool.true]),Bool.true,Bool.true]):=by rcases i with rfl|rfl<;>kernel_rfl
def XO(i:s=28∨s=29)(b:Bool)(p:List Int)(T:Nat)(P ty:es):letI t:=(T:Int);letI l:Int:=(0:Int);letI a:=U.i64.wrap (t+l);letI g:Int:=U.i64.wrap (a+(1:Int));letI e:Int:=U.i64.wrap (g+(4:Int));letI n:=e.toNat;letI v:=lc n l;letI k:Nat:=(0:Nat);letI r:=a.toNat;letI d:=U.i64.wrap (a-t);letI q:=d.toNat;letI h:=r-q;letI u:Nat:=(1:Nat);letI c:=dC v (row (jc s (λj=>p.getD (k+j) l) h).fst h) (eO k n q u);letI m:=c.set r (jc s (λj=>p.getD (k+j) l) h).snd;letI f:=dC m (lc (q-k) l) k;letI o:=g.toNat;(gi f90.results.toList (et (ep g0 (RZ g0 [A,A] [A,A,A]) LR) f90.ntmps N 200 [.code (dB f90)] ⟨(fo 0 [.p (E (0,0)),.p (E (0,0)),.i .u64 s]),[⟨.lit [.b b,.s (E (1,0)) T p.length],P⟩,⟨.ws .u64 p,ty⟩],[],[]⟩))=(Bool.true,(E (V.p (E (k,k)))),[⟨eH.lit [(V.b b),(V.s (E (((2:Nat)),k)) (gm (λj=>f.getD (k+j) l) o) n)],P⟩,⟨eH.ws .u64 p,ty⟩,⟨eH.ws .u64 f,((137:es))⟩],[Bool.true,Bool.true,Bool.true,(eb [(D (o<(4294967296:Nat)/\k+o<=f.length/\o<=n)),(D (k+(q-k)<=m.length)),(D (l<=d/\d<=(n:Int))),(D (u=u/\r<c.length)),(D (l<=a/\a<(o:Int))),(eb [(D (T=h/\k<h/\h<(4294967295:Nat)/\l<s/\s<(64:Int)/\eO k n q u+(h)<=v.length/\k+(h)<=p.length/\dG p))]),(ed (D (l<=a/\a<=(n:Int))) (D (l<=d/\d<=(r:Int)))),Bool.true,Bool.true,(eb [(D (l<=g/\g<=e/\l<e/\e<=(1048576:Int))),((g==(1:Int))==A),(D (g<=(p.length:Int))==A),Bool.true]),Bool.true,((t==l)==A),Bool.true,Bool.true]),Bool.true,Bool.true]):=by rcases i with rfl|rfl<;>kernel_rfl
def NM(b:s=28∨s=29)(v:Int)(P:es)(Q:(v.natAbs:Int)<pw 1000):letI a:V:= .p (E (0,0));eM B g0 90 [a,a,.i .u64 s] [⟨.int v,P⟩] (λr u=>r=a/\u=[⟨.int (v*2^s.toNat),P⟩]):=by
  refine eV Y K (eM.ld 0 K K K (λh=>?_) λn p T j d=>?_)
  .subst h;rw[mN];exact dL _ f90 (Ev.done (gK (Bl _ _ _) (eP _)) (XL b P) K ⟨K,fs.nU 0 Y K (.refl _ _)⟩)
  .have e:=d.le;have w:=fm d (k:=1000) O;rcases np T with h|h
   .subst h;have c:=(gI d).1 K;subst c;rw[mN]
    exact dL _ f90 (Ev.done (gK (Bl _ _ _) (eP _)) (Tj b n p P j) rG
      ⟨K,fs.close' 0 1 Y J K K K d (.take 1 Y Y K K)⟩)
   .by_cases m:T+1<=p.length
    .refine dL _ f90 (Ev.done (gK (Bl _ _ _) (eP _)) (V1 b n p T P j) ?_ ?_)
     .simp(disch:=omega)only[iK,Int.reduceToNat,Int.reduceAdd,Int.reduceSub];simp only[eu,ew,Nat.reduceAdd,Nat.reduceLT,d.mM];omega
     .simp(disch:=omega)only[iK,Int.reduceToNat,Int.reduceAdd,Int.reduceSub];obtain⟨M,S⟩:=Fw (Z:=p) (k:=0) (s:=s) d O O O m d.cap d.mM K;rw[wP,ir]at M;exact⟨dD,fs.close' 0 1 Y J K K S M (.take 1 Y Y K K)⟩
    .refine dL _ f90 (Ev.done (gK (Bl _ _ _) (eP _)) (XO b n p T P j) ?_ ?_)
     .simp(disch:=omega)only[iK,Int.reduceToNat,Int.reduceAdd,Int.reduceSub];simp only[eu,ew,Nat.reduceAdd,Nat.reduceLT,d.mM];omega
     .simp(disch:=omega)only[iK,Int.reduceToNat,Int.reduceAdd,Int.reduceSub];obtain⟨M,S⟩:=Fw (Z:=lc (T+5) 0) (k:=0) (s:=s) d O O O Y gp (dP _) K;rw[wP,ir]at M;exact⟨dD,fs.close' 0 2 Y J K K (S.trans Y) M (.take 1 Y Y K K)⟩
def xT(v:Int)(P:es)(Q:(v.natAbs:Int)<pw 1000):letI a:V:= .p (E (0,0));eM B g0 90 [a,a,.i .u64 28] [⟨.int v,P⟩] (λr u=>r=a/\u=[⟨.int (v*2^28),P⟩]):=NM (s:=28) J v P Q
def xJ(v:Int)(P:es)(Q:(v.natAbs:Int)<pw 1000):letI a:V:= .p (E (0,0));eM B g0 90 [a,a,.i .u64 29] [⟨.int v,P⟩] (λr u=>r=a/\u=[⟨.int (v*2^29),P⟩]):=NM (s:=29) J v P Q
abbrev xL(nz:Bool)(T:Nat)(s:Int)(p:List Int)(P t ty:es)(w:Option (Nat×Nat))(S u:Nat)(u3:dI)(u4:Int):Prop:=letI m:=(T:Int);letI a:Int:=U.i64.wrap (m-U.i64.wrap (U.u64.wrap (s.tdiv (64:Int))));letI e:=a.toNat;letI f:Int:=(0:Int);letI k:=lc (dM e) f;letI g:Int:=s.tmod (64:Int);letI d:=U.i64.wrap (m-a);letI h:Nat:=eO 0 p.length d.toNat 1;letI c:List Int:=dC k (row (zS g (λj=>p.getD (h+j) f) e).fst e) 0;letI l:dI:=⟨.ws .u64 p,ty⟩;(gi f92.results.toList (et (ep g0 (Yv g0 oK [A,A,A]) LR) f92.ntmps N 200 [.code (dB f92)] ⟨fo 0 [.p (E (0,0)),.p (E (1,0)),.i .u64 s],[⟨.lit [.b nz,.s w S u],P⟩,⟨.lit [.b A,.s (E (2,0)) T p.length],t⟩,l,u3],[],[]⟩))=(G,E (.p (E (0,0))),[⟨.lit [.b A,.s (E (4,0)) (gm (λj=>c.getD (0+j) f) e) (dM e)],P⟩,⟨.lit [.b A,.s (E (2,0)) T (p.length)],t⟩,l,u3,⟨.ws .u64 c,137⟩],[G,G,eb [D (e<4294967296/\0+e<=c.length/\e<=dM e),eb [D (T-(d).toNat=e/\0<e/\e<4294967295/\f<g/\g<(64:Int)/\0+e<=k.length/\h+e<=p.length/\dG p)],ed (D (T<=p.length)) (D (f<=d/\d<=m)),(g==f)==A,G,D ((u4:Int)<a/\a<=(1048000:Int)),D (a<=f)==A,G,G,(s==f)==A],G,G,G])
def Vc(nz:Bool)(w T:Nat)(s:Int)(p F:List Int)(P t ty R:es):xL nz T s p P t ty N 0 0 ⟨.dead,0⟩ 0:=dR
abbrev tE(nz:Bool)(T:Nat)(p:List Int)(P t ty:es)(w:Option (Nat×Nat))(S u:Nat)(u3:dI)(u4:Int)(o:Bool):Prop:=letI e:=(T:Int);letI a:=e.toNat;letI c:dI:=⟨.ws .u64 p,ty⟩;letI d:=T.min a;letI f:List Int:=lc (dM a) (0:Int);(gi f92.results.toList (et (ep g0 (Yv g0 oK [G,A,G]) LR) f92.ntmps N 200 [.code (dB f92)] ⟨fo 0 [.p (E (0,0)),.p (E (1,0)),.i .u64 0],[⟨.lit [.b nz,.s w S u],P⟩,⟨.lit [.b A,.s (E (2,0)) T p.length],t⟩,c,u3],[],[]⟩))=(G,E (.p (E (0,0))),[⟨.lit [.b A,.s (E (4,0)) a (dM a)],P⟩,⟨.lit [.b A,.s (E (2,0)) T (p.length)],t⟩,c,u3,⟨.ws .u64 (dC f (jp d (kw 0 p)) 0),137⟩],[G,G,eb [eb [D (0+d<=p.length/\0+d<=f.length),D ((u4:Int)<e/\e<=(1048000:Int)),G],G,o,G,G,G],G,G,G])
def WB(nz:Bool)(w T:Nat)(p F:List Int)(P t ty R:es):tE nz T p P t ty N 0 0 ⟨.dead,0⟩ 0 G:=dR
def Yi(nz:Bool)(w T:Nat)(s:Int)(p F:List Int)(P t ty R:es):xL nz T s p P t ty (E (3,0)) w F.length ⟨.ws .u64 F,R⟩ (↑F.length):=dR
def Wn(nz:Bool)(w T:Nat)(p F:List Int)(P t ty R:es):tE nz T p P t ty (E (3,0)) w F.length ⟨.ws .u64 F,R⟩ (↑F.length) (D (F.length<=9223372036854775807/\p.length<=9223372036854775807)):=dR
def ahn(nz:Bool)(w T:Nat)(s:Int)(p F:List Int)(P t ty R:es):letI h:=(T:Int);letI a:Int:=U.i64.wrap (h-U.i64.wrap (U.u64.wrap (s.tdiv 64)));letI d:=U.i64.wrap (h-a);letI f:Nat:=eO 0 p.length d.toNat 1;letI e:=a.toNat;letI c:List Int:=dC F (row (zS (s.tmod 64) (λj=>p.getD (f+j) 0) e).fst e) 0;letI g:dI:=⟨.ws .u64 p,ty⟩;(gi f92.results.toList (et (ep g0 (Yv g0 mG [A,A,A]) LR) f92.ntmps N 200 [.code (dB f92)] ⟨fo 0 [.p (E (0,0)),.p (E (1,0)),.i .u64 s],[⟨.lit [.b nz,.s (E (3,0)) w F.length],P⟩,⟨.lit [.b A,.s (E (2,0)) T p.length],t⟩,g,⟨.ws .u64 F,R⟩],[],[]⟩))=(G,E (.p (E (0,0))),[⟨.lit [.b A,.s (E (3,0)) (gm (λj=>c.getD (0+j) 0) e) (F.length)],P⟩,⟨.lit [.b A,.s (E (2,0)) T (p.length)],t⟩,g,⟨.ws .u64 c,R⟩],[G,G,eb [D (e<4294967296/\0+e<=c.length/\e<=F.length),eb [D (T-(d).toNat=e/\0<e/\e<4294967295/\0<s.tmod 64/\s.tmod (64:Int)<64/\0+e<=F.length/\f+e<=p.length/\dG p)],ed (D (T<=p.length)) (D (0<=d/\d<=h)),(s.tmod (64:Int)==0)==A,G,D (0<=a/\a<=(F.length:Int)),D (a<=0)==A,G,G,(s==0)==A],G,G,G]):=I
def afn(nz:Bool)(w T:Nat)(p F:List Int)(P t ty R:es):letI a:=(T:Int);letI c:=T.min a.toNat;letI d:dI:=⟨.ws .u64 p,ty⟩;letI e:Nat:=9223372036854775807;(gi f92.results.toList (et (ep g0 (Yv g0 mG [G,A,G]) LR) f92.ntmps N 200 [.code (dB f92)] ⟨fo 0 [.p (E (0,0)),.p (E (1,0)),.i .u64 0],[⟨.lit [.b nz,.s (E (3,0)) w F.length],P⟩,⟨.lit [.b A,.s (E (2,0)) T p.length],t⟩,d,⟨.ws .u64 F,R⟩],[],[]⟩))=(G,E (.p (E (0,0))),[⟨.lit [.b A,.s (E (3,0)) (a.toNat) (F.length)],P⟩,⟨.lit [.b A,.s (E (2,0)) T (p.length)],t⟩,d,⟨.ws .u64 (dC F (jp c (kw 0 p)) 0),R⟩],[G,G,eb [eb [D (0+c<=p.length/\0+c<=F.length),D (0<=a/\a<=(F.length:Int)),G],G,D (F.length<=e/\p.length<=e),G,G,G],G,G,G]):=I
def amw(z v s:Int)(P t:es)(h0:0<v)(hv:v<pw 1000)(Q:0<=s)(g:s<64):
    eM B g0 92 [.p (E (0,0)),.p (E (1,0)),.i .u64 s] [⟨.int z,P⟩,⟨.int v,t⟩] (λr u=>r= .p (E (0,0))/\u=[⟨.int (v/2^s.toNat),P⟩,⟨.int v,t⟩]):=by
  refine eV Y K (eM.ld 1 K K K (λh=>absurd h O) λn p T j d=>?_)
  have i:n=A:=by
    cases n with
    |false=>rfl
    |true=>have:=(ic d).2.2.2.1 K;omega
  subst i;have e:=d.le;have x:=fm d (k:=1000) O;have l:T≠0:=λh=>by have:=(gI d).1 h;omega
  have m:=gL T;have L:=d.cap;refine zA 0 K K K λnz az w cz b H aa=>?_
  by_cases y:s=0
  .subst y;have f:v/2^(0:Int).toNat=v:=Y;rw[f];rcases H with⟨rfl,rfl,rfl,rfl,rfl,rfl⟩ |⟨F,R,rfl,rfl,rfl,o⟩
   .refine dL _ f92 (Ev.done (gK (vn (DP _)) (eP _)) (WB A 0 T p [] P t j 0) ?_ ?_)
    ·(try simp(disch:=omega)only[iK,Int.reduceToNat,Int.reduceAdd,Int.reduceSub]);(try simp+decide only[eu,ew,Nat.reduceAdd,Nat.reduceLT]);(try omega)
    .simp(disch:=omega)only[iK,Int.reduceToNat,Int.reduceAdd,Int.reduceSub];obtain⟨M,S⟩:=vL (Z:=lc (dM T) 0) d l gp gp (dP _) K;exact⟨(by trivial),fs.close' 0 4 Y J K K (S.trans Y) M (.close' 1 2 Y J K K K d (.take 2 Y Y K K))⟩
   .have C:=o.cap;by_cases c:T<=F.length
    .refine dL _ f92 (Ev.done (gK (vn (wA _)) (eP _)) (afn nz w T p F P t j R) ?_ ?_)
     ·(try simp(disch:=omega)only[iK,Int.reduceToNat,Int.reduceAdd,Int.reduceSub]);(try simp+decide only[eu,ew,Nat.reduceAdd,Nat.reduceLT]);(try omega)
     .simp(disch:=omega)only[iK,Int.reduceToNat,Int.reduceAdd,Int.reduceSub];obtain⟨M,S⟩:=vL (Z:=F) d l c o.cap o.mM K;exact⟨(by trivial),fs.close' 0 3 Y J K K S M (.close' 1 2 Y J K K K d (.take 2 Y Y K K))⟩
    .refine dL _ f92 (Ev.done (gK (vn (DP _)) (eP _)) (Wn nz w T p F P t j R) ?_ ?_)
     ·(try simp(disch:=omega)only[iK,Int.reduceToNat,Int.reduceAdd,Int.reduceSub]);(try simp+decide only[eu,ew,Nat.reduceAdd,Nat.reduceLT]);(try omega)
     .simp(disch:=omega)only[iK,Int.reduceToNat,Int.reduceAdd,Int.reduceSub];obtain⟨M,S⟩:=vL (Z:=lc (dM T) 0) d l gp gp (dP _) K;exact⟨(by trivial),fs.close' 0 4 Y J K K (S.trans Y) M (.close' 1 2 Y J K K K d (.take 2 Y Y K K))⟩
  .have a:Int.tdiv s 64=0:=Int.tdiv_eq_zero_of_lt Q g;have f:Int.tmod s 64=s:=Int.tmod_eq_of_lt Q g;have q:0<s:=O;rcases H with⟨rfl,rfl,rfl,rfl,rfl,rfl⟩ |⟨F,R,rfl,rfl,rfl,o⟩
   .refine dL _ f92 (Ev.done (gK (vn (DP _)) (eP _)) (Vc A 0 T s p [] P t j 0) ?_ ?_)
    .simp(disch:=omega)only[a,f,iK,Int.reduceToNat,Int.reduceAdd,Int.reduceSub];simp only[eu,ew,Nat.reduceAdd,Nat.reduceLT,d.mM];omega
    .simp(disch:=omega)only[a,f,iK,Int.reduceToNat,Int.reduceAdd,Int.reduceSub];obtain⟨M,S⟩:=vH (Z:=lc (dM T) 0) d l q g gp gp (dP _) K;exact⟨(by trivial),fs.close' 0 4 Y J K K (S.trans Y) M (.close' 1 2 Y J K K K d (.take 2 Y Y K K))⟩
   .by_cases c:T<=F.length
    .refine dL _ f92 (Ev.done (gK (vn (wA _)) (eP _)) (ahn nz w T s p F P t j R) ?_ ?_)
     .simp(disch:=omega)only[a,f,iK,Int.reduceToNat,Int.reduceAdd,Int.reduceSub];simp only[eu,ew,Nat.reduceAdd,Nat.reduceLT,d.mM];omega
     .simp(disch:=omega)only[a,f,iK,Int.reduceToNat,Int.reduceAdd,Int.reduceSub];obtain⟨M,S⟩:=vH (Z:=F) d l q g c o.cap o.mM K;exact⟨(by trivial),fs.close' 0 3 Y J K K S M (.close' 1 2 Y J K K K d (.take 2 Y Y K K))⟩
    .refine dL _ f92 (Ev.done (gK (vn (DP _)) (eP _)) (Yi nz w T s p F P t j R) ?_ ?_)
     .simp(disch:=omega)only[a,f,iK,Int.reduceToNat,Int.reduceAdd,Int.reduceSub];simp only[eu,ew,Nat.reduceAdd,Nat.reduceLT,d.mM];omega
     .simp(disch:=omega)only[a,f,iK,Int.reduceToNat,Int.reduceAdd,Int.reduceSub];obtain⟨M,S⟩:=vH (Z:=lc (dM T) 0) d l q g gp gp (dP _) K;exact⟨(by trivial),fs.close' 0 4 Y J K K (S.trans Y) M (.close' 1 2 Y J K K K d (.take 2 Y Y K K))⟩
noncomputable abbrev Px:List (Nat×jB):=(177,inl g0 LV LQ f177 [])::(152,inl g0 LV LQ f152 [])::LV
def Bc:fl g0 Px:=⟨⟨ga f177,mV (uJ g0) (jF g0) I I []⟩,
  yF (uJ g0) 152 f152 [] I I I⟩
abbrev pf(w:List ResultVar)(S u4:Nat)(u:Func)(u3:(List (Nat×V)->List (Nat×V)))(o:V)(i F:List dI)(v:Bool)(t:(List Bool->List Bool)):Prop:=(gi w (et (ep g0 Px LQ) S N 200 [.code (dB u)] ⟨(u3 [(u4,o)]),i,[v],[]⟩))=(G,E (.t []),F,(t [G,G]))
def We(y:es):letI a:dE:=[⟨.lit [.p N],y⟩];pf f153.results.toList f153.ntmps 1 f153 (λS=>(0,.p (E (0,0)))::S) (.i .i64 0) a a G (λS=>S):=dR
def auv(x:dI)(l T:Nat)(y t:es):letI a:dI:=⟨.lit [.p (E (1,0))],y⟩;pf f153.results.toList f153.ntmps 1 f153 (λS=>(0,.p (E (0,0)))::S) (.i .i64 0) [a,⟨.lit [.s (E (2,0)) l T],t⟩,x] [a,⟨.lit [.s (E (2,0)) 0 (T-0)],t⟩,x] A (λS=>G::S):=dR
def U3(y:es):letI a:dE:=[⟨.lit [.p N],y⟩];pf f134.results.toList f134.ntmps 0 f134 (λS=>S) (.p (E (0,0))) a a A (λS=>S):=dR
def alh(x:dI)(l T:Nat)(y t:es):letI a:dI:=⟨.lit [.p (E (1,0))],y⟩;pf f134.results.toList f134.ntmps 0 f134 (λS=>S) (.p (E (0,0))) [a,⟨.lit [.s (E (2,0)) l T],t⟩,x] [a,⟨.lit [.s (E (2,0)) 0 (T-0)],t⟩,x] G (λS=>G::S):=dR
def sF.mono{P:Program}{f:FuncId}{args:List V}{m:dE}{Q x:V->dE->Prop}(h:sF P R f args m Q)(z: ∀r a,Q r a->x r a):sF P R f args m x:=
  λq w u y p=>(h q w u y p).mono λ_ _ _ g=>⟨g.1,g.2.mono z⟩
def kX(y:es)(P:dI)(F:dE)(o:Nat):Prop:=
  (P=⟨.lit [.p N],y⟩/\ ∃v z,F=[⟨.ws .u64 v,z⟩])∨
  (P=⟨.lit [.p (E (o+1,0))],y⟩/\ ∃v z l T t,F=[⟨.ws .u64 v,z⟩,⟨.lit [.s (E (o,0)) l T],t⟩])
def kX.wf{o:Nat}(h:kX y P F o):mZ (o+F.length) P.c=G/\ek (o+F.length) F=G/\P.c.iQ=G:=by
  rcases h with⟨rfl,v,z,rfl⟩ |⟨rfl,v,z,l,T,t,rfl⟩
  .exact⟨K,K,K⟩
  .refine⟨?_,?_,K⟩<;>simp[mZ,ek,nd,V.wf,tQ]
def kX.iU{o:Nat}{σ:List Nat}(h:kX y P F o)(j:σ.length=o)(M:Nat):kX y (P.iU (sg σ M)) (iC (sg σ M) F) M:=by
  have a:sg σ M (o+1)=M+1:=by rw[<-j];exact CH 1
  have e0:sg σ M o=M:=by rw[<-j];exact CH 0
  rcases h with⟨rfl,v,z,rfl⟩ |⟨rfl,v,z,l,T,t,rfl⟩
  .exact .inl ⟨K,v,z,K⟩
  .refine .inr ⟨?_,v,z,l,T,t,?_⟩
   .simp [dI.iU,eH.iU,ml,V.iU,a]
   .simp [iC,dI.iU,eH.iU,ml,V.iU,e0]
def tJ(n:Nat)(b:dE): ∀a:dE,ek n (a++b)=(ek n a&&ek n b)
  |[]=>rfl
  |x::a=>by simp only[ym,ek,tJ n b a];exact(Bool.and_assoc _ _ _).symm
def GO(y:es):letI a:dE:=[⟨.lit [.p N],y⟩];sF B g0 153 [.p (E (0,0)),.i .i64 0] a (λr u=>r= .t []/\u=a):=by refine sF.of (C:=ep g0 Px LQ) K (fn:=f153) (c:=dB f153) I I I ?_;exact Ev.done (gK Bc (jF _)) (We y) K ⟨K,K⟩
def Ld(x:dI)(l T:Nat)(y t:es):letI a:dI:=⟨.lit [.p (E (1,0))],y⟩;sF B g0 153 [.p (E (0,0)),.i .i64 0] [a,⟨.lit [.s (E (2,0)) l T],t⟩,x] (λr u=>r= .t []/\u=[a,⟨.lit [.s (E (2,0)) 0 T],t⟩,x]):=by
  refine sF.of (C:=ep g0 Px LQ) K (fn:=f153) (c:=dB f153) I I I ?_;refine Ev.done (gK Bc (jF _)) (auv x l T y t) ?_ ⟨K,K⟩
  (try simp(disch:=omega)only[iK,Int.reduceToNat,Int.reduceAdd,Int.reduceSub]);(try simp+decide only[dK,dJ,eu,ew,Nat.reduceAdd,Nat.reduceLT]);(try omega)
def sZ{q:dE}{i:Nat}(g:q[i]?=E P)(v:kX y P F q.length)(d:ek (q.length+F.length) q=G):
    sF B R 153 [.p (E (i,0)),.i .i64 0] (q++F) (λr u=> ∃x,u=q++x/\kX y P x q.length/\x.length=F.length):=by
  have a:i<q.length:=(fQ.1 g).1;have m:ek (q++F).length (q++F)=G:=by rw[tJ,gw,d,v.wf.2.1];rfl
  have s:(q++F)[i]?=E P:=by rw[oF a];exact g
  rcases v with⟨rfl,v,z,rfl⟩ |⟨rfl,v,z,l,T,t,rfl⟩
  .refine((GO y).lift (gl:=R) [i] ⟨s,K,dD⟩ Y (λ_ _ h=>by cases h) m).mono ?_;rintro r u⟨C,e,⟨rfl,rfl⟩,_,rfl,rfl⟩;refine⟨_,?_,.inl ⟨K,v,z,K⟩,K⟩;simp only[fW,iC,ft,kw,eI,fb,jx];exact fu s
  .have n:(q++[⟨.ws .u64 v,z⟩,⟨.lit [.s (E (q.length,0)) l T],t⟩]:dE)[q.length+1]?=E ⟨.lit [.s (E (q.length,0)) l T],t⟩:=by rw[pP O];simp
   have w:(q++[⟨.ws .u64 v,z⟩,⟨.lit [.s (E (q.length,0)) l T],t⟩]:dE)[q.length]?=E ⟨.ws .u64 v,z⟩:=by rw[pP O];simp
   refine((Ld ⟨.ws .u64 v,z⟩ l T y t).lift (gl:=R) [i,q.length+1,q.length] ⟨s,K,n,K,w,K,dD⟩ ?_ (λ_ _ h=>by cases h) m).mono ?_
   .simp;omega
   rintro r u⟨C,e,⟨rfl,rfl⟩,_,rfl,rfl⟩;refine⟨_,?_,.inr ⟨K,v,z,0,T,t,K⟩,K⟩;simp only[fW,iC,ft,kw,eI,fb,jx];show((List.set (α:=dI) _ i ⟨.lit [.p (E (q.length+1,0))],y⟩).set (q.length+1) ⟨.lit [.s (E (q.length,0)) 0 T],t⟩).set q.length ⟨.ws .u64 v,z⟩=_;rw[fu s,wT _ _ O,(O:q.length+1-q.length=1)];rw[wT _ _ O,wZ];rfl
def G4(y:es):sF B g0 134 [.p (E (0,0))] [⟨.lit [.p N],y⟩] (λr u=>r= .t []/\u=[⟨.lit [.p N],y⟩]):=by refine sF.of (C:=ep g0 Px LQ) K (fn:=f134) (c:=dB f134) I I I ?_;exact Ev.done (gK Bc (jF _)) (U3 y) K ⟨K,K⟩
def Ky(x:dI)(l T:Nat)(y t:es):letI a:dI:=⟨.lit [.p (E (1,0))],y⟩;sF B g0 134 [.p (E (0,0))] [a,⟨.lit [.s (E (2,0)) l T],t⟩,x] (λr u=>r= .t []/\u=[a,⟨.lit [.s (E (2,0)) 0 T],t⟩,x]):=by
  refine sF.of (C:=ep g0 Px LQ) K (fn:=f134) (c:=dB f134) I I I ?_;refine Ev.done (gK Bc (jF _)) (alh x l T y t) ?_ ⟨K,K⟩
  (try simp(disch:=omega)only[iK,Int.reduceToNat,Int.reduceAdd,Int.reduceSub]);(try simp+decide only[dK,dJ,eu,ew,Nat.reduceAdd,Nat.reduceLT]);(try omega)
def G8{q:dE}{i:Nat}(g:q[i]?=E P)(v:kX y P F q.length)(d:ek (q.length+F.length) q=G):
    sF B R 134 [.p (E (i,0))] (q++F) (λr u=> ∃x,u=q++x/\kX y P x q.length/\x.length=F.length):=by
  have a:i<q.length:=(fQ.1 g).1;have m:ek (q++F).length (q++F)=G:=by rw[tJ,gw,d,v.wf.2.1];rfl
  have s:(q++F)[i]?=E P:=by rw[oF a];exact g
  rcases v with⟨rfl,v,z,rfl⟩ |⟨rfl,v,z,l,T,t,rfl⟩
  .refine((G4 y).lift (gl:=R) [i] ⟨s,K,dD⟩ Y (λ_ _ h=>by cases h) m).mono ?_;rintro r u⟨C,e,⟨rfl,rfl⟩,_,rfl,rfl⟩;refine⟨_,?_,.inl ⟨K,v,z,K⟩,K⟩;simp only[fW,iC,ft,kw,eI,fb,jx];exact fu s
  .have n:(q++[⟨.ws .u64 v,z⟩,⟨.lit [.s (E (q.length,0)) l T],t⟩]:dE)[q.length+1]?=E ⟨.lit [.s (E (q.length,0)) l T],t⟩:=by rw[pP O];simp
   have w:(q++[⟨.ws .u64 v,z⟩,⟨.lit [.s (E (q.length,0)) l T],t⟩]:dE)[q.length]?=E ⟨.ws .u64 v,z⟩:=by rw[pP O];simp
   refine((Ky ⟨.ws .u64 v,z⟩ l T y t).lift (gl:=R) [i,q.length+1,q.length] ⟨s,K,n,K,w,K,dD⟩ ?_ (λ_ _ h=>by cases h) m).mono ?_
   .simp;omega
   rintro r u⟨C,e,⟨rfl,rfl⟩,_,rfl,rfl⟩;refine⟨_,?_,.inr ⟨K,v,z,0,T,t,K⟩,K⟩;simp only[fW,iC,ft,kw,eI,fb,jx];show((List.set (α:=dI) _ i ⟨.lit [.p (E (q.length+1,0))],y⟩).set (q.length+1) ⟨.lit [.s (E (q.length,0)) 0 T],t⟩).set q.length ⟨.ws .u64 v,z⟩=_;rw[fu s,wT _ _ O,(O:q.length+1-q.length=1)];rw[wT _ _ O,wZ];rfl
def qG:jB:=λargs m=>match mG args m with
  |some x=>E x
  |none=>oK args m
abbrev gd(i:Nat):Nat->Option Nat:=λg=>bif Nat.beq g 4 then E i else N
noncomputable abbrev P2(R:Nat->Option Nat)(F:jB):List (Nat×jB):=(154,inl R LV LQ f154 [G])::N2 R F
abbrev A8:List (Nat×QF):=(155,YG)::LR
def WR(R:Nat->Option Nat):qI B R 102 qG:=by
  intro q m w args r u T y p;unfold qG at T;split at T
  .rename_i x L;cases T;exact MW R q m w args r u L y p
  .exact Nh R q m w args r u T y p
def Nq(R:Nat->Option Nat):fl R (N1 qG):=⟨⟨od FV.1 FV.2.2,WR R⟩,uJ R⟩
def o7{F:jB}(h:fl R (N1 F)):fl R (P2 R F):=⟨⟨ga f154,mV (uJ R) (jF R) I I [G]⟩,wG h⟩
def mq(R:Nat->Option Nat):gf R A8:=⟨⟨ga f155,Gw R⟩,eP R⟩
def axk(m n Q k w C:Nat)(H p:List Int)(t y ty M:es)(z:Int):letI a:dE:=[⟨.ws .u64 H,t⟩,⟨.lit [.p N],y⟩,⟨.ws .u64 p,ty⟩,⟨.lit [.i .i64 z],M⟩];letI b:V:= .p (E (1,0));letI c:fw:=ep (gd 3) (P2 (gd 3) qG) A8;letI d:V:= .s (E (0,0)) (m+n) Q;letI e:V:= .s (E (0,0)) w C;(match eC c f135.ntmps 200 [0,1,2,3,4,12,13,22,24] [.code (dB f135)] ⟨[(0,.s N 0 0),(1,b),(2,e),(3,d),(4,.s (E (2,0)) n k)],a,[],[]⟩with|(v,T,q,R)=>(pe c v T,iF v,T,q,R))=(E (153,[b,.i .i64 0]),dF 3 4 (dB f135) [],[(0,.s N 0 0),(1,b),(2,e),(3,d),(4,.s (E (2,0)) n k),(12,.i .i64 (n:Int)),(13,.i .i64 (U.i64.wrap ((↑(m+n):Int)-(n:Int)))),(22,b),(24,.i .i64 0)],a,[G,G,G]):=I
def auo(m n Q k w C:Nat)(H p:List Int)(t y ty M:es)(z:Int):letI a:dE:=[⟨.ws .u64 H,t⟩,⟨.lit [.p N],y⟩,⟨.ws .u64 p,ty⟩,⟨.lit [.i .i64 z],M⟩];letI d:=(n:Int);letI b:Int:=U.i64.wrap (d-1);letI c:V:= .p (E (1,0));letI e:fw:=ep (gd 3) (P2 (gd 3) qG) A8;letI f:V:= .s (E (0,0)) (m+n) Q;letI g:V:= .s (E (0,0)) w C;letI h:V:= .i .i64 d;(mW e (eC e f135.ntmps 200 [0,1,2,3,4,12,13,14,31,32] (dF 3 4 (dB f135) []) ⟨[(0,.s N 0 0),(1,c),(2,g),(3,f),(4,.s (E (2,0)) n k),(12,.i .i64 (n:Int)),(13,.i .i64 (m:Int))],a,[],[]⟩))=(E (156,([c,h],E 33)),dF 5 3 (dB f135) [],[(0,.s N 0 0),(1,c),(2,g),(3,f),(4,.s (E (2,0)) n k),(12,h),(13,.i .i64 (m:Int)),(14,.i .u64 (64-(↑(bitLen (p.getD b.toNat 0).toNat):Int))),(31,c),(32,h)],a,[lk [p.getD b.toNat 0],D (b.toNat<p.length),D (0<=b/\b<d)]):=I
abbrev wj(m n cu cv R C T:Nat)(H p L:List Int)(t y ty M w:es)(z:Int)(Q u P:Int)(S i v F x s:Bool)(u3 u4:List Int):Prop:=letI f:=(↑(m+n):Int);letI a:Int:=U.i64.wrap (f+(1:Int));letI b:Int:=U.i64.wrap ((m:Int)+(1:Int));letI g:Nat:=(0:Nat);letI c:V:=V.s (E (((6:Nat)),g)) (b.toNat) (dM b.toNat);letI l:=a.toNat;letI d:V:=V.s (E (((5:Nat)),g)) l (dM l);letI q:Nat:=(1:Nat);letI e:=V.p (E (q,g));letI r:Int:=(0:Int);letI h:=dC (lc (dM l) r) u4 g;letI j:V:=V.s (E (((4:Nat)),g)) n T;letI k:fw:=ep (gd 3) (P2 (gd 3) oK) A8;letI o:U:= .u64;(mW k (eC k f135.ntmps 200 [1,2,10,12,14,79,80,81,82] (dF 5 3 (dB f135) []) ⟨[(0,.s N 0 0),(1,.p (E (1,0))),(2,.s (E (0,0)) R C),(3,.s (E (0,0)) (m+n) cu),(4,.s (E (2,0)) n cv),(12,.i .i64 (n:Int)),(13,.i .i64 (m:Int)),(14,.i o Q),(33,.s (E (4,0)) n T)],[⟨.ws o H,t⟩,⟨.lit [.p N],y⟩,⟨.ws o p,ty⟩,⟨.lit [.i .i64 z],M⟩,⟨.ws o L,w⟩],[S,A,G],[]⟩))=((E (((157:Nat)),([c,e,d,j],(E ((83:Nat)))))),dF 17 5 (dB f135) [],[(q,e),(((2:Nat)),d),(((10:Nat)),c),(((12:Nat)),(V.i .i64 ((n:Int)))),(((14:Nat)),(V.i o u)),(((79:Nat)),c),(((80:Nat)),e),(((81:Nat)),d),(((82:Nat)),j)],[⟨eH.ws o H,t⟩,⟨eH.lit [(V.p N)],y⟩,⟨eH.ws o p,ty⟩,⟨eH.lit [(V.i .i64 z)],M⟩,⟨eH.ws o (dC L u3 g),w⟩,⟨eH.ws o (h.set f.toNat P),((137:es))⟩,⟨eH.ws o (lc (dM b.toNat) r),((137:es))⟩],[(D ((n:Int)<z)==G),Bool.true,(D (r<b/\b<=(1048000:Int))),Bool.true,Bool.true,(D (q=q/\f.toNat<h.length)),(D (r<=f/\f<(l:Int))),i,v,F,Bool.true,x,s,(D ((C:Int)<a/\a<=(1048000:Int))),Bool.true])
def JO(m n Q k w C T:Nat)(H p L:List Int)(t y ty M S:es)(z:Int):letI a:=(↑(m+n):Int);letI c:Nat:=(0:Nat);letI b:=(m+n).min (a.toNat-c);letI d:Nat:=dM (U.i64.wrap (a+(1:Int))).toNat;letI e:Int:=(0:Int);letI f:=n.min n;wj m n Q k w C T H p L t y ty M S z 0 e e G Bool.true (D (c+b<=H.length/\c+b<=(lc d e).length)) (D (e<=a/\a<=(d:Int))) (D (c+f<=p.length/\c+f<=L.length)) Bool.true (jp f (kw c p)) (jp b (kw c H)):=dR
def JX(m n Q k w C T:Nat)(s:Int)(H p L:List Int)(t y ty M S:es)(z:Int):letI b:=(↑(m+n):Int);letI c:Nat:=(0:Nat);letI a:=b.toNat-c;letI d:Int:=(0:Int);letI e:Nat:=dM (U.i64.wrap (b+(1:Int))).toNat;wj m n Q k w C T H p L t y ty M S z s s ((jc s (λj=>H.getD (c+j) d) a).snd) A (eb [(D (m+n=a/\c<a/\a<(4294967295:Nat)/\d<s/\s<(64:Int)/\c+(a)<=(lc e d).length/\c+(a)<=H.length/\dG H))]) (D (d<=b/\b<=(e:Int))) Bool.true (eb [(D (n=n/\c<n/\n<(4294967295:Nat)/\d<s/\s<(64:Int)/\c+n<=L.length/\c+n<=p.length/\dG p))]) ((s==d)==A) (row (jc s (λj=>p.getD (c+j) d) n).fst n) (row (jc s (λj=>H.getD (c+j) d) a).fst a):=dR
abbrev wD(m n Q x s C T:Nat)(H p L:List Int)(t y ty M q:es)(z:Int)(w u3:Int)(S o i v F r:Bool)(u u4:List Int):Prop:=letI a:Int:=U.i64.wrap ((m:Int)+1);letI d:=(↑(m+n):Int);letI b:Int:=U.i64.wrap (d+1);letI c:V:= .s (E (5,0)) (a.toNat) (dM a.toNat);letI e:V:= .s (E (0,0)) (b.toNat) C;letI f:V:= .p (E (1,0));letI g:V:= .s (E (4,0)) n T;letI h:fw:=ep (gd 3) (P2 (gd 3) qG) A8;letI j:dI:=⟨.lit [.i .i64 z],M⟩;letI k:dI:=⟨.ws .u64 p,ty⟩;letI l:dI:=⟨.lit [.p N],y⟩;(mW h (eC h f135.ntmps 200 [1,2,10,12,14,79,80,81,82] (dF 5 3 (dB f135) []) ⟨[(0,.s N 0 0),(1,f),(2,.s (E (0,0)) s C),(3,.s (E (0,0)) (m+n) Q),(4,.s (E (2,0)) n x),(12,.i .i64 (n:Int)),(13,.i .i64 (m:Int)),(14,.i .u64 w),(33,g)],[⟨.ws .u64 H,t⟩,l,k,j,⟨.ws .u64 L,q⟩],[S,A,G],[]⟩))=(E (157,([c,f,e,g],E 83)),dF 17 5 (dB f135) [],[(1,f),(2,e),(10,c),(12,.i .i64 (n:Int)),(14,.i .u64 w),(79,c),(80,f),(81,e),(82,g)],[⟨.ws .u64 ((dC H u 0).set d.toNat u3),t⟩,l,k,j,⟨.ws .u64 (dC L u4 0),q⟩,⟨.ws .u64 (lc (dM a.toNat) 0),137⟩],[D ((n:Int)<z)==G,G,D (0<a/\a<=1048000),G,G,D (1=1/\d.toNat<(dC H u 0).length),D (0<=d/\d<(↑(b).toNat:Int)),o,i,v,G,F,r,D (0<=b/\b<=(C:Int)),G])
def Lk(m n Q k w C T:Nat)(H p L:List Int)(t y ty M S:es)(z:Int):letI b:=(↑(m+n):Int);letI a:Nat:=(m+n).min (b.toNat-0);letI c:=n.min n;wD m n Q k w C T H p L t y ty M S z 0 0 G G (D (0+a<=H.length/\0+a<=H.length)) (D (0<=b/\b<=(C:Int))) (D (0+c<=p.length/\0+c<=L.length)) G (jp a (kw 0 H)) (jp c (kw 0 p)):=dR
def Lf(m n Q k w C T:Nat)(s:Int)(H p L:List Int)(t y ty M S:es)(z:Int):letI b:=(↑(m+n):Int);letI a:Nat:=b.toNat-0;letI c:Prop:=0+(a)<=H.length;wD m n Q k w C T H p L t y ty M S z s ((jc s (λj=>H.getD (0+j) 0) a).snd) A (eb [D (m+n=a/\0<a/\a<4294967295/\0<s/\s<64/\c/\c/\dG H)]) (D (0<=b/\b<=(C:Int))) G (eb [D (n=n/\0<n/\n<4294967295/\0<s/\s<64/\0+n<=L.length/\0+n<=p.length/\dG p)]) ((s==0)==A) (row (jc s (λj=>H.getD (0+j) 0) a).fst a) (row (jc s (λj=>p.getD (0+j) 0) n).fst n):=dR
abbrev wu(m n q l:Nat)(p L x C:List Int)(ty M c:es)(z:Int)(P:dI)(w S:Nat)(u:dI)(u3:List dI):Prop:=letI a:dE:=u::P::⟨.ws .u64 p,ty⟩::⟨.lit [.i .i64 z],M⟩::⟨.ws .u64 L,c⟩::u3;letI b:=ek a.length a;(gi f135.results.toList (et (ep (gd 3) (P2 (gd 3) qG) A8) f135.ntmps N 200 (dF 17 5 (dB f135) []) ⟨[(1,.p (E (1,0))),(2,.s (E (w,0)) (m+n+1) q),(10,.s (E (S,0)) (m+1) l),(14,.i .u64 0)],a,[A],[]⟩))=(G,E (.t [.s (E (S,0)) (gm (λj=>C.getD (0+j) 0) (m+1)) l,.s (E (w,0)) (gm (λj=>x.getD (0+j) 0) (m+n+1)) q]),a,[ed (D (m+n+1<4294967296/\0+(m+n+1)<=x.length/\m+n+1<=q)) b,G,ed (D (m+1<4294967296/\0+(m+1)<=C.length/\m+1<=l)) b])
def Ko(m n q l:Nat)(H p L x C:List Int)(t ty M S R T:es)(z:Int)(P:dI)(F:dE):wu m n q l p L x C ty M S z P 5 6 ⟨.ws .u64 H,t⟩ (⟨.ws .u64 x,R⟩::⟨.ws .u64 C,T⟩::F):=dR
abbrev wE(m n q l:Nat)(s:Int)(p L x C:List Int)(ty M i R:es)(z:Int)(P:dI)(w S:Nat)(u u4:dI)(u3 o:List dI):Prop:=letI f:dI:=⟨.ws .u64 p,ty⟩;letI e:dI:=⟨.lit [.i .i64 z],M⟩;letI g:dI:=⟨.ws .u64 L,i⟩;letI a:=u::P::f::e::g::u3;letI c:Nat:=m+n+1;letI b:List Int:=dC x (row (zS s (λj=>x.getD (0+j) 0) c).fst c) 0;letI d:dE:=a.set w ⟨.ws .u64 b,R⟩;letI h:Prop:=0+(c)<=x.length;(gi f135.results.toList (et (ep (gd 3) (P2 (gd 3) qG) A8) f135.ntmps N 200 (dF 17 5 (dB f135) []) ⟨[(1,.p (E (1,0))),(2,.s (E (w,0)) c q),(10,.s (E (S,0)) (m+1) l),(14,.i .u64 s)],a,[G],[]⟩))=(G,E (.t [.s (E (S,0)) (gm (λj=>C.getD (0+j) 0) (m+1)) l,.s (E (w,0)) (gm (λj=>b.getD (0+j) 0) c) q]),u4::P::f::e::g::o,[ed (D (c<4294967296/\0+(c)<=b.length/\c<=q)) (ek d.length d),eb [ed (D (c=c/\0<c/\c<4294967295/\0<s/\s<64/\h/\h/\dG x)) (oU a (w,0) (w,0))],(s !=0)==G,ed (D (m+1<4294967296/\0+(m+1)<=C.length/\m+1<=l)) (ek a.length a)])
def Kz(m n q r:Nat)(s:Int)(H p L x C:List Int)(t ty M S R T:es)(z:Int)(P:dI)(F:dE):letI a:dE:=⟨.ws .u64 C,T⟩::F;letI b:dI:=⟨.ws .u64 H,t⟩;wE m n q r s p L x C ty M S R z P 5 6 b b (⟨.ws .u64 x,R⟩::a) (⟨.ws .u64 (dC x (row (zS s (λj=>x.getD (0+j) 0) (m+n+1)).fst (m+n+1)) 0),R⟩::a):=dR
def JL(m n q l:Nat)(p L x C:List Int)(ty M S R T:es)(z:Int)(P:dI)(F:dE):wu m n q l p L x C ty M S z P 0 5 ⟨.ws .u64 x,R⟩ (⟨.ws .u64 C,T⟩::F):=dR
def KD(m n q l:Nat)(s:Int)(p L x C:List Int)(ty M S R T:es)(z:Int)(P:dI)(F:dE):letI a:dE:=⟨.ws .u64 C,T⟩::F;wE m n q l s p L x C ty M S R z P 0 5 ⟨.ws .u64 x,R⟩ ⟨.ws .u64 (dC x (row (zS s (λj=>x.getD (0+j) 0) (m+n+1)).fst (m+n+1)) 0),R⟩ a a:=dR
abbrev zu(R:Nat->Option Nat)(a b c d:Int)(m:dE)(w:List Bool)(S u3:Bool)(u:(List Bool->List Bool)):Prop:=(qW (ep R [] []) f182.ntmps N 100 (dB f182) f182.results.toList [.i .u64 a,.i .u64 b,.i .u64 c,.i .u64 d] m w)=(E (.b S,(m,(u [D (a>c)==u3]))))
def aDw(R:Nat->Option Nat)(a b c d:Int)(m:dE):zu R a b c d m [G] G G (λS=>S):=dR
def awl(R:Nat->Option Nat)(a b c d:Int)(m:dE):zu R a b c d m [A,G] (D (b>d)) A (λS=>((a==c)==G)::S):=dR
def axp(R:Nat->Option Nat)(a b c d:Int)(m:dE):zu R a b c d m [A,A] A A (λS=>((a==c)==A)::S):=dR
def QJ(y:es)(n:Nat):letI a:V:= .i .i64 (n:Int);letI b:dE:=[⟨.lit [.p N],y⟩];letI c:fw:=ep (λ_=>N) [] [];(match eC c f156.ntmps 200 [1,15] [.code (dB f156)] ⟨fo 0 [.p (E (0,0)),.i .i64 (n:Int)],b,[G,G],[]⟩with|(v,T,q,R)=>(rv c v T,T,q,R))=(E (180,([.s N 0 0,a],E 16)),[(1,a),(15,a)],b,[D ((n:Int)<=4)==G,G,G]):=I
def Py(y:es)(n T:Nat):letI a:Int:=(0:Int);letI b:Nat:=(0:Nat);letI c:=(n:Int);letI d:V:= .i .i64 (n:Int);letI e:dI:=⟨.lit [.p N],y⟩;letI f:fw:=ep (λ_=>N) [] [];letI g:=lc T a;(gi f156.results.toList (et f f156.ntmps N 200 (iF (eC f f156.ntmps 200 [1,15] [.code (dB f156)] ⟨(fo 0 [.p (E (0,0)),d]),[e],[G,G],[]⟩).1) ⟨[(1,d),(15,d),(16,.s (E (1,0)) 0 T)],[e,⟨.ws .u64 (lc T 0),137⟩],[G],[]⟩))=(Bool.true,(E (V.s (E (((1:Nat)),b)) (c.toNat-b) (T-b))),[⟨eH.lit [(V.p N)],y⟩,⟨eH.ws .u64 (g.set b (11259375:Int)),((137:es))⟩],[(D ((1:Nat)=(1:Nat)/\b<g.length)),(D (a<=a/\a<(↑(c.toNat-b):Int))),(D (c>a)==G),(D (a<=c/\c<=(T:Int)))]):=I
def WM(t y:es):letI b:V:= .p (E (1,0));letI d:V:= .s N 0 0;letI a:dE:=[⟨.lit [b],y⟩,⟨.lit [d],t⟩];letI c:fw:=ep (λ_=>N) [] [];letI e:V:= .i .i64 8;(match eC c f181.ntmps 200 [0,1,5,6,16,20,21] [.code (dB f181)] ⟨fo 0 [b,.i .i64 5],a,[],[]⟩with|(v,T,q,R)=>(rv c v T,T,q,R))=(E (198,([d,e],E 22)),[(0,b),(1,.i .i64 5),(5,e),(6,.i .i64 0),(16,b),(20,d),(21,e)],a,[G,G,G]):=I
def Yt(t y:es)(T:Nat):letI a:V:= .p (E (1,0));letI b:Nat:=(0:Nat);letI c:Int:=(0:Int);letI d:Int:=(5:Int);letI e:dI:=⟨.lit [.s N 0 0],t⟩;letI f:fw:=ep (λ_=>N) [] [];letI g:=lc T c;(gi f181.results.toList (et f f181.ntmps N 200 (iF (eC f f181.ntmps 200 [0,1,5,6,16,20,21] [.code (dB f181)] ⟨(fo 0 [a,.i .i64 5]),[⟨.lit [a],y⟩,e],[],[]⟩).1) ⟨[(0,a),(1,.i .i64 5),(5,.i .i64 8),(6,.i .i64 0),(16,a),(20,.s N 0 0),(21,.i .i64 8),(22,.s (E (2,0)) 0 T)],[⟨.lit [a],y⟩,e,⟨.ws .u64 (lc T 0),137⟩],[],[]⟩))=(Bool.true,(E (V.s (E (((2:Nat)),b)) ((5:Nat)) ((5:Nat)))),[⟨eH.lit [(V.p (E (((1:Nat)),b)))],y⟩,⟨eH.lit [(V.s (E (((2:Nat)),b)) ((8:Nat)) (T-b))],t⟩,⟨eH.ws .u64 (g.set b (1043915:Int)),((137:es))⟩],[(D ((1:Nat)=(1:Nat)/\b<g.length)),Bool.true,(D (c<=c/\c<=d/\d<=d/\d<=(↑(T-b):Int)/\c<d)),Bool.true,Bool.true,(D (c<=(8:Int)/\(8:Int)<=(T:Int))),Bool.true,Bool.true]):=I
def aaj(y:es):letI a:V:= .p (E (1,0));letI b:V:= .i .i64 5;letI c:fw:=ep (λ_=>N) [] [];(match eC c f156.ntmps 200 [0,1,5,30,31] [.code (dB f156)] ⟨fo 0 [.p (E (0,0)),b],[⟨.lit [.p N],y⟩],[G],[]⟩with|(v,T,q,R)=>(rv c v T,T,q,R))=(E (181,([a,b],E 32)),[(0,.p (E (0,0))),(1,b),(5,a),(30,a),(31,b)],[⟨.lit [a],y⟩,⟨.lit [.s N 0 0],219⟩],[G,G,G]):=I
def Yb(y:es)(T:Nat):letI b:V:= .p (E (1,0));letI a:dE:=[⟨.lit [b],y⟩,⟨.lit [.s (E (2,0)) 8 T],219⟩,⟨.ws .u64 ((lc T 0).set 0 1043915),137⟩];letI c:fw:=ep (λ_=>N) [] [];letI d:V:= .i .i64 5;(gi f156.results.toList (et c f156.ntmps N 200 (iF (eC c f156.ntmps 200 [0,1,5,30,31] [.code (dB f156)] ⟨fo 0 [.p (E (0,0)),d],[⟨.lit [.p N],y⟩],[G],[]⟩).1) ⟨[(0,.p (E (0,0))),(1,d),(5,b),(30,b),(31,d),(32,.s (E (2,0)) 5 5)],a,[],[]⟩))=(G,E (.s (E (2,0)) 5 5),a,[]):=I
def zz:ji B (ep (λ_=>N) [] []):=gy dD dD
def sf:eo B 156:=ga f156
def Of:eo B 180:=ga f180
def Pa:eo B 181:=ga f181
def Om:eo B 198:=ga f198
def pj(y:es)(n:Nat)(C:0<n)(x:n<=4):letI a:dI:=⟨.lit [.p N],y⟩;eM B (λ_=>N) 156 [.p (E (0,0)),.i .i64 (n:Int)] [a]
      (λr u=> ∃T,n<=T/\r= .s (E (1,0)) n T/\u=[a,⟨.ws .u64 ((lc T 0).set 0 11259375),137⟩]):=by
  refine dL _ f156 (Ev.call (eB zz) 200 [G,G] [1,15] _ (QJ y n) ?_ K K Of (RY _ _ n C O) K ?_)
  .simp only[dK,dJ,eu,ew,Nat.reduceAdd,Nat.reduceLT];omega
  rintro r u⟨T,f,rfl,rfl⟩_;refine⟨_,K,?_⟩;have m:T-0=T:=jo T;have e:=Py y n T
  try rw[m]at e
  refine Ev.done (fn:=f156) (eB zz) (j:=200) (z:=[G]) e ?_ ?_
  .simp only[dK,dJ,eu,ew,Nat.reduceAdd,Nat.reduceLT];omega
  .exact⟨T,f,K,K⟩
def QC(t y:es):letI a:dI:=⟨.lit [.p (E (1,0))],y⟩;eM B (λ_=>N) 181 [.p (E (1,0)),.i .i64 5] [a,⟨.lit [.s N 0 0],t⟩]
      (λr u=> ∃T,8<=T/\r= .s (E (2,0)) 5 5/\u=[a,⟨.lit [.s (E (2,0)) 8 T],t⟩,⟨.ws .u64 ((lc T 0).set 0 1043915),137⟩]):=by
  refine dL _ f181 (Ev.call (eB zz) 200 [] [0,1,5,6,16,20,21] _ (WM t y) ?_ K K Om (Ug _ _ 8 O O) K ?_)
  .simp only[dK,dJ,eu,ew,Nat.reduceAdd,Nat.reduceLT]
  rintro r u⟨T,f,rfl,rfl⟩_;refine⟨_,K,?_⟩;have m:T-0=T:=jo T;have e:=Yt t y T;rw[m]at e;refine Ev.done (fn:=f181) (eB zz) (j:=200) (z:=[]) e ?_ ?_
  .simp only[dK,dJ,eu,ew,Nat.reduceAdd,Nat.reduceLT];omega
  .exact⟨T,f,K,K⟩
def PN(y:es):
    eM B (λ_=>N) 156 [.p (E (0,0)),.i .i64 5] [⟨.lit [.p N],y⟩]
     (λr u=> ∃T,8<=T/\r= .s (E (2,0)) 5 5/\u=[⟨.lit [.p (E (1,0))],y⟩,⟨.lit [.s (E (2,0)) 8 T],219⟩,⟨.ws .u64 ((lc T 0).set 0 1043915),137⟩]):=by
  refine dL _ f156 (Ev.call (eB zz) 200 [G] [0,1,5,30,31] _ (aaj y) ?_ K K Pa (QC 219 y) K ?_)
  .simp only[dK,dJ,eu,ew,Nat.reduceAdd,Nat.reduceLT]
  rintro r u⟨T,f,rfl,rfl⟩_;refine⟨_,K,?_⟩;refine Ev.done (fn:=f156) (eB zz) (j:=200) (z:=[]) (Yb y T) ?_ ?_
  .simp only[dK,dJ,eu,ew,Nat.reduceAdd,Nat.reduceLT]
  .exact⟨T,f,K,K⟩
def Kv:List Int->V
  |[a,b,c,d]=> .b (D (c<a∨(a=c/\d<b)))
  |_=> .t []
def aDq:List Int->Bool:=λ_=>G
abbrev aoo:QF:=yG [.u64,.u64,.u64,.u64] Kv aDq
def L5(R:Nat->Option Nat):oR B R 182 aoo:=by
  refine mJ (L:=[]) (q:=[]) dD dD (fn:=f182) (c:=dB f182) I I 100 ?_;intro l m f h
  match l,f with
  |[a,b,c,d],_=>
   by_cases M:c<a
   .rw [show Kv [a,b,c,d]= .b G by simp[Kv,M]];refine⟨_,_,aDw R a b c d m,?_⟩;simp only[dK,dJ,eu,ew,Nat.reduceAdd,Nat.reduceLT];omega
   .by_cases S:a=c
    .subst S;rw[show Kv [a,b,a,d]= .b (D (b>d))by simp[Kv]];refine⟨_,_,awl R a b a d m,?_⟩;simp only[dK,dJ,eu,ew,Nat.reduceAdd,Nat.reduceLT];simp
    .rw [show Kv [a,b,c,d]= .b A by simp[Kv,M,S]];refine⟨_,_,axp R a b c d m,?_⟩;simp only[dK,dJ,eu,ew,Nat.reduceAdd,Nat.reduceLT];simp[S];omega
def tZ(i:Nat):Code->Bool
  | .seq a b=>tZ i a||tZ i b
  | .cond _ a b=>tZ i a||tZ i b
  | .block id a=>Nat.beq id i||tZ i a
  | .loop a=>tZ i a
  |_=>A
def behind(i:Nat):Code->List Item->List Item
  | .seq a b,k=>bif tZ i a then behind i a (.code b::k)else behind i b k
  | .cond _ a b,k=>bif tZ i a then behind i a k else behind i b k
  | .block id a,k=>bif Nat.beq id i then k else behind i a (.inBlock id::k)
  | .loop a,k=>behind i a (.inLoop a::k)
  |_,k=>k
def Zj:Code->List Item->List Item
  | .seq a b,k=>Zj a (.code b::k)
  |c,k=> .code c::k
def auy:List Item->List Item
  | .code c::k=>Zj c k
  |t=>t
noncomputable abbrev TO:List Item:=gQ (dB f157) 0 []
noncomputable abbrev TI:List Item:=gQ (dB f157) 1 []
def inR(i:Nat):List Item->List Item
  | .code (.region _ T _)::k=> .inRegion T ((List.range T.size).drop i)::k
  |t=>t
noncomputable abbrev TT:List Item:=inR 7 (auy (behind 2 (dB f157) []))
abbrev QD:List (Nat×QF):=(176,Vt)::(182,aoo)::LQ
abbrev CD:fw:=ep (λ_=>N) LV QD
abbrev CE:fw:=ep (λ_=>N) [] QD
def awd(M n p Q k s j:Nat)(y r u:Int)(C x L v:List Int)(T R S z:es)(P:dI)(F:dE):letI g:U:= .u64;letI a:dE:=⟨.ws g C,T⟩::P::⟨.ws g x,R⟩::⟨.ws g L,S⟩::⟨.ws g v,z⟩::F;letI b:V:= .s (E (4,0)) (n+1) s;letI c:V:= .i g 18446744073709551615;letI d:V:= .s (E (3,0)) n k;letI e:=(n:Int);letI f:V:= .s (E (2,0)) (M+n) Q;(oS (eC CE f157.ntmps 200 [0,1,2,3,8,9,10,11,12,14,15,105,106,109,110,111] TO ⟨[(0,.s (E (0,0)) M p),(1,.p (E (1,0))),(2,f),(3,d),(8,.i .i64 (n:Int)),(9,.i .i64 (M:Int)),(10,b),(11,.i g y),(12,.i g r),(13,.i g u),(14,.i .i64 (j:Int))],a,[G,A],[]⟩))=(TT,[(0,.s (E (0,0)) M p),(1,.p (E (1,0))),(2,f),(3,d),(8,.i .i64 e),(9,.i .i64 (M:Int)),(10,b),(11,.i g y),(12,.i g r),(14,.i .i64 (j:Int)),(15,c),(105,b),(106,.i .i64 e),(109,.s (E (4,0)) (e.toNat-0) (s-0)),(110,d),(111,c)],a,[D (0<=e/\e<=(s:Int)),(u !=y)==A,G]):=I
def Zm(M n p Q i s j:Nat)(y r u:Int)(C x L v:List Int)(T R S z:es)(P:dI)(F:dE):letI l:=(n:Int);letI g:=U.i64.wrap ((j:Int)+l);letI a:Int:=U.i64.wrap (g-1);letI f:Int:=18446744073709551616;letI b:Int:=u*f+x.getD a.toNat 0;letI c:Int:=U.i64.wrap (g-2);letI d:Int:=U.i64.wrap (l-2);letI h:U:= .u64;letI e:dE:=⟨.ws h C,T⟩::P::⟨.ws h x,R⟩::⟨.ws h L,S⟩::⟨.ws h v,z⟩::F;letI m:=d.toNat;letI k:Int:=b/y*L.getD m (0:Int);letI o:V:= .s (E (2,0)) (M+n) Q;letI q:V:= .s (E (4,0)) (n+1) s;letI t:=(↑(M+n):Int);(oS (eC CE f157.ntmps 200 [0,1,2,3,8,9,10,11,12,14,15,16,17,18,19,20] TO ⟨[(0,.s (E (0,0)) M p),(1,.p (E (1,0))),(2,o),(3,.s (E (3,0)) n i),(8,.i .i64 (n:Int)),(9,.i .i64 (M:Int)),(10,q),(11,.i h y),(12,.i h r),(13,.i h u),(14,.i .i64 (j:Int))],e,[G,G],[]⟩))=(TI,[(0,.s (E (0,0)) M p),(1,.p (E (1,0))),(2,o),(3,.s (E (3,0)) n i),(8,.i .i64 l),(9,.i .i64 (M:Int)),(10,q),(11,.i h y),(12,.i h r),(14,.i .i64 (j:Int)),(15,.i h (b/y)),(16,.i h ((b)%y)),(17,.i h (L.getD m 0)),(18,.i h (k/f)),(19,.i h (k%f)),(20,.i h (x.getD c.toNat 0))],e,[D (c.toNat<x.length),D (0<=c/\c<t),m6 [(b)/y,L.getD m 0],D (m<L.length),D (0<=d/\d<l),DL [u,x.getD a.toNat 0,y,r],D (a.toNat<x.length),D (0<=a/\a<t),(u !=y)==G,G]):=I
abbrev AL(M n p Q k s j:Nat)(y r q h m H f u:Int)(C x L v:List Int)(T R g z:es)(P:dI)(F:dE)(w:Bool)(S:Int):Prop:=letI b:U:= .u64;letI a:dE:=⟨.ws b C,T⟩::P::⟨.ws b x,R⟩::⟨.ws b L,g⟩::⟨.ws b v,z⟩::F;letI c:V:= .s (E (2,0)) (M+n) Q;letI d:V:= .s (E (4,0)) (n+1) s;letI e:=U.u64.wrap (h+y);(oS (eC CE f157.ntmps 200 [0,1,2,3,8,9,10,11,12,14,15,16,17,18,19,20] TI ⟨[(0,.s (E (0,0)) M p),(1,.p (E (1,0))),(2,c),(3,.s (E (3,0)) n k),(8,.i .i64 (n:Int)),(9,.i .i64 (M:Int)),(10,d),(11,.i b y),(12,.i b r),(14,.i .i64 (j:Int)),(15,.i b q),(16,.i b h),(17,.i b m),(18,.i b H),(19,.i b f),(20,.i b u)],a,[G,A,w],[]⟩))=(TI,[(0,.s (E (0,0)) M p),(1,.p (E (1,0))),(2,c),(3,.s (E (3,0)) n k),(8,.i .i64 (n:Int)),(9,.i .i64 (M:Int)),(10,d),(11,.i b y),(12,.i b r),(14,.i .i64 (j:Int)),(15,.i b (U.u64.wrap (q-1))),(16,.i b e),(17,.i b m),(18,.i b S),(19,.i b (U.u64.wrap (f-m))),(20,.i b u)],a,[D (m>f)==w,D (e<y)==A,D (h<H∨H=h/\u<f)==G,G])
def acu(M n p Q k s j:Nat)(y r q h m H w u:Int)(C x L v:List Int)(T R S z:es)(P:dI)(F:dE):AL M n p Q k s j y r q h m H w u C x L v T R S z P F G (U.u64.wrap (H-1)):=dR
def agv(M n p Q k s j:Nat)(y r q h m H w u:Int)(C x L v:List Int)(T R S z:es)(P:dI)(F:dE):AL M n p Q k s j y r q h m H w u C x L v T R S z P F A H:=dR
abbrev Ac(M n p Q k s j:Nat)(y r q h m H g u:Int)(C x L v:List Int)(T R i z:es)(P:dI)(F:dE)(w:List Bool)(S:Int)(u3:(List Bool->List Bool))(u4:Bool):Prop:=letI c:U:= .u64;letI a:dE:=⟨.ws c C,T⟩::P::⟨.ws c x,R⟩::⟨.ws c L,i⟩::⟨.ws c v,z⟩::F;letI b:V:= .s (E (4,0)) (n+1) s;letI d:V:= .s (E (3,0)) n k;letI e:V:= .s (E (2,0)) (M+n) Q;letI f:=(n:Int);(oS (eC CE f157.ntmps 200 [0,1,2,3,8,9,10,11,12,14,15,105,106,109,110,111] TI ⟨[(0,.s (E (0,0)) M p),(1,.p (E (1,0))),(2,e),(3,d),(8,.i .i64 (n:Int)),(9,.i .i64 (M:Int)),(10,b),(11,.i c y),(12,.i c r),(14,.i .i64 (j:Int)),(15,.i c q),(16,.i c h),(17,.i c m),(18,.i c H),(19,.i c g),(20,.i c u)],a,w,[]⟩))=(TT,[(0,.s (E (0,0)) M p),(1,.p (E (1,0))),(2,e),(3,d),(8,.i .i64 f),(9,.i .i64 (M:Int)),(10,b),(11,.i c y),(12,.i c r),(14,.i .i64 (j:Int)),(15,.i c S),(105,b),(106,.i .i64 f),(109,.s (E (4,0)) (f.toNat-0) (s-0)),(110,d),(111,.i c S)],a,(u3 [D (h<H∨H=h/\u<g)==u4,G]))
def aeq(M n p Q k s j:Nat)(y r q h m H w u:Int)(C x L v:List Int)(T R a z:es)(P:dI)(F:dE):Ac M n p Q k s j y r q h m H w u C x L v T R a z P F [G,G] (U.u64.wrap (q-1)) (λS=>D (0<=(n:Int)/\(n:Int)<=(s:Int))::(D (U.u64.wrap (h+y)<y)==G)::S) G:=dR
def Gr(M n p Q k s j:Nat)(y r q h m H w u:Int)(C x L v:List Int)(T R a z:es)(P:dI)(F:dE):Ac M n p Q k s j y r q h m H w u C x L v T R a z P F [A] q (λS=>D (0<=(n:Int)/\(n:Int)<=(s:Int))::S) A:=dR
def atg(M n cq cu cv ch j:Nat)(y r q:Int)(qs P Q hs:List Int)(tq tu tv T:es)(sb:dI)(s:dE):letI w:U:= .u64;letI F:dI:=⟨.ws w Q,tv⟩;letI e:dE:=⟨.ws w qs,tq⟩::sb::⟨.ws w P,tu⟩::F::⟨.ws w hs,T⟩::s;letI l:List Int×Int:=jX q 0 (jp n (kw 0 Q));letI R:List Int:=dC hs l.fst 0;letI v:=(n:Int);letI d:=R.set v.toNat l.snd;letI p:dI:=⟨.ws w d,T⟩;letI a:dE:=(e.set 4 ⟨.ws w R,T⟩).set 4 p;letI f:=(j:Int);letI m:Int:=(↑(n+1):Int);letI c:=U.i64.wrap (f+m);letI S:=f.toNat;letI h:=c.toNat-S;letI g:Nat:=eO 0 cu S 1;letI b:List Int×Int:=jQ 0 (jp h (kw g P)) (jp h (kw 0 d));letI k:Int:=U.i64.wrap (U.i64.wrap (f+v)-1);letI o:Bool:=ed (D (0<=c/\c<=(cu:Int))) (D (0<=f/\f<=(↑(c).toNat:Int)));letI t:V:= .s (E (4,0)) (n+1) ch;letI u:=dC P b.fst g;letI x:V:= .s (E (3,0)) n cv;letI z:=ek a.length a;letI C:=g+(h)<=P.length;letI i:V:= .s (E (2,0)) (M+n) cu;letI H:=(↑(M+n):Int);letI L:=(M:Int);(oS (eC CD f157.ntmps 200 [0,1,2,3,8,9,10,11,12,13,14] TT ⟨[(0,.s (E (0,0)) M cq),(1,.p (E (1,0))),(2,i),(3,x),(8,.i .i64 (n:Int)),(9,.i .i64 (M:Int)),(10,t),(11,.i w y),(12,.i w r),(14,.i .i64 (j:Int)),(15,.i w q),(105,t),(106,.i .i64 (n:Int)),(109,.s (E (4,0)) n ch),(110,x),(111,.i w q)],e,[A,A,A,A,A,A],[]⟩))=(TO,[(0,.s (E (0,0)) M cq),(1,.p (E (1,0))),(2,i),(3,x),(8,.i .i64 v),(9,.i .i64 L),(10,t),(11,.i w y),(12,.i w r),(13,.i w (u.getD k.toNat 0)),(14,.i .i64 (U.i64.wrap (f-1)))],⟨.ws w (qs.set S q),tq⟩::sb::⟨.ws w u,tu⟩::F::p::s,[D (1=1/\S<qs.length),D (0<=f/\f<L),G,G,(f==L)==A,D (k.toNat<u.length),D (0<=k/\k<H),(b.snd !=0)==A,ed (D (h=h/\m.toNat-0=h/\h<4294967296/\C/\C/\0+(h)<=d.length/\dG P/\dG d)) (bif Nat.beq 2 4 then A else bif Nat.beq 2 2 then ed (D (g<=g)) (z)else bif Nat.beq 2 4 then ed (D (g<=0)) (z)else z),D (0<=m/\m<=(ch:Int)),o,o,G,D (c>H)==A,G,G,D (1=1/\v.toNat<R.length),D (0<=v/\v<m),ed (D (n=n/\n<4294967296/\0+n<=hs.length/\0+n<=Q.length/\dG Q/\gn q/\gn 0)) (bif Nat.beq 4 3 then A else ek e.length e)]):=I
def aLx(M n cq cu cv ch j:Nat)(y r q:Int)(qs us vs hs:List Int)(tq tu tv th:es)(sb:dI)(ae:dE):letI o:=(j:Int);letI w:Int:=(↑(n+1):Int);letI e:=U.i64.wrap (o+w);letI g:=o.toNat;letI u:=e.toNat-g;letI k:Nat:=eO 0 cu g 1;letI t:List Int×Int:=jX q 0 (jp n (kw 0 vs));letI Q:List Int:=dC hs t.fst 0;letI F:=(n:Int);letI f:=Q.set F.toNat t.snd;letI ad:List Int×Int:=jQ 0 (jp u (kw k us)) (jp u (kw 0 f));letI a:=dC us ad.fst k;letI aa:U:= .u64;letI i:dI:=⟨.ws aa vs,tv⟩;letI h:dE:=⟨.ws aa qs,tq⟩::sb::⟨.ws aa us,tu⟩::i::⟨.ws aa hs,th⟩::ae;letI X:dI:=⟨.ws aa f,th⟩;letI b:dE:=(h.set 4 ⟨.ws aa Q,th⟩).set 4 X;letI d:=U.i64.wrap (o+F);letI v:=d.toNat;letI W:=v-g;letI c:List Int×Int:=gP 0 (jp W (kw k a)) (jp W (kw 0 vs));letI z:=dC a c.fst k;letI l:List Int:=z.set v (U.u64.wrap (z.getD v 0+c.snd));letI m:dE:=b.set 2 ⟨.ws aa a,tu⟩;letI x:Bool:=ed (D (0<=e/\e<=(cu:Int))) (D (0<=o/\o<=(↑(e).toNat:Int)));letI ac:Bool:=ed (D (0<=d/\d<=(cu:Int))) (D (0<=o/\o<=(v:Int)));letI C:=(↑(M+n):Int);letI ab:Int:=U.i64.wrap (d-1);letI H:V:= .s (E (4,0)) (n+1) ch;letI L:V:= .s (E (3,0)) n cv;letI s:=ek m.length m;letI P:=ek b.length b;letI R:=k+(W)<=a.length;letI S:=k+(u)<=us.length;letI T:V:= .s (E (2,0)) (M+n) cu;letI p:Nat:=4294967296;letI Z:=(M:Int);(oS (eC CD f157.ntmps 200 [0,1,2,3,8,9,10,11,12,13,14] TT ⟨[(0,.s (E (0,0)) M cq),(1,.p (E (1,0))),(2,T),(3,L),(8,.i .i64 (n:Int)),(9,.i .i64 (M:Int)),(10,H),(11,.i aa y),(12,.i aa r),(14,.i .i64 (j:Int)),(15,.i aa q),(105,H),(106,.i .i64 (n:Int)),(109,.s (E (4,0)) n ch),(110,L),(111,.i aa q)],h,[A,A,G,G,A,A,A],[]⟩))=(TO,[(0,.s (E (0,0)) M cq),(1,.p (E (1,0))),(2,T),(3,L),(8,.i .i64 F),(9,.i .i64 Z),(10,H),(11,.i aa y),(12,.i aa r),(13,.i aa (l.getD ab.toNat 0)),(14,.i .i64 (U.i64.wrap (o-1)))],⟨.ws aa (qs.set g (U.u64.wrap (q-1))),tq⟩::sb::⟨.ws aa l,tu⟩::i::X::ae,[D (1=1/\g<qs.length),D (0<=o/\o<Z),G,G,(o==Z)==A,D (ab.toNat<l.length),D (0<=ab/\ab<C),D (1=1/\v<z.length),D (0<=d/\d<C),D (v<z.length),D (0<=d/\d<C),D (F<w)==G,ed (D (W=W/\n=W/\W<p/\R/\R/\0+(W)<=vs.length/\dG a/\dG vs)) (bif Nat.beq 2 3 then A else bif Nat.beq 2 2 then ed (D (k<=k)) (s)else bif Nat.beq 2 3 then ed (D (k<=0)) (s)else s),ac,ac,(ad.snd !=0)==G,ed (D (u=u/\w.toNat-0=u/\u<p/\S/\S/\0+(u)<=f.length/\dG us/\dG f)) (bif Nat.beq 2 4 then A else bif Nat.beq 2 2 then ed (D (k<=k)) (P)else bif Nat.beq 2 4 then ed (D (k<=0)) (P)else P),D (0<=w/\w<=(ch:Int)),x,x,G,D (e>C)==A,G,G,D (1=1/\F.toNat<Q.length),D (0<=F/\F<w),ed (D (n=n/\n<p/\0+n<=hs.length/\0+n<=vs.length/\dG vs/\gn q/\gn 0)) (bif Nat.beq 4 3 then A else ek h.length h)]):=I
def aEz(M n cq cu cv ch j:Nat)(y r q:Int)(qs T vs hs:List Int)(tq tu tv th:es)(sb:dI)(Q:dE):letI x:U:= .u64;letI p:dI:=⟨.ws x qs,tq⟩;letI L:dI:=⟨.ws x vs,tv⟩;letI e:dE:=p::sb::⟨.ws x T,tu⟩::L::⟨.ws x hs,th⟩::Q;letI l:List Int×Int:=jX q 0 (jp n (kw 0 vs));letI S:List Int:=dC hs l.fst 0;letI o:=(n:Int);letI i:=o.toNat;letI c:=S.set i l.snd;letI P:dI:=⟨.ws x c,th⟩;letI a:dE:=(e.set 4 ⟨.ws x S,th⟩).set 4 P;letI f:=(j:Int);letI u:Int:=(↑(n+1):Int);letI m:Int:=U.i64.wrap (u-1);letI b:=U.i64.wrap (f+m);letI h:=b.toNat-f.toNat;letI g:Nat:=eO 0 cu f.toNat 1;letI d:List Int×Int:=jQ 0 (jp h (kw g T)) (jp h (kw 0 c));letI k:Int:=U.i64.wrap (U.i64.wrap (f+o)-1);letI t:Bool:=ed (D (0<=b/\b<=(cu:Int))) (D (0<=f/\f<=(↑(b).toNat:Int)));letI v:V:= .s (E (4,0)) (n+1) ch;letI w:=dC T d.fst g;letI z:V:= .s (E (3,0)) n cv;letI R:=ek a.length a;letI C:=(M:Int);letI F:=g+(h)<=T.length;letI H:V:= .s (E (2,0)) (M+n) cu;letI s:=(↑(M+n):Int);(oS (eC CD f157.ntmps 200 [0,1,2,3,8,9,10,11,12,13,14] TT ⟨[(0,.s (E (0,0)) M cq),(1,.p (E (1,0))),(2,H),(3,z),(8,.i .i64 (n:Int)),(9,.i .i64 (M:Int)),(10,v),(11,.i x y),(12,.i x r),(14,.i .i64 (j:Int)),(15,.i x q),(105,v),(106,.i .i64 (n:Int)),(109,.s (E (4,0)) n ch),(110,z),(111,.i x q)],e,[G,G,A,G,G,G],[]⟩))=(TO,[(0,.s (E (0,0)) M cq),(1,.p (E (1,0))),(2,H),(3,z),(8,.i .i64 o),(9,.i .i64 C),(10,v),(11,.i x y),(12,.i x r),(13,.i x (w.getD k.toNat 0)),(14,.i .i64 (U.i64.wrap (f-1)))],p::sb::⟨.ws x w,tu⟩::L::P::Q,[(q==0)==G,(C==C)==G,G,(f==C)==G,D (k.toNat<w.length),D (0<=k/\k<s),(d.snd !=0)==A,ed (D (h=h/\(m).toNat-0=h/\h<4294967296/\F/\F/\0+(h)<=c.length/\dG T/\dG c)) (bif Nat.beq 2 4 then A else bif Nat.beq 2 2 then ed (D (g<=g)) (R)else bif Nat.beq 2 4 then ed (D (g<=0)) (R)else R),D (0<=m/\m<=(ch:Int)),t,t,(c.getD i (0:Int)==0)==G,D (i<c.length),D (0<=o/\o<u),D (U.i64.wrap (f+u)>s)==G,G,G,D (1=1/\i<S.length),D (0<=o/\o<u),ed (D (n=n/\n<4294967296/\0+n<=hs.length/\0+n<=vs.length/\dG vs/\gn q/\gn 0)) (bif Nat.beq 4 3 then A else ek e.length e)]):=I
end Go.Proofs.YtiggidfngfkanaaGreatDoor
