/- FnPacked, part 17. No condition. -/
import Derived.Test.YtiggidfngfkanaaGreatDoorWK1
import Derived.Test.YtiggidfngfkanaaGreatDoorWK2
import Derived.Test.YtiggidfngfkanaaGreatDoorWK3
import Derived.Test.YtiggidfngfkanaaGreatDoorWK4
import Derived.Test.YtiggidfngfkanaaGreatDoorWK5
import Derived.Test.YtiggidfngfkanaaGreatDoorWK6
import Derived.Test.YtiggidfngfkanaaGreatDoorWK7
import Derived.Test.YtiggidfngfkanaaGreatDoorWK8
namespace Go.Proofs.YtiggidfngfkanaaGreatDoor
open Go Go.Proofs.Tryz
set_option maxRecDepth 100000
set_option maxHeartbeats 4000000
set_option linter.all false
set_option exponentiation.threshold 9999
open Bool renaming false->A, true->G
open Decidable renaming decide->D
open Go renaming IntKind->U, TypeId->es, Value->ip
open Go.Proofs.Tryz renaming prog->B
open List renaming drop->kw, replicate->lc
open Option renaming none->N, some->E
variable{H p:List Int}{o v:Nat}
def aer{c:Nat}(s:c<255):dQ (c+1)=G:=by
  have g: ∀(b n:Nat),(∀d,d<n->dQ (b+d)=G)->b<=c+1->c+1<b+n->dQ (c+1)=G:=λb n h M S=>by
    have:=h (c+1-b) O
    rwa [(O:b+(c+1-b)=c+1)]at this
  have:c+1<32∨(32<=c+1/\c+1<64)∨(64<=c+1/\c+1<96)∨(96<=c+1/\c+1<128)∨(128<=c+1/\c+1<160)∨(160<=c+1/\c+1<192)∨(192<=c+1/\c+1<224)∨224<=c+1:=O;rcases this with h|h|h|h|h|h|h|h
  .exact g 1 31 aJb O O
  .exact g 32 32 aBc O O
  .exact g 64 32 aRe O O
  .exact g 96 32 aGk O O
  .exact g 128 32 aJq O O
  .exact g 160 32 aIr O O
  .exact g 192 32 aFi O O
  .exact g 224 32 aHj O O
def pts{k:Nat}(M:1<=k)(R:k<65536):(qi k 64 ⟨0,0,0⟩).z≠0/\Ij (Xy k) (YN k):=by obtain⟨a,b⟩:=aus ck0 (λc s=>aer s) M R;exact⟨a,WV b⟩
def aaw{x F y H M p v n e T P L s b4 u f h q:Int}{ta te tc:es}{R S:Nat}:letI a:=[T,P,L,s,b4,u,f,h,q];letI b:=[x,F,y,H,M,p,v,n,e];letI c:dI:=⟨.ws .u32 mn,te⟩;letI d:dI:=⟨.ws .u32 a,tc⟩;∀(ha:xF b (R:Int))(hb:xF a (S:Int))(ag:LK (ky R S)=G),eM B (gc 1) 69 [.p (E (0,0)),.p (E (0,0)),.p (E (2,0))] [⟨.ws .u32 b,ta⟩,c,d] (λr m=>r= .t []/\ ∃l,xF l ((la R S:Nat):Int)/\m=[⟨.ws .u32 l,ta⟩,c,d]):=by
  intro ha hb ag;refine eM.rP (Q:=λr m=>r= .t []/\ ∃l,xF l ((la R S:Nat):Int)/\ ∃w t1 ad aa,m=[⟨.ws .u32 l,ta⟩,⟨.ws .u32 mn,te⟩,⟨.ws .u32 [T,P,L,s,b4,u,f,h,q],tc⟩,⟨.ws .u64 w,ad⟩,⟨.ws .u32 t1,aa⟩]) ?_ ?_
  .obtain⟨x0,x1,x2,x3,x4,x5,x6,x7,x8,q1,q2,q3,q4,q5,q6,q7,q8,q9,C,aq,ap,ao,an,am,al,ak,aj,ah,aC,aB,aA,az,ay,ax,aw,av,ar,n0,n2,n4,n6,n8,hT,hV⟩:=BO ag;obtain⟨aX,aW,aV,aU,aT,aS,aR,aQ,aP,aO⟩:=ha;obtain⟨aM,aL,aK,aJ,aI,aH,aG,aF,aE,aD⟩:=hb;obtain⟨z,ae,af,ac⟩:=EX aX aW aV aU aT aS aR aQ aP aM aL aK aJ aI aH aG aF aE;rw[aO,aD]at z;refine dL C1 f69 ?_;refine fk (t:=[.code (dB f69)]) (eB V2) (a:=dO 18 (dB f69) []) (y:=[(0,.p (E (0,0))),(6,.p (E (3,0)))]) (u:=[⟨.ws .u32 [x,F,y,H,M,p,v,n,e],ta⟩,⟨.ws .u32 mn,te⟩,⟨.ws .u32 [T,P,L,s,b4,u,f,h,q],tc⟩,⟨.lit ((wB [x,F,y,H,M,p,v,n,e] [T,P,L,s,b4,u,f,h,q]).map (V.i .u64)),139⟩]) (o:=G) KP K ?_;refine pA 3 (k:= .u64) (l:=wB [x,F,y,H,M,p,v,n,e] [T,P,L,s,b4,u,f,h,q]) K ?_;show Ev B C1 69 f69.ntmps _ [] _ _ [⟨.ws .u32 [x,F,y,H,M,p,v,n,e],ta⟩,⟨.ws .u32 mn,te⟩,⟨.ws .u32 [T,P,L,s,b4,u,f,h,q],tc⟩,⟨.ws .u64 (wB [x,F,y,H,M,p,v,n,e] [T,P,L,s,b4,u,f,h,q]),139⟩] _;rw[af];rw[af]at ae z
   refine dY (eB V2) (j:=100) (z:=[]) (l:=[1059,6]) (s:=[]) (g:=93) (p:=[.p (E (0,0)),.p (E (3,0))]) (d:=E 1060) (k:=dF 18 2 (dB f69) []) (T:=[(1059,.p (E (0,0))),(6,.p (E (3,0)))]) (q:=[⟨.ws .u32 [x,F,y,H,M,p,v,n,e],ta⟩,⟨.ws .u32 mn,te⟩,⟨.ws .u32 [T,P,L,s,b4,u,f,h,q],tc⟩,⟨.ws .u64 [x*T,x*P+F*T,x*L+F*P*2+y*T,x*s+F*L+y*P+H*T,x*b4+F*s*2+y*L+H*P*2+M*T,x*u+F*b4+y*s+H*L+M*P+p*T,x*f+F*u*2+y*b4+H*s*2+M*L+p*P*2+v*T,x*h+F*f+y*u+H*b4+M*s+p*L+v*P+n*T,x*q+F*h*2+y*f+H*u*2+M*b4+p*s*2+v*L+n*P*2+e*T,F*q+y*h+H*f+M*u+p*b4+v*s+n*L+e*P,y*q+H*h*2+M*f+p*u*2+v*b4+n*s*2+e*L,H*q+M*h+p*f+v*u+n*b4+e*s,M*q+p*h*2+v*f+n*u*2+e*b4,p*q+v*h+n*f+e*u,v*q+n*h*2+e*f,n*q+e*h,e*q],139⟩]) I K K K Ck
     ((Ri (ae) ac aq ap ao an am al ak aj ah aC aB aA az ay ax aw av ar n0 n2 n4 n6 n8 (by rw[z];exact hT)).lift [0,3,1] ⟨K,K,K,K,K,K,dD⟩ J (FI (o:=[0,3,1]) (i:=2) (j:=1) K K) K) K ?_
   rintro r m'⟨r0,aY,⟨rfl,l,ab,t1,aa,rfl⟩,_,rfl,rfl⟩_;refine⟨_,K,?_⟩;refine Ev.done (fn:=f69) (eB V2) (j:=100) (z:=[]) (s:=[]) (r:= .t []) (u:=[⟨.ws .u32 l,ta⟩,⟨.ws .u32 mn,te⟩,⟨.ws .u32 [T,P,L,s,b4,u,f,h,q],tc⟩,⟨.ws .u64 [x*T,x*P+F*T,x*L+F*P*2+y*T,x*s+F*L+y*P+H*T,x*b4+F*s*2+y*L+H*P*2+M*T,x*u+F*b4+y*s+H*L+M*P+p*T,x*f+F*u*2+y*b4+H*s*2+M*L+p*P*2+v*T,x*h+F*f+y*u+H*b4+M*s+p*L+v*P+n*T,x*q+F*h*2+y*f+H*u*2+M*b4+p*s*2+v*L+n*P*2+e*T,F*q+y*h+H*f+M*u+p*b4+v*s+n*L+e*P,y*q+H*h*2+M*f+p*u*2+v*b4+n*s*2+e*L,H*q+M*h+p*f+v*u+n*b4+e*s,M*q+p*h*2+v*f+n*u*2+e*b4,p*q+v*h+n*f+e*u,v*q+n*h*2+e*f,n*q+e*h,e*q],139⟩,⟨.ws .u32 t1,aa⟩]) I K ?_;rw[hV]at ab;exact⟨K,l,ab,_,_,_,_,K⟩
  .rintro r m⟨rfl,l,hl,w,t1,ad,aa,rfl⟩;exact⟨_,fs.take 3 Y Y K K,Y,K,K,l,hl,K⟩
def abb{y0 y1 y2 y3 y4 y5 y6 y7 y8 q F y H M p v n x T P L s b4 u f h z z0 z1 z2 z3 z4 z5 z6 z7 z8 z9 ar aq ap ao an am al ak aj ah ag af ae ad ac ab aa:Int}{v0 v1:ip}{ta te td tc:es}{R S:Nat}(ha:xF [q,F,y,H,M,p,v,n,x] (R:Int)):letI b:U:= .u32;letI a:dI:=⟨.lit [.r v0,.r v1,.i b q,.i b F,.i b y,.i b H,.i b M,.i b p,.i b v,.i b n,.i b x,.i b z0,.i b z1,.i b z2,.i b z3,.i b z4,.i b z5,.i b z6,.i b z7,.i b z8,.i b z9,.i b ar,.i b aq,.i b ap,.i b ao,.i b an,.i b am,.i b al,.i b ak,.i b aj,.i b ah,.i b ag,.i b af,.i b ae,.i b ad,.i b ac,.i b ab,.i b aa],td⟩;letI c:=[T,P,L,s,b4,u,f,h,z];letI d:dI:=⟨.ws b mn,te⟩;letI e:dI:=⟨.ws b c,tc⟩;∀(hb:xF c (S:Int))(aC:LK (ky R S)=G),eM B (gc 1) 69 [.p (E (0,0)),.p (E (2,2)),.p (E (3,0))] [⟨.ws b [y0,y1,y2,y3,y4,y5,y6,y7,y8],ta⟩,d,a,e] (λr m=>r= .t []/\ ∃l,xF l ((la R S:Nat):Int)/\m=[⟨.ws b l,ta⟩,d,a,e]):=by
  intro hb aC;refine eM.rP (Q:=λr m=>r= .t []/\ ∃l,xF l ((la R S:Nat):Int)/\ ∃w t1 az aw,m=[⟨.ws .u32 l,ta⟩,⟨.ws .u32 mn,te⟩,⟨.lit [.r v0,.r v1,.i .u32 q,.i .u32 F,.i .u32 y,.i .u32 H,.i .u32 M,.i .u32 p,.i .u32 v,.i .u32 n,.i .u32 x,.i .u32 z0,.i .u32 z1,.i .u32 z2,.i .u32 z3,.i .u32 z4,.i .u32 z5,.i .u32 z6,.i .u32 z7,.i .u32 z8,.i .u32 z9,.i .u32 ar,.i .u32 aq,.i .u32 ap,.i .u32 ao,.i .u32 an,.i .u32 am,.i .u32 al,.i .u32 ak,.i .u32 aj,.i .u32 ah,.i .u32 ag,.i .u32 af,.i .u32 ae,.i .u32 ad,.i .u32 ac,.i .u32 ab,.i .u32 aa],td⟩,⟨.ws .u32 [T,P,L,s,b4,u,f,h,z],tc⟩,⟨.ws .u64 w,az⟩,⟨.ws .u32 t1,aw⟩]) ?_ ?_
  .obtain⟨x0,x1,x2,x3,x4,x5,x6,x7,x8,q1,q2,q3,q4,q5,q6,q7,q8,q9,C,aL,aK,aJ,aI,aH,aG,aF,aE,aD,aV,aU,aT,aS,aR,aQ,aP,aO,aM,n0,n2,n4,n6,n8,hT,hV⟩:=BO aC;obtain⟨bp,bo,bn,bm,bl,bk,bj,bi,bh,bg⟩:=ha;obtain⟨bf,be,bc,bb,ba,a9,aZ,aY,aX,aW⟩:=hb;obtain⟨av,aA,aB,ay⟩:=EX bp bo bn bm bl bk bj bi bh bf be bc bb ba a9 aZ aY aX;rw[bg,aW]at av;refine dL C1 f69 ?_;refine fk (t:=[.code (dB f69)]) (eB V2) (a:=dO 18 (dB f69) []) (y:=[(0,.p (E (0,0))),(6,.p (E (4,0)))]) (u:=[⟨.ws .u32 [y0,y1,y2,y3,y4,y5,y6,y7,y8],ta⟩,⟨.ws .u32 mn,te⟩,⟨.lit [.r v0,.r v1,.i .u32 q,.i .u32 F,.i .u32 y,.i .u32 H,.i .u32 M,.i .u32 p,.i .u32 v,.i .u32 n,.i .u32 x,.i .u32 z0,.i .u32 z1,.i .u32 z2,.i .u32 z3,.i .u32 z4,.i .u32 z5,.i .u32 z6,.i .u32 z7,.i .u32 z8,.i .u32 z9,.i .u32 ar,.i .u32 aq,.i .u32 ap,.i .u32 ao,.i .u32 an,.i .u32 am,.i .u32 al,.i .u32 ak,.i .u32 aj,.i .u32 ah,.i .u32 ag,.i .u32 af,.i .u32 ae,.i .u32 ad,.i .u32 ac,.i .u32 ab,.i .u32 aa],td⟩,⟨.ws .u32 [T,P,L,s,b4,u,f,h,z],tc⟩,⟨.lit ((wB [q,F,y,H,M,p,v,n,x] [T,P,L,s,b4,u,f,h,z]).map (V.i .u64)),139⟩]) (o:=G) Lb K ?_;refine pA 4 (k:= .u64) (l:=wB [q,F,y,H,M,p,v,n,x] [T,P,L,s,b4,u,f,h,z]) K ?_;show Ev B C1 69 f69.ntmps _ [] _ _ [⟨.ws .u32 [y0,y1,y2,y3,y4,y5,y6,y7,y8],ta⟩,⟨.ws .u32 mn,te⟩,⟨.lit [.r v0,.r v1,.i .u32 q,.i .u32 F,.i .u32 y,.i .u32 H,.i .u32 M,.i .u32 p,.i .u32 v,.i .u32 n,.i .u32 x,.i .u32 z0,.i .u32 z1,.i .u32 z2,.i .u32 z3,.i .u32 z4,.i .u32 z5,.i .u32 z6,.i .u32 z7,.i .u32 z8,.i .u32 z9,.i .u32 ar,.i .u32 aq,.i .u32 ap,.i .u32 ao,.i .u32 an,.i .u32 am,.i .u32 al,.i .u32 ak,.i .u32 aj,.i .u32 ah,.i .u32 ag,.i .u32 af,.i .u32 ae,.i .u32 ad,.i .u32 ac,.i .u32 ab,.i .u32 aa],td⟩,⟨.ws .u32 [T,P,L,s,b4,u,f,h,z],tc⟩,⟨.ws .u64 (wB [q,F,y,H,M,p,v,n,x] [T,P,L,s,b4,u,f,h,z]),139⟩] _;rw[aB];rw[aB]at aA av
   refine dY (eB V2) (j:=100) (z:=[]) (l:=[1059,6]) (s:=[]) (g:=93) (p:=[.p (E (0,0)),.p (E (4,0))]) (d:=E 1060) (k:=dF 18 2 (dB f69) []) (T:=[(1059,.p (E (0,0))),(6,.p (E (4,0)))]) (q:=[⟨.ws .u32 [y0,y1,y2,y3,y4,y5,y6,y7,y8],ta⟩,⟨.ws .u32 mn,te⟩,⟨.lit [.r v0,.r v1,.i .u32 q,.i .u32 F,.i .u32 y,.i .u32 H,.i .u32 M,.i .u32 p,.i .u32 v,.i .u32 n,.i .u32 x,.i .u32 z0,.i .u32 z1,.i .u32 z2,.i .u32 z3,.i .u32 z4,.i .u32 z5,.i .u32 z6,.i .u32 z7,.i .u32 z8,.i .u32 z9,.i .u32 ar,.i .u32 aq,.i .u32 ap,.i .u32 ao,.i .u32 an,.i .u32 am,.i .u32 al,.i .u32 ak,.i .u32 aj,.i .u32 ah,.i .u32 ag,.i .u32 af,.i .u32 ae,.i .u32 ad,.i .u32 ac,.i .u32 ab,.i .u32 aa],td⟩,⟨.ws .u32 [T,P,L,s,b4,u,f,h,z],tc⟩,⟨.ws .u64 [q*T,q*P+F*T,q*L+F*P*2+y*T,q*s+F*L+y*P+H*T,q*b4+F*s*2+y*L+H*P*2+M*T,q*u+F*b4+y*s+H*L+M*P+p*T,q*f+F*u*2+y*b4+H*s*2+M*L+p*P*2+v*T,q*h+F*f+y*u+H*b4+M*s+p*L+v*P+n*T,q*z+F*h*2+y*f+H*u*2+M*b4+p*s*2+v*L+n*P*2+x*T,F*z+y*h+H*f+M*u+p*b4+v*s+n*L+x*P,y*z+H*h*2+M*f+p*u*2+v*b4+n*s*2+x*L,H*z+M*h+p*f+v*u+n*b4+x*s,M*z+p*h*2+v*f+n*u*2+x*b4,p*z+v*h+n*f+x*u,v*z+n*h*2+x*f,n*z+x*h,x*z],139⟩]) I K K K Ck
     ((Ri (aA) ay aL aK aJ aI aH aG aF aE aD aV aU aT aS aR aQ aP aO aM n0 n2 n4 n6 n8 (by rw[av];exact hT)).lift [0,4,1] ⟨K,K,K,K,K,K,dD⟩ J (FI (o:=[0,4,1]) (i:=2) (j:=1) K K) K) K ?_
   rintro r m'⟨r0,bq,⟨rfl,l,ax,t1,aw,rfl⟩,_,rfl,rfl⟩_;refine⟨_,K,?_⟩;refine Ev.done (fn:=f69) (eB V2) (j:=100) (z:=[]) (s:=[]) (r:= .t []) (u:=[⟨.ws .u32 l,ta⟩,⟨.ws .u32 mn,te⟩,⟨.lit [.r v0,.r v1,.i .u32 q,.i .u32 F,.i .u32 y,.i .u32 H,.i .u32 M,.i .u32 p,.i .u32 v,.i .u32 n,.i .u32 x,.i .u32 z0,.i .u32 z1,.i .u32 z2,.i .u32 z3,.i .u32 z4,.i .u32 z5,.i .u32 z6,.i .u32 z7,.i .u32 z8,.i .u32 z9,.i .u32 ar,.i .u32 aq,.i .u32 ap,.i .u32 ao,.i .u32 an,.i .u32 am,.i .u32 al,.i .u32 ak,.i .u32 aj,.i .u32 ah,.i .u32 ag,.i .u32 af,.i .u32 ae,.i .u32 ad,.i .u32 ac,.i .u32 ab,.i .u32 aa],td⟩,⟨.ws .u32 [T,P,L,s,b4,u,f,h,z],tc⟩,⟨.ws .u64 [q*T,q*P+F*T,q*L+F*P*2+y*T,q*s+F*L+y*P+H*T,q*b4+F*s*2+y*L+H*P*2+M*T,q*u+F*b4+y*s+H*L+M*P+p*T,q*f+F*u*2+y*b4+H*s*2+M*L+p*P*2+v*T,q*h+F*f+y*u+H*b4+M*s+p*L+v*P+n*T,q*z+F*h*2+y*f+H*u*2+M*b4+p*s*2+v*L+n*P*2+x*T,F*z+y*h+H*f+M*u+p*b4+v*s+n*L+x*P,y*z+H*h*2+M*f+p*u*2+v*b4+n*s*2+x*L,H*z+M*h+p*f+v*u+n*b4+x*s,M*z+p*h*2+v*f+n*u*2+x*b4,p*z+v*h+n*f+x*u,v*z+n*h*2+x*f,n*z+x*h,x*z],139⟩,⟨.ws .u32 t1,aw⟩]) I K ?_;rw[hV]at ax;exact⟨K,l,ax,_,_,_,_,K⟩
  .rintro r m⟨rfl,l,hl,w,t1,az,aw,rfl⟩;exact⟨_,fs.take 4 Y Y K K,Y,K,K,l,hl,K⟩
def agk{y0 y1 y2 y3 y4 y5 y6 y7 y8 q F y H M p v n e:Int}{T z L:es}{R:Nat}:letI a:=[q,F,y,H,M,p,v,n,e];letI b:dI:=⟨.ws .u32 mn,z⟩;letI c:dI:=⟨.ws .u32 a,L⟩;∀(ha:xF a (R:Int))(aa:LK (ky R R)=G),eM B (gc 1) 68 [.p (E (0,0)),.p (E (2,0))] [⟨.ws .u32 [y0,y1,y2,y3,y4,y5,y6,y7,y8],T⟩,b,c] (λr m=>r= .t []/\ ∃l,xF l ((la R R:Nat):Int)/\m=[⟨.ws .u32 l,T⟩,b,c]):=by
  intro ha aa;refine eM.rP (Q:=λr m=>r= .t []/\ ∃l,xF l ((la R R:Nat):Int)/\ ∃w t1 x u,m=[⟨.ws .u32 l,T⟩,⟨.ws .u32 mn,z⟩,⟨.ws .u32 [q,F,y,H,M,p,v,n,e],L⟩,⟨.ws .u64 w,x⟩,⟨.ws .u32 t1,u⟩]) ?_ ?_
  .obtain⟨x0,x1,x2,x3,x4,x5,x6,x7,x8,q1,q2,q3,q4,q5,q6,q7,q8,q9,C,ak,aj,ah,ag,af,ae,ad,ac,ab,aw,av,ar,aq,ap,ao,an,am,al,n0,n2,n4,n6,n8,hT,hV⟩:=BO aa;obtain⟨aG,aF,aE,aD,aC,aB,aA,az,ay,ax⟩:=ha;obtain⟨s,P,S,f⟩:=Uz aG aF aE aD aC aB aA az ay;rw[ax]at s;refine dL C1 f68 ?_;refine fk (t:=[.code (dB f68)]) (eB V2) (a:=dO 18 (dB f68) []) (y:=[(0,.p (E (0,0))),(4,.p (E (3,0)))]) (u:=[⟨.ws .u32 [y0,y1,y2,y3,y4,y5,y6,y7,y8],T⟩,⟨.ws .u32 mn,z⟩,⟨.ws .u32 [q,F,y,H,M,p,v,n,e],L⟩,⟨.lit ((Hx [q,F,y,H,M,p,v,n,e]).map (V.i .u64)),139⟩]) (o:=G) KK K ?_;refine pA 3 (k:= .u64) (l:=Hx [q,F,y,H,M,p,v,n,e]) K ?_;show Ev B C1 68 f68.ntmps _ [] _ _ [⟨.ws .u32 [y0,y1,y2,y3,y4,y5,y6,y7,y8],T⟩,⟨.ws .u32 mn,z⟩,⟨.ws .u32 [q,F,y,H,M,p,v,n,e],L⟩,⟨.ws .u64 (Hx [q,F,y,H,M,p,v,n,e]),139⟩] _;rw[S];rw[S]at P s
   refine dY (eB V2) (j:=100) (z:=[]) (l:=[585,4]) (s:=[]) (g:=93) (p:=[.p (E (0,0)),.p (E (3,0))]) (d:=E 586) (k:=dF 18 2 (dB f68) []) (T:=[(585,.p (E (0,0))),(4,.p (E (3,0)))]) (q:=[⟨.ws .u32 [y0,y1,y2,y3,y4,y5,y6,y7,y8],T⟩,⟨.ws .u32 mn,z⟩,⟨.ws .u32 [q,F,y,H,M,p,v,n,e],L⟩,⟨.ws .u64 [q*q,q*F*2,q*y*2+F*F*2,q*H*2+F*y*2,q*M*2+F*H*4+y*y,q*p*2+F*M*2+y*H*2,q*v*2+F*p*4+y*M*2+H*H*2,q*n*2+F*v*2+y*p*2+H*M*2,q*e*2+F*n*4+y*v*2+H*p*4+M*M,F*e*2+y*n*2+H*v*2+M*p*2,y*e*2+H*n*4+M*v*2+p*p*2,H*e*2+M*n*2+p*v*2,M*e*2+p*n*4+v*v,p*e*2+v*n*2,v*e*2+n*n*2,n*e*2,e*e],139⟩]) I K K K Ck
     ((Ri (P) f ak aj ah ag af ae ad ac ab aw av ar aq ap ao an am al n0 n2 n4 n6 n8 (by rw[s];exact hT)).lift [0,3,1] ⟨K,K,K,K,K,K,dD⟩ J (FI (o:=[0,3,1]) (i:=2) (j:=1) K K) K) K ?_
   rintro r m'⟨r0,aH,⟨rfl,l,h,t1,u,rfl⟩,_,rfl,rfl⟩_;refine⟨_,K,?_⟩;refine Ev.done (fn:=f68) (eB V2) (j:=100) (z:=[]) (s:=[]) (r:= .t []) (u:=[⟨.ws .u32 l,T⟩,⟨.ws .u32 mn,z⟩,⟨.ws .u32 [q,F,y,H,M,p,v,n,e],L⟩,⟨.ws .u64 [q*q,q*F*2,q*y*2+F*F*2,q*H*2+F*y*2,q*M*2+F*H*4+y*y,q*p*2+F*M*2+y*H*2,q*v*2+F*p*4+y*M*2+H*H*2,q*n*2+F*v*2+y*p*2+H*M*2,q*e*2+F*n*4+y*v*2+H*p*4+M*M,F*e*2+y*n*2+H*v*2+M*p*2,y*e*2+H*n*4+M*v*2+p*p*2,H*e*2+M*n*2+p*v*2,M*e*2+p*n*4+v*v,p*e*2+v*n*2,v*e*2+n*n*2,n*e*2,e*e],139⟩,⟨.ws .u32 t1,u⟩]) I K ?_;rw[hV]at h;exact⟨K,l,h,_,_,_,_,K⟩
  .rintro r m⟨rfl,l,hl,w,t1,x,u,rfl⟩;exact⟨_,fs.take 3 Y Y K K,Y,K,K,l,hl,K⟩
noncomputable def oX(C:fw)(res:List ResultVar)(x:List Item×St):Bool×Option (V×Bool)×dE×Bool:=(atEnd x.1,sI C x.2.e x.2.m res,x.2.m,eb x.2.ob)
def gB{P:Program}{C:fw}{n:Nat}{f:FuncId}{b:Nat}{Q:V->dE->Prop}{t:List Item}{e:eZ}{m:dE}{fn:Func}(c:RD P C){i:Option (List Nat)}{j:Nat}{z:List Bool}{r:V}{o L:Bool}{u:dE}
    (h:oX C fn.results.toList (fe C n i N j t ⟨e,m,z,[]⟩)=(G,E (r,o),u,L))(F:L=G)(a:o=G)(k:Q r u)(d:P.funcs[f]?=E fn:=by kernel_rfl):Ev P C f n b [] t e m Q:=by
  refine mX c (d:=d) (i:=i) (j:=j) (z:=z) ?_ F a k;generalize fe C n i N j t ⟨e,m,z,[]⟩=x at h;obtain⟨v,g⟩:=x;exact h
noncomputable abbrev CA:fw:=ep (gc 1) [(94,F94 1)] []
def OKA:ji B CA:=gy ⟨⟨ga f94,Uc K⟩,dD⟩ dD
def KH{q F y H M p v n e T P L s b4 u f h Q:Int}{R:List Int}{g k C:es}:letI a:=[T,P,L,s,b4,u,f,h,Q];letI b:=[q,F,y,H,M,p,v,n,e];letI c:dI:=⟨.ws .u32 R,k⟩;letI d:dI:=⟨.ws .u32 a,C⟩;oX CA f70.results.toList (fe CA f70.ntmps (E [0,1,2,6,7]) N 9000 [.code (dB f70)] ⟨fo 0 [.p (E (0,0)),.p (E (0,0)),.p (E (2,0))],[⟨.ws .u32 b,g⟩,c,d],[],[]⟩)=
    (G,E (.t [],G),[⟨.ws .u32 (Vp b a),g⟩,c,d],eb [ed (D (0<=(rE b a 0 A).2/\(rE b a 0 A).2<8)) (ed G (isT R))]):=I
def aem{w F y q M p v n e T P L s b4 u o h Q:Int}{g k C:es}{R S:Nat}:letI a:=[T,P,L,s,b4,u,o,h,Q];letI b:=[w,F,y,q,M,p,v,n,e];letI c:dI:=⟨.ws .u32 mn,k⟩;letI d:dI:=⟨.ws .u32 a,C⟩;∀(t:xF b (R:Int))(H:xF a (S:Int)),eM B (gc 1) 70 [.p (E (0,0)),.p (E (0,0)),.p (E (2,0))] [⟨.ws .u32 b,g⟩,c,d] (λr m=>r= .t []/\ ∃l,xF l ((rj (R+S):Nat):Int)/\(C0 ((R+S)%fS)=G->X7 l)/\m=[⟨.ws .u32 l,g⟩,c,d]):=by
  intro t H;obtain⟨i,c0,c1,c2,c3,c4,c5,c6,c7,z,j,f,x⟩:=LO t H;refine dL _ f70 (gB (eB OKA) KH ?_ K ⟨K,_,f,x,?_⟩)
  .rw [fG i,J9];rfl
  .rw [j]
def Kr{a0 a1 a2 a3 a4 a5 a6 a7 a8 T P L s b4 u f h Q z0 z1 z2 z3 z4 M H F y z9 i q t r p S n l m g x o k C w j z:Int}{v0 v1:ip}{R:List Int}{v te td:es}:letI c:U:= .u32;letI a:dI:=⟨.lit [.r v0,.r v1,.i c z0,.i c z1,.i c z2,.i c z3,.i c z4,.i c M,.i c H,.i c F,.i c y,.i c T,.i c P,.i c L,.i c s,.i c b4,.i c u,.i c f,.i c h,.i c Q,.i c z9,.i c i,.i c q,.i c t,.i c r,.i c p,.i c S,.i c n,.i c l,.i c m,.i c g,.i c x,.i c o,.i c k,.i c C,.i c w,.i c j,.i c z],td⟩;letI b:=[a0,a1,a2,a3,a4,a5,a6,a7,a8];letI d:=[T,P,L,s,b4,u,f,h,Q];letI e:dI:=⟨.ws c R,te⟩;oX CA f70.results.toList (fe CA f70.ntmps (E [0,1,2,6,7]) N 9000 [.code (dB f70)] ⟨fo 0 [.p (E (0,0)),.p (E (0,0)),.p (E (2,11))],[⟨.ws c b,v⟩,e,a],[],[]⟩)=
    (G,E (.t [],G),[⟨.ws c (Vp b d),v⟩,e,a],eb [ed (D (0<=(rE b d 0 A).2/\(rE b d 0 A).2<8)) (ed G (isT R))]):=I
def acg{a0 a1 a2 a3 a4 a5 a6 a7 a8 b0 M F s b4 u f h Q z0 z1 z2 z3 z4 z5 z6 z7 z8 z9 i q y v L p P n e g x o k C w j z:Int}{v0 v1:ip}{T te td:es}{R S:Nat}:letI b:U:= .u32;letI a:dI:=⟨.lit [.r v0,.r v1,.i b z0,.i b z1,.i b z2,.i b z3,.i b z4,.i b z5,.i b z6,.i b z7,.i b z8,.i b b0,.i b M,.i b F,.i b s,.i b b4,.i b u,.i b f,.i b h,.i b Q,.i b z9,.i b i,.i b q,.i b y,.i b v,.i b L,.i b p,.i b P,.i b n,.i b e,.i b g,.i b x,.i b o,.i b k,.i b C,.i b w,.i b j,.i b z],td⟩;letI c:=[a0,a1,a2,a3,a4,a5,a6,a7,a8];letI d:dI:=⟨.ws b mn,te⟩;∀(t:xF c (R:Int))(H:xF [b0,M,F,s,b4,u,f,h,Q] (S:Int)),eM B (gc 1) 70 [.p (E (0,0)),.p (E (0,0)),.p (E (2,11))] [⟨.ws b c,T⟩,d,a] (λr m=>r= .t []/\ ∃l,xF l ((rj (R+S):Nat):Int)/\(C0 ((R+S)%fS)=G->X7 l)/\m=[⟨.ws b l,T⟩,d,a]):=by
  intro t H;obtain⟨hk,c0,c1,c2,c3,c4,c5,c6,c7,c8,he,hl,hn⟩:=LO t H;refine dL _ f70 (gB (eB OKA) Kr ?_ K ⟨K,_,hl,hn,?_⟩)
  .rw [fG hk,J9];rfl
  .rw [he]
def uF(a b c d:Int):Int:=eA .or .u32 (eA .or .u32 (eA .or .u32 (U.u32.wrap d) (U.u32.wrap (U.u32.wrap c*256))) (U.u32.wrap (U.u32.wrap b*65536))) (U.u32.wrap (U.u32.wrap a*16777216))
def Z5(H:List Int)(o l c:Nat)(ty:es):letI a:=(l:Int);letI b:Int:=(0:Int);letI d:dE:=[⟨.ws .u8 H,ty⟩];letI e:Prop:=dH o 3 1<H.length;(runM (ep gz [] []) f126.results.toList (fe (ep gz [] []) f126.ntmps N N 200 [.code (dB f126)] ⟨fo 0 [.s (E (0,o)) l c],d,[],[]⟩))=(G,E (.i .u32 (eA BinOp.or .u32 (eA BinOp.or .u32 (eA BinOp.or .u32 (U.u32.wrap (H.getD (dH o 3 1) 0)) (U.u32.wrap (U.u32.wrap (H.getD (dH o 2 1) 0)*256))) (U.u32.wrap (U.u32.wrap (H.getD (dH o 1 1) 0)*65536))) (U.u32.wrap (U.u32.wrap (H.getD (dH o 0 1) 0)*16777216))),G),d,[G,D (dH o 0 1<H.length),D (b<=0/\0<a),G,D (dH o 1 1<H.length),D (b<=1/\1<a),G,D (dH o 2 1<H.length),D (b<=2/\2<a),decide e,D (b<=3/\3<a),decide e,D (b<=3/\3<a)]):=I
def ago{l c:Nat}{ty:es}(M:4<=l)(S:o+4<=H.length):letI a:dE:=[⟨.ws .u8 H,ty⟩];eM B gz 126 [.s (E (0,o)) l c] a (λr m=>r= .i .u32 (uF (H.getD (dH o 0 1) 0) (H.getD (dH o 1 1) 0) (H.getD (dH o 2 1) 0) (H.getD (dH o 3 1) 0))/\m=a):=by refine dL _ f126 (kF lP (Z5 H o l c ty) ?_ K ⟨K,K⟩);simp only[dK,dJ,eu,ew,Nat.reduceAdd,Nat.reduceLT];omega
def ahy:QF:=λargs m=>match args with
  |[.s (E a) l c]=>match m[a.1]? with
   |some ⟨.ws .u8 H,_⟩=>E (.i .u32 (uF (H.getD (dH a.2 0 1) 0) (H.getD (dH a.2 1 1) 0) (H.getD (dH a.2 2 1) 0) (H.getD (dH a.2 3 1) 0)),ed (D (4<=l/\a.2+4<=H.length)) (ek m.length m))
   |_=>N
  |_=>N
def Vn(R:Nat->Option Nat):oR B R 126 ahy:=by
  refine gD λargs m r T=>?_
  unfold ahy at T;split at T
  .rename_i a l c;split at T
   .rename_i H t L;simp only[eJ,ef]at T;obtain⟨rfl,F⟩:=T;obtain⟨M,b⟩:=dN F;obtain⟨q,d⟩:=fU M;obtain⟨a,j⟩:=a;refine((ago (c:=c) (ty:=t) q d).lift (gl:=R) (m:=m) [a] ⟨L,K,dD⟩ Y (λg i h=>by cases h) b).mono ?_;rintro r u⟨C,e,⟨rfl,rfl⟩,_,rfl,rfl⟩;refine⟨K,?_⟩;simp only[fW,iC,ft,kw,eI,fb,jx];exact fu L
   .cases T
  .cases T
abbrev LB:List (Nat×QF):=(126,ahy)::LR
def atn(R:Nat->Option Nat):gf R LB:=⟨⟨ga f126,Vn R⟩,eP R⟩
def abt(H:List Int)(o l c:Nat)(ty:es):letI a:Nat:=eO o c 4 1;letI b:dE:=[⟨.ws .u8 H,ty⟩];(runM (ep gz [] LB) f125.results.toList (fe (ep gz [] LB) f125.ntmps N N 200 [.code (dB f125)] ⟨fo 0 [.s (E (0,o)) l c],b,[],[]⟩))=(G,E (.i .u64 (eA BinOp.or .u64 (U.u64.wrap (U.u64.wrap (uF (H.getD (dH o 0 1) 0) (H.getD (dH o 1 1) 0) (H.getD (dH o 2 1) 0) (H.getD (dH o 3 1) 0))*4294967296)) (U.u64.wrap (uF (H.getD (dH a 0 1) 0) (H.getD (dH a 1 1) 0) (H.getD (dH a 2 1) 0) (H.getD (dH a 3 1) 0)))),G),b,[D (4<=l-4/\a+4<=H.length),ed (D (l<=c)) (D ((0:Int)<=4/\4<=(l:Int))),G,D (4<=l/\o+4<=H.length),D (dH o 7 1<H.length),D ((0:Int)<=7/\7<(l:Int))]):=I
def GH(f:Nat->Int):Int:=eA .or .u64 (U.u64.wrap (U.u64.wrap (uF (f 0) (f 1) (f 2) (f 3))*4294967296)) (U.u64.wrap (uF (f 4) (f 5) (f 6) (f 7)))
def afe:QF:=λargs m=>match args with
  |[.s (E a) l c]=>match m[a.1]? with
   |some ⟨.ws .u8 H,_⟩=>E (.i .u64 (GH λk=>H.getD (dH a.2 k 1) 0),ed (D (8<=l/\l<=c/\a.2+8<=H.length)) (ek m.length m))
   |_=>N
  |_=>N
abbrev LB8:List (Nat×QF):=(125,afe)::LR
def aat{l c:Nat}{ty:es}(M:8<=l)(S:l<=c)(b:o+8<=H.length):letI a:dE:=[⟨.ws .u8 H,ty⟩];eM B gz 125 [.s (E (0,o)) l c] a (λr m=>r= .i .u64 (GH λk=>H.getD (dH o k 1) 0)/\m=a):=by
  refine dL (ep gz [] LB) f125 ?_;refine kF (gK dD (atn _)) (abt H o l c ty) ?_ K ⟨?_,K⟩
  .simp(disch:=omega)only[iK,Int.reduceToNat,Int.reduceAdd,Int.reduceSub];simp only[dK,dJ,eu,ew,Nat.reduceAdd,Nat.reduceLT];omega
  .unfold GH;simp(disch:=omega)only[kE,eE]
def Xu(R:Nat->Option Nat):oR B R 125 afe:=by
  refine gD λargs m r T=>?_
  unfold afe at T;split at T
  .rename_i a l c;split at T
   .rename_i H t L;simp only[eJ,ef]at T;obtain⟨rfl,F⟩:=T;obtain⟨M,b⟩:=dN F;obtain⟨q,d,y⟩:=fU M;obtain⟨a,j⟩:=a;refine((aat (c:=c) (ty:=t) q d y).lift (gl:=R) (m:=m) [a] ⟨L,K,dD⟩ Y (λg i h=>by cases h) b).mono ?_;rintro r u⟨C,e,⟨rfl,rfl⟩,_,rfl,rfl⟩;refine⟨K,?_⟩;simp only[fW,iC,ft,kw,eI,fb,jx];exact fu L
   .cases T
  .cases T
def KQ(R:Nat->Option Nat):gf R LB8:=⟨⟨ga f125,Xu R⟩,eP R⟩
noncomputable abbrev KSa:List (Nat×jB):=(103,inl gz (N1 oK) LB8 f103 [])::N1 oK
noncomputable abbrev KSb:List (Nat×jB):=(75,aic gz KSa LB8 f75 [0,1,5,6] 500 [])::KSa
def QH:fl gz KSa:=⟨⟨ga f103,mV (DP gz) (KQ gz) I I []⟩,DP gz⟩
def ahm:fl gz KSb:=⟨⟨ga f75,U0 QH (KQ gz) I I [0,1,5,6] 500 []⟩,QH⟩
def anm(H:List Int)(o c:Nat)(P R:es):letI a:Int:=GH λk=>H.getD (dH (eO o c 24 1) k 1) 0;letI d:Int:=GH λk=>H.getD (dH (eO o c 16 1) k 1) 0;letI e:Int:=GH λk=>H.getD (dH (eO o c 8 1) k 1) 0;letI f:Int:=GH λk=>H.getD (dH o k 1) 0;letI g:=(c:Int);letI h:dI:=⟨.ws .u8 H,R⟩;letI i:Int:=(0:Int);letI l:=ep gz KSb LB8;(runM l f48.results.toList (fe l f48.ntmps N N 200 [.code (dB f48)] ⟨fo 0 [.p (E (0,0)),.s (E (1,o)) 32 c],[⟨.lit [.b A,.s N 0 0],P⟩,h],[],[]⟩))=(G,E (.p (E (0,0)),G),[⟨.lit [.b A,.s (E (2,0)) (gm (λj=>(((((lc 8 0).set 0 a).set 1 d).set 2 e).set 3 f).getD (0+j) 0) 4) 8],P⟩,h,⟨.ws .u64 [a,d,e,f,0,0,0,0],137⟩],[G,G,eb [G,G,G,eb [D (8<=8/\8<=c-0/\o+8<=H.length)],D (i<=8/\8<=g),G,G,eb [D (8<=8/\8<=c-8/\eO o c 8 1+8<=H.length)],D (i<=16/\16<=g),G,G,eb [D (8<=8/\8<=c-16/\eO o c 16 1+8<=H.length)],D (i<=24/\24<=g),G,G,eb [D (8<=8/\8<=c-24/\eO o c 24 1+8<=H.length)],D (i<=32/\32<=g),G,G,G,G],G]):=I
def aHb(a b:Nat)(t:a<2^64)(H:b<2^64):eA .or .u64 (a:Int) (b:Int)=((a|||b:Nat):Int):=by have h:=JT t H;show U.u64.wrap ((BitVec.ofInt 64 a|||BitVec.ofInt 64 b).toNat:Int)=_;rw[KU,jG _ _ t,jG _ _ H,kq];omega
def Vv(a b c d:Nat)(t:a<256)(H:b<256)(s:c<256)(z:d<256):uF a b c d=((a*16777216+b*65536+c*256+d:Nat):Int):=by
  unfold uF
  have e: ∀(x m:Nat),x*m<4294967296->x<256->U.u32.wrap (U.u32.wrap (x:Int)*(m:Int))=((x*m:Nat):Int):=λx m h S=>by
    have M:U.u32.wrap (x:Int)=x:=by rw[wa];omega
    rw[M,<-lJ,wa];exact og O O
  have T:U.u32.wrap (U.u32.wrap (a:Int)*16777216)=((a*16777216:Nat):Int):=e a 16777216 O t;have f:U.u32.wrap (U.u32.wrap (b:Int)*65536)=((b*65536:Nat):Int):=e b 65536 O H;have Q:U.u32.wrap (U.u32.wrap (c:Int)*256)=((c*256:Nat):Int):=e c 256 O s;have F:U.u32.wrap (d:Int)=d:=by rw[wa];omega
  rw[T,f,Q,F,Jh _ _ O O]
  have R:d|||c*256=c*256+d:=by have:=ud (i:=8) (b:=d) O c;rw[Hb,(O:c*256=2^8*c)];exact this.symm
  rw[R,Jh _ _ O O]
  have L:(c*256+d) |||b*65536=b*65536+c*256+d:=by have:=ud (i:=16) (b:=c*256+d) O b;rw[Hb,(O:b*65536=2^16*b),<-this];omega
  rw[L,Jh _ _ O O]
  have o:(b*65536+c*256+d) |||a*16777216=a*16777216+b*65536+c*256+d:=by have:=ud (i:=24) (b:=b*65536+c*256+d) O a;rw[Hb,(O:a*16777216=2^24*a),<-this];omega
  rw[o]
def oM(v j:Nat):uF (iI v j 3) (iI v j 2) (iI v j 1) (iI v j 0)=fL v j:=by
  have z:=nO v j;obtain⟨x,L⟩:=fy z.1;unfold iI;rw[L]
  have f: ∀r:Nat,((x:Int)/256^r%256)=((x/256^r%256:Nat):Int):=λr=>by
    have:(256:Int)^r=((256^r:Nat):Int):=by push_cast;rfl
    rw[this];omega
  rw[f,f,f,f,Vv _ _ _ _ O O O O];simp only[xq,Cj,Nat.pow_one,(J:256^2=65536),(J:256^3=16777216)];omega
def wd(v j:Nat):Int:=fL v (2*j+1)*4294967296+fL v (2*j)
def RQ(v j:Nat):eA .or .u64 (U.u64.wrap (U.u64.wrap (fL v (2*j+1))*4294967296)) (U.u64.wrap (fL v (2*j)))=wd v j:=by
  have M:=nO v (2*j+1);have C:=nO v (2*j);unfold wd;obtain⟨x,L⟩:=fy M.1;obtain⟨y,Q⟩:=fy C.1;rw[L]at M⊢;rw[Q]at C⊢;have T:U.u64.wrap (x:Int)=x:=by rw[kq];omega
  have f:U.u64.wrap (y:Int)=y:=by rw[kq];omega
  have a:U.u64.wrap ((x:Int)*4294967296)=((x*4294967296:Nat):Int):=by rw[kq];omega
  rw[T,f,a,aHb _ _ O O];have:=ud (i:=32) (b:=y) O x;rw[(O:x*4294967296=2^32*x),<-this];omega
def Ga(v j:Nat):gn (wd v j):=by have M:=nO v (2*j+1);have C:=nO v (2*j);unfold wd;exact⟨O,O⟩
def aag(Q:v<115792089237316195423570985008687907853269984665640564039457584007913129639936):letI a:Int:=18446744073709551616;wd v 0+a*(wd v 1+a*(wd v 2+a*(wd v 3+a*0)))=(v:Int):=by have c:=CY Q;simp only[wd,fL,wP,ir,jq,Nat.reduceMul,Nat.reduceAdd];have T:sh v 1=v/4294967296:=K;have f:sh v 2=sh v 1/4294967296:=K;have b:sh v 3=sh v 2/4294967296:=K;have F:sh v 4=sh v 3/4294967296:=K;have t:sh v 5=sh v 4/4294967296:=K;have e:sh v 6=sh v 5/4294967296:=K;have z:sh v 7=sh v 6/4294967296:=K;have e0:sh v 0=v:=K;rw[e0];generalize sh v 1=j at*;generalize sh v 2=m at*;generalize sh v 3=g at*;generalize sh v 4=k at*;generalize sh v 5=P at*;generalize sh v 6=R at*;generalize sh v 7=n at*;omega
def Bd{a:Nat}(L: ∀k,k<32->H.getD (o+k) 0=(bL v).getD k 0)(j:Nat)(b:j<4)(t:a=o+(24-8*j)):(GH λk=>H.getD (dH a k 1) 0)=wd v j:=by
  subst t
  have e: ∀k,k<8->H.getD (dH (o+(24-8*j)) k 1) 0=(bL v).getD (24-8*j+k) 0:=λk R=>by rw[eE,jq,uY];exact L _ O
  unfold GH;simp only[e 0 O,e 1 O,e 2 O,e 3 O,e 4 O,e 5 O,e 6 O,e 7 O];rw[<-RQ];have:j=0∨j=1∨j=2∨j=3:=O;rcases this with rfl|rfl|rfl|rfl
  .show eA .or .u64 (U.u64.wrap (U.u64.wrap (uF (iI v 1 3) (iI v 1 2) (iI v 1 1) (iI v 1 0))*4294967296)) (U.u64.wrap (uF (iI v 0 3) (iI v 0 2) (iI v 0 1) (iI v 0 0)))=_;rw[oM,oM]
  .show eA .or .u64 (U.u64.wrap (U.u64.wrap (uF (iI v 3 3) (iI v 3 2) (iI v 3 1) (iI v 3 0))*4294967296)) (U.u64.wrap (uF (iI v 2 3) (iI v 2 2) (iI v 2 1) (iI v 2 0)))=_;rw[oM,oM]
  .show eA .or .u64 (U.u64.wrap (U.u64.wrap (uF (iI v 5 3) (iI v 5 2) (iI v 5 1) (iI v 5 0))*4294967296)) (U.u64.wrap (uF (iI v 4 3) (iI v 4 2) (iI v 4 1) (iI v 4 0)))=_;rw[oM,oM]
  .show eA .or .u64 (U.u64.wrap (U.u64.wrap (uF (iI v 7 3) (iI v 7 2) (iI v 7 1) (iI v 7 0))*4294967296)) (U.u64.wrap (uF (iI v 6 3) (iI v 6 2) (iI v 6 1) (iI v 6 0)))=_;rw[oM,oM]
def aci(Q:v<115792089237316195423570985008687907853269984665640564039457584007913129639936)(r:List Int)(y:dG r)(f:r.length<=1000):letI a:List Int:=wd v 0::wd v 1::wd v 2::wd v 3::r;fX A a (gm (λj=>a.getD j 0) 4) (v:Int):=by
  have h:=kO (a:=A) (W:=wd v 0::wd v 1::wd v 2::wd v 3::r) (n:=4) (w:=(v:Int)) Y gp ?_ ?_ (λh=>by cases h)
  .simpa using h
  .intro x L;simp only[kh]at L;rcases L with rfl|rfl|rfl|rfl|L
   .exact Ga _ _
   .exact Ga _ _
   .exact Ga _ _
   .exact Ga _ _
   .exact y x L
  .show wd v 0+18446744073709551616*(wd v 1+18446744073709551616*(wd v 2+18446744073709551616*(wd v 3+18446744073709551616*0)))=_;exact aag Q
def Zt{c:Nat}{P R:es}(Q:v<115792089237316195423570985008687907853269984665640564039457584007913129639936)(s:32<c∨c=32)(f:o+32<=H.length)(L: ∀k,k<32->H.getD (o+k) 0=(bL v).getD k 0):letI a:dI:=⟨.ws .u8 H,R⟩;eM B gz 48 [.p (E (0,0)),.s (E (1,o)) 32 c] [⟨.lit [.b A,.s N 0 0],P⟩,a] (λr m=>r= .p (E (0,0))/\m=[⟨.int v,P⟩,a]):=by
  refine eV Y K ?_;refine dL (ep gz KSb LB8) f48 ?_;have g:eO o c 8 1=o+8:=kE O;have l:eO o c 16 1=o+16:=kE O;have T:eO o c 24 1=o+24:=kE O;have h:=Bd (a:=o) L 3 O O;have i:=Bd (a:=o+8) L 2 O O;have y:=Bd (a:=o+16) L 1 O O;have d:=Bd (a:=o+24) L 0 O O;have b:=anm H o c P R;rw[g,l,T,d,y,i,h]at b;refine kF (gK ahm (KQ _)) b ?_ K ?_
  .simp only[jo,dK,dJ,eu,ew,Nat.reduceAdd,Nat.reduceLT];omega
  .have x:=aci Q [0,0,0,0] J J;refine⟨K,?_⟩
   have e:(λj=>(((((lc (8:Nat) (0:Int)).set (0:Nat) (wd v 0)).set (1:Nat) (wd v 1)).set (2:Nat) (wd v 2)).set (3:Nat) (wd v 3)).getD ((0:Nat)+j) (0:Int))=λj=>(wd v 0::wd v 1::wd v 2::wd v 3::[0,0,0,0]).getD j 0:=by funext j;rw[ir];rfl
   rw[e];exact fs.close' 0 2 Y J K K K x (.take 2 Y Y K K)
def bw(w:Int):List Int:=[U.u8.wrap (((((((w.fdiv 256).fdiv 256).fdiv 256).fdiv 256).fdiv 256).fdiv 256).fdiv 256),U.u8.wrap ((((((w.fdiv 256).fdiv 256).fdiv 256).fdiv 256).fdiv 256).fdiv 256),U.u8.wrap (((((w.fdiv 256).fdiv 256).fdiv 256).fdiv 256).fdiv 256),U.u8.wrap ((((w.fdiv 256).fdiv 256).fdiv 256).fdiv 256),U.u8.wrap (((w.fdiv 256).fdiv 256).fdiv 256),U.u8.wrap ((w.fdiv 256).fdiv 256),U.u8.wrap (w.fdiv 256),U.u8.wrap w]
noncomputable abbrev T83:List Item:=gQ (dB f83) 2 []
abbrev wS(H:List Int)(P:Nat)(l:dI)(R:es)(w u:List Bool)(S:Int):Prop:=letI a:dE:=[l,⟨.ws .u8 H,R⟩];(runM (ep gz [] []) f83.results.toList (fe (ep gz [] []) f83.ntmps (E [0,1,4,6,7,10,11,12]) N 200 T83 ⟨[(1,.s (E (1,0)) 32 P),(4,.i .i64 0)],a,w,[]⟩))=(G,E (.i .i64 S,G),a,u)
def axr(H:List Int)(P:Nat)(l:dI)(R:es):wS H P l R [G,A] [(H.getD 0 (0:Int)==0)==A,D (0<H.length),G,G,G] 0:=dR
def amh(H:List Int)(P:Nat)(l:dI)(R:es):wS H P l R ((λS=>S) [G,G,G,A]) ((λS=>S) [(H.getD 1 (0:Int)==0)==A,D (1<H.length),G,G,G,(H.getD 0 (0:Int)==0)==G,D (0<H.length),G,G,G]) 1:=dR
def atm(H:List Int)(P:Nat)(l:dI)(R:es):wS H P l R ((λS=>G::G::S) [G,G,G,A]) ((λS=>((H.getD 2 (0:Int)==0)==A)::D (2<H.length)::G::G::G::S) [(H.getD 1 (0:Int)==0)==G,D (1<H.length),G,G,G,(H.getD 0 (0:Int)==0)==G,D (0<H.length),G,G,G]) 2:=dR
def azl(p:List Int)(c P:Nat)(y R:es):letI a:dI:=⟨.ws .u64 p,y⟩;letI b:V:= .s (E (1,0)) 32 P;(si [1,4] (fe (ep gz [] []) f83.ntmps (E [0,1,4,6,7,10,11,12]) (E 4) 2000 [.code (dB f83)] ⟨fo 0 [.s (E (0,0)) 4 c,b],[a,⟨.ws .u8 (lc 32 0),R⟩],[],[]⟩))=(T83,[(1,b),(4,.i .i64 0)],[a,⟨.ws .u8 (bw (p.getD 3 0)++(bw (p.getD 2 0)++(bw (p.getD 1 0)++bw (p.getD 0 0)))),R⟩],eb [D (3<p.length),D (2<p.length),D (1<p.length),D (0<p.length)]):=I
def aod{c y i h:Int}(C:gn c)(M:gn y)(S:gn i)(l:gn h){v:Nat}:letI a:Int:=18446744073709551616;∀(Q:(v:Int)=c+a*(y+a*(i+a*(h+a*0)))),wd v 0=c/\wd v 1=y/\wd v 2=i/\wd v 3=h:=by intro Q;obtain⟨a0,u⟩:=C;obtain⟨x,P⟩:=M;obtain⟨w,L⟩:=S;obtain⟨H,s⟩:=l;simp only[wd,fL,wP,ir,jq,Nat.reduceMul,Nat.reduceAdd];have T:sh v 1=v/4294967296:=K;have f:sh v 2=sh v 1/4294967296:=K;have q:sh v 3=sh v 2/4294967296:=K;have F:sh v 4=sh v 3/4294967296:=K;have t:sh v 5=sh v 4/4294967296:=K;have e:sh v 6=sh v 5/4294967296:=K;have z:sh v 7=sh v 6/4294967296:=K;have e0:sh v 0=v:=K;rw[e0];generalize sh v 1=j at*;generalize sh v 2=m at*;generalize sh v 3=g at*;generalize sh v 4=k at*;generalize sh v 5=b at*;generalize sh v 6=R at*;generalize sh v 7=n at*;clear e0;have o:(j:Int)=(v:Int)/4294967296:=O;have p:(m:Int)=y+18446744073709551616*(i+18446744073709551616*h):=O;have r:(k:Int)=i+18446744073709551616*h:=O;have d:(R:Int)=h:=O;refine⟨O,O,O,O⟩
def Nf(v j:Nat):bw (wd v j)=[iI v (2*j+1) 3,iI v (2*j+1) 2,iI v (2*j+1) 1,iI v (2*j+1) 0,iI v (2*j) 3,iI v (2*j) 2,iI v (2*j) 1,iI v (2*j) 0]:=by
  have M:=nO v (2*j+1);have C:=nO v (2*j);have f: ∀x:Int,x.fdiv 256=x/256:=λx=>kB _ J
  have g: ∀x:Int,U.u8.wrap x=x%256:=λx=>JI x
  have n:(256:Int)^3=16777216:=J;have L:(256:Int)^2=65536:=J;have d:(256:Int)^1=256:=J;have o:(256:Int)^0=1:=J;simp only[bw,iI,wd,f,g,o,d,L,n];generalize fL v (2*j+1)=y at*;generalize fL v (2*j)=x at*;refine uP.2 ⟨O,uP.2 ⟨O,uP.2 ⟨O,uP.2 ⟨O,uP.2 ⟨O,uP.2 ⟨O,uP.2 ⟨O,uP.2 ⟨O,K⟩⟩⟩⟩⟩⟩⟩⟩
def aiq(v:Nat):bw (wd v 3)++(bw (wd v 2)++(bw (wd v 1)++bw (wd v 0)))=bL v:=by rw[Nf,Nf,Nf,Nf];rfl
def m9(v:Nat):Nat:=if 2^248<=v then 0 else if 2^240<=v then 1 else 2
def Ej(Q:v<115792089237316195423570985008687907853269984665640564039457584007913129639936):(iI v 7 3=((v/2^248:Nat):Int))/\(v<2^248->iI v 7 2=((v/2^240:Nat):Int))/\(v<2^240->iI v 7 1=((v/2^232:Nat):Int)):=by
  have c:=CY Q
  have a:sh v 7=v/2^224:=by have T:sh v 7=v/4294967296/4294967296/4294967296/4294967296/4294967296/4294967296/4294967296:=K;rw[T];simp only[CK]
  have n:(256:Int)^3=16777216:=J;have L:(256:Int)^2=65536:=J;have d:(256:Int)^1=256:=J;simp only[iI,fL,d,L,n,a];rw[a]at c;clear a;refine⟨O,λh=>O,λh=>O⟩
def UR:ji B (ep gz [] []):=gy dD dD
def aku{c P:Nat}{y R:es}(Q:v<115792089237316195423570985008687907853269984665640564039457584007913129639936)(s:2^232<=v)(f:4<=p.length)(C:p.getD 0 0=wd v 0)(M:p.getD 1 0=wd v 1)(S:p.getD 2 0=wd v 2)(l:p.getD 3 0=wd v 3):letI a:dI:=⟨.ws .u64 p,y⟩;eM B gz 83 [.s (E (0,0)) 4 c,.s (E (1,0)) 32 P] [a,⟨.ws .u8 (lc 32 0),R⟩] (λr m=>r= .i .i64 (m9 v:Nat)/\m=[a,⟨.ws .u8 (bL v),R⟩]):=by
  refine dL (ep gz [] []) f83 ?_;have b:=azl p c P y R;rw[C,M,S,l,aiq]at b;refine FA (eB UR) b ?_ ?_
  .simp only[dX,eG];exact⟨O,O,O,O,K⟩
  obtain⟨g,d,j⟩:=Ej Q;unfold m9;by_cases k:2^248<=v
  .rw [if_pos k];refine kF (eB UR) (fn:=f83) (i:=(E [0,1,4,6,7,10,11,12])) (j:=200) (z:=[G,A]) (axr (bL v) P _ R) ?_ K ⟨K,K⟩
   have e:((bL v).getD 0 0==0)=A:=by show(iI v 7 3==0)=A;rw[g,kZ];omega
   rw[e];rfl
  .have T:(bL v).getD 0 0=0:=by show iI v 7 3=0;rw[g];omega
   have d:=d O;rw[if_neg k];by_cases u:2^240<=v
   .rw [if_pos u];refine kF (eB UR) (fn:=f83) (i:=(E [0,1,4,6,7,10,11,12])) (j:=200) (z:=[G,G,G,A]) (amh (bL v) P _ R) ?_ K ⟨K,K⟩
    have e:((bL v).getD 1 0==0)=A:=by show(iI v 7 2==0)=A;rw[d,kZ];omega
    rw[e,T];rfl
   .rw [if_neg u];have j:=j O
    have h:(bL v).getD 1 0=0:=by show iI v 7 2=0;rw[d];omega
    refine kF (eB UR) (fn:=f83) (i:=(E [0,1,4,6,7,10,11,12])) (j:=200) (z:=[G,G,G,G,G,A]) (atm (bL v) P _ R) ?_ K ⟨K,K⟩
    have e:((bL v).getD 2 0==0)=A:=by show(iI v 7 1==0)=A;rw[j,kZ];omega
    rw[e,T,h];rfl
def zj{P:Program}{R:Nat->Option Nat}{f:FuncId}{args:List V}{m:dE}{Q x:V->dE->Prop}(b:Nat)(C:m.length<=b)(h:eM P R f args m Q)
    (z: ∀r a,Q r a-> ∃M,fs b a M/\b<=M.length/\r.wf b=G/\x r M):eM P R f args m x:=by
  intro q w y p;refine(h q w y p).mono λT S k=>?_
  obtain⟨d,r,a,L,j,o⟩:=k;obtain⟨M,v,t,e,u⟩:=z r a o;obtain⟨l,F,n,H⟩:=v d S L.rel;exact⟨l,r,M,⟨λi g=>by rw[F i O,L.ln i g],O,λc s=>L.new c (H c s),n,L.iY⟩,by rw[j,gx F r e],u⟩
def F83:jB:=λargs m=>match args with
  |[.s (E a) 4 _,.s (E b) 32 _]=>match m[a.1]?,m[b.1]? with
   |some ⟨.ws .u64 p,_⟩,E ⟨.ws .u8 n,R⟩=>E (.i .i64 (m9 (val (p.take 4)).toNat:Nat),m.set b.1 ⟨.ws .u8 (bL (val (p.take 4)).toNat),R⟩,
      ed (D (a.2=0/\b.2=0/\4<=p.length/\dG p/\n=lc 32 0/\2^232<=(val (p.take 4)).toNat)) (ed (!(Nat.beq a.1 b.1)) (ek m.length m)))
   |_,_=>N
  |_=>N
def awf(f:4<=p.length)(d:dG p): ∃v:Nat,val (p.take 4)=(v:Int)/\v<115792089237316195423570985008687907853269984665640564039457584007913129639936/\p.getD 0 0=wd v 0/\p.getD 1 0=wd v 1/\p.getD 2 0=wd v 2/\p.getD 3 0=wd v 3:=by
  match p,f with
  |c::a::i::h::r,_=>
   have C:gn c:=d _ Y;have b:gn a:=d _ Y;have w:gn i:=d _ Y;have R:gn h:=d _ Y;have e:val ((c::a::i::h::r).take 4)=c+18446744073709551616*(a+18446744073709551616*(i+18446744073709551616*(h+18446744073709551616*0))):=K;rw[e]
   have H:0<=c+18446744073709551616*(a+18446744073709551616*(i+18446744073709551616*(h+18446744073709551616*0)))/\c+18446744073709551616*(a+18446744073709551616*(i+18446744073709551616*(h+18446744073709551616*0)))<115792089237316195423570985008687907853269984665640564039457584007913129639936:=by obtain⟨q,T⟩:=C;obtain⟨F,P⟩:=b;obtain⟨y,L⟩:=w;obtain⟨l,s⟩:=R;constructor<;>omega
   obtain⟨v,Q⟩:=fy H.1;obtain⟨j,k,u,g⟩:=aod C b w R Q.symm;refine⟨v,Q,?_,j.symm,k.symm,u.symm,g.symm⟩;have:=H.2;rw[Q]at this;omega
def axb{a b:Nat}(h:(!(Nat.beq a b))=G):a≠b:=by intro e;subst e;simp at h
def abd(R:Nat->Option Nat):qI B R 83 F83:=by
  refine mD λargs m r C T=>?_
  unfold F83 at T;split at T
  .rename_i a c b P;split at T
   .rename_i p y H x L n;simp only[eJ,ef]at T;obtain⟨rfl,rfl,F⟩:=T;obtain⟨M,S⟩:=dN F;obtain⟨e,l⟩:=dN S;obtain⟨q,o,f,t,rfl,s⟩:=fU M;obtain⟨a,ao⟩:=a;obtain⟨b,bo⟩:=b;simp only at q o L n e;subst q;subst o;have w:=axb e;obtain⟨v,Q,z,j,k,u,d⟩:=awf f t;rw[Q,dU]at s⊢;refine⟨gz,[a,b],_,_,_,_,aku (c:=c) (P:=P) (y:=y) (R:=x) z s f j k u d,⟨L,K,n,K,dD⟩,by simp[w],(λg i h=>by cases h),l,K,K,?_⟩;simp only[fW,iC,ft,kw,eI,fb,jx];rw[show m.set a (dI.iU (sg [a,b] m.length) ⟨.ws .u64 p,y⟩)=m from fu L];rfl
   .cases T
  .cases T
abbrev KB:List (Nat×jB):=[(83,F83)]
def Zr(R:Nat->Option Nat):fl R KB:=⟨⟨ga f83,abd R⟩,dD⟩
def Wh{T:Nat}{v:Int}(h:fX A p T v)(l:pw 3<=v)(u:v<pw 4):T=4:=by
  obtain⟨a,b,c,_,d⟩:=ic h;have Q:(v.natAbs:Int)=v:=by have:=gH 3;omega
  rw[Q]at a;rw[a]at b c;rcases nf T 4 with y|y|y
  .have:=jk (O:T<=3);omega
  .exact y
  .have:=jk (O:4<=T-1);have:=c O;omega
def apf(p:List Int)(C:Nat)(t y:es):letI a:dI:=⟨.lit [.b A,.s (E (1,0)) 4 C],t⟩;letI c:Nat:=(val (p.take 4)).toNat;letI d:dI:=⟨.ws .u64 p,y⟩;letI e:=ep gz KB LR;(runN e f54.results.toList (fe e f54.ntmps N N 200 [.code (dB f54)] ⟨(fo 0 [.p (E (0,0))]),[a,d],[],[]⟩))=
    ((λv:Nat=>(G,E (.s (E (2,eO 0 32 (v:Int).toNat 1)) (32-(v:Int).toNat) (32-(v:Int).toNat),G),[a,d,⟨.ws .u8 (bL c),5⟩],eb [ed (D (32<=32)) (D (0<=(v:Int)/\(v:Int)<=32)),D (0=0/\0=0/\4<=p.length/\dG p/\lc 32 0=lc 32 (0:Int)/\2^232<=c)])) (m9 c)):=I
def aqk(p:List Int)(C:Nat)(t y R:es):letI a:dI:=⟨.lit [.b A,.s (E (2,0)) 4 C],t⟩;letI c:List Int:=lc 32 0;letI d:dI:=⟨.ws .u64 p,y⟩;letI e:=ep gz KB LR;letI f:V:= .s (E (1,0)) 32 32;(runN e f57.results.toList (fe e f57.ntmps N N 200 [.code (dB f57)] ⟨(fo 0 [.p (E (0,0)),f]),[a,⟨.ws .u8 c,R⟩,d],[],[]⟩))=
    (G,E (f,G),[a,⟨.ws .u8 (bL (val (p.take 4)).toNat),R⟩,d],eb [D (0=0/\0=0/\4<=p.length/\dG p/\dC c c 0=lc 32 (0:Int)/\2^232<=(val (p.take 4)).toNat)]):=I
def apa(C:Nat)(t:es)(m:dE):letI a:dE:=⟨.lit [.b A,.s (E (1,0)) 4 C],t⟩::m;(runM (ep gz [] LR) f55.results.toList (fe (ep gz [] LR) f55.ntmps N N 200 [.code (dB f55)] ⟨fo 0 [.p (E (0,0))],a,[],[]⟩))=(G,E (.i .i64 1,G),a,[G,G,G]):=I
noncomputable abbrev C84:fw:=ep gz [] Q3
def HF:ji B C84:=gy dD (M4 _)
def aNx(p:List Int)(c:Nat)(y:es):letI a:dE:=[⟨.ws .u64 p,y⟩];(nJ [3,4] (fF C84 f84.ntmps N 4 100 [.code (dB f84)] ⟨(fo 0 [.s (E (0,0)) 4 c]),a,[],[]⟩))=
    (dO 4 (dB f84) [],[(3,.i .i64 3),(4,.i .u64 (p.getD 3 0))],a,eb [D (3<p.length)]):=I
abbrev pG(x:Int)(m:dE)(w S:Nat)(u:Int):Prop:=(nJ [3,4] (fF C84 f84.ntmps N w 100 (dO S (dB f84) []) ⟨[(3,.i .i64 3),(4,.i .u64 x)],m,[],[]⟩))=(dO w (dB f84) [],[(3,.i .i64 3),(4,.i .u64 (eA .or .u64 x u))],m,G)
def aLz(x:Int)(m:dE):pG x m 5 4 (x.fdiv 2):=dR
def aJk(x:Int)(m:dE):pG x m 6 5 (x.fdiv 4):=dR
def aEp(x:Int)(m:dE):pG x m 7 6 (x.fdiv 16):=dR
def aDe(x:Int)(m:dE):pG x m 8 7 (x.fdiv 256):=dR
def aHv(x:Int)(m:dE):pG x m 9 8 (x.fdiv 65536):=dR
def aDg(x:Int)(m:dE):pG x m 10 9 ((x.fdiv 65536).fdiv 65536):=dR
def aQs(x:Int)(m:dE):(runN C84 f84.results.toList (fe C84 f84.ntmps N N 100 (dO 10 (dB f84) []) ⟨[(3,.i .i64 3),(4,.i .u64 x)],m,[],[]⟩))=(G,E (.i .i64 (U.i64.wrap (192+(bitLen x.toNat:Int))),G),m,eb [D (gn x)]):=I
def N9(x y:Int):gn (eA .or .u64 x y):=by show gn (U.u64.wrap _);rw[kq];exact⟨O,O⟩
def akw{c:Nat}{y:es}(f:4<=p.length):letI a:dE:=[⟨.ws .u64 p,y⟩];eM B gz 84 [.s (E (0,0)) 4 c] a (λr m=>(∃k:Nat,k<=256/\r= .i .i64 (k:Int))/\m=a):=by
  refine dL C84 f84 ?_;refine jV (t:=[.code (dB f84)]) (eB HF) (aNx p c y) ?_ ?_
  .have:D (3<p.length)=G:=fG O;rw[this];rfl
  generalize p.getD 3 0=F;refine jV (eB HF) (aLz F _) K ?_;generalize eA .or .u64 F (F.fdiv 2)=H;refine jV (eB HF) (aJk H _) K ?_;generalize eA .or .u64 H (H.fdiv 4)=w;refine jV (eB HF) (aEp w _) K ?_;generalize eA .or .u64 w (w.fdiv 16)=P;refine jV (eB HF) (aDe P _) K ?_;generalize eA .or .u64 P (P.fdiv 256)=L;refine jV (eB HF) (aHv L _) K ?_;generalize eA .or .u64 L (L.fdiv 65536)=q;refine jV (eB HF) (aDg q _) K ?_;have d:=N9 q ((q.fdiv 65536).fdiv 65536);generalize eA .or .u64 q ((q.fdiv 65536).fdiv 65536)=u at*;refine mX (eB HF) (aQs u _) ?_ K ⟨⟨192+bitLen u.toNat,?_,?_⟩,K⟩
  .rw [fG d];rfl
  .have:=pL u.toNat 64 (by have:=d.2;have:=d.1;omega);omega
  .have:=pL u.toNat 64 (by have:=d.2;have:=d.1;omega);rw[iy O];rfl
def yR(s:2^232<=v)(Q:v<115792089237316195423570985008687907853269984665640564039457584007913129639936):(0:Int)<v/\pw 3<=(v:Int)/\(v:Int)<pw 4:=by have l:pw 3=6277101735386680763835789423207666416102355444464034512896:=J;have u:pw 4=115792089237316195423570985008687907853269984665640564039457584007913129639936:=J;rw[l,u];exact⟨O,O,O⟩
def ZB{t:es}(s:2^232<=v)(c:v<115792089237316195423570985008687907853269984665640564039457584007913129639936):eM B gz 54 [.p (E (0,0))] [⟨.int v,t⟩] (λr m=>r= .s (E (2,m9 v)) (32-m9 v) (32-m9 v)/\m=[⟨.int v,t⟩,⟨.dead,0⟩,⟨.ws .u8 (bL v),5⟩]):=by
  obtain⟨a,n,j⟩:=yR s c;refine zj 3 Y (Q:=λr m=>r= .s (E (2,m9 v)) (32-m9 v) (32-m9 v)/\ ∃p y,fX A p 4 (v:Int)/\m=[⟨.lit [.b A,.s (E (1,0)) 4 p.length],t⟩,⟨.ws .u64 p,y⟩,⟨.ws .u8 (bL v),5⟩]) ?_ ?_
  .refine dL (ep gz KB LR) f54 ?_;refine jf 0 K a K K λp T y d⟨F,H,w,P,L,q⟩=>?_
   have f:=Wh d n j;subst f;have b:=apf p p.length t y;rw[q,dU]at b;have o:m9 v<=2:=by unfold m9;split<;>(try split)<;>omega
   refine mX (gK (Zr _) (eP _)) b ?_ K ⟨?_,p,y,d,K⟩
   .simp only[dX,eG,iO,iv];exact⟨⟨O,O,O⟩,⟨dD,dD,H,P,dD,s⟩,K⟩
   .simp only[dU,kE (O:32≠m9 v),ir]
  .rintro r m⟨rfl,p,y,d,rfl⟩;refine⟨[⟨.int v,t⟩,⟨.dead,0⟩,⟨.ws .u8 (bL v),5⟩],fs.close' 0 1 Y J K K K d (fs.drop 1 0 Y K (fs.refl _ _)),Y,K,K,K⟩
def axi{t R:es}(s:2^232<=v)(Q:v<115792089237316195423570985008687907853269984665640564039457584007913129639936):letI a:V:= .s (E (1,0)) 32 32;eM B gz 57 [.p (E (0,0)),a] [⟨.int v,t⟩,⟨.ws .u8 (lc 32 0),R⟩] (λr m=>r=a/\m=[⟨.int v,t⟩,⟨.ws .u8 (bL v),R⟩]):=by
  obtain⟨o,n,j⟩:=yR s Q;refine eV Y K ?_;refine dL (ep gz KB LR) f57 ?_;refine jf 0 K o K K λp T y d⟨F,H,w,P,L,q⟩=>?_
  have f:=Wh d n j;subst f;have b:=aqk p p.length t y R;rw[q,dU]at b;refine mX (gK (Zr _) (eP _)) b ?_ K ⟨K,?_⟩
  .simp only[dX,eG];exact⟨⟨dD,dD,H,P,J,s⟩,K⟩
  .exact fs.close' 0 2 Y J K K K d (.take 2 Y Y K K)
def alg{t:es}(s:2^232<=v)(Q:v<115792089237316195423570985008687907853269984665640564039457584007913129639936):letI a:dE:=[⟨.int v,t⟩];eM B gz 55 [.p (E (0,0))] a (λr m=>r= .i .i64 1/\m=a):=by
  obtain⟨o,n,j⟩:=yR s Q;refine eV Y K ?_;refine dL (ep gz [] LR) f55 ?_;refine jf 0 K o K K λp T y d⟨F,H,w,P,L,q⟩=>?_
  have f:=Wh d n j;subst f;refine kF (gK dD (eP _)) (apa p.length t [⟨.ws .u64 p,y⟩]) K K ⟨K,?_⟩;exact fs.close' 0 1 Y J K K K d (.take 1 Y Y K K)
def axx(c:Nat)(t:es)(m:dE):letI a:V:= .s (E (1,0)) 4 c;letI d:dE:=⟨.lit [.b A,a],t⟩::m;(mW (ep gz [] []) (eC (ep gz [] []) f56.ntmps 200 [6] [.code (dB f56)] ⟨fo 0 [.p (E (0,0))],d,[],[]⟩))=(E (84,[a],E 7),dF 1 5 (dB f56) [],[(6,a)],d,[G]):=I
def Uq:eo B 84:=ga f84
def Jm:eo B 54:=ga f54
def QI:eo B 55:=ga f55
def Qk:eo B 56:=ga f56
def TX:eo B 57:=ga f57
def atp{t:es}(s:2^232<=v)(b:v<115792089237316195423570985008687907853269984665640564039457584007913129639936):letI a:dE:=[⟨.int v,t⟩];eM B gz 56 [.p (E (0,0))] a (λr m=>(∃k:Nat,k<=256/\r= .i .i64 (k:Int))/\m=a):=by
  obtain⟨o,n,j⟩:=yR s b;refine eM.rP (Q:=λr m=>(∃k:Nat,k<=256/\r= .i .i64 (k:Int))/\ ∃p y,fX A p 4 (v:Int)/\m=[⟨.lit [.b A,.s (E (1,0)) 4 p.length],t⟩,⟨.ws .u64 p,y⟩]) ?_ ?_
  .refine dL (ep gz [] []) f56 ?_;refine jf 0 K o K K λp T y d⟨F,H,w,P,L,q⟩=>?_
   have f:=Wh d n j;subst f;refine dY (eB UR) (axx p.length t [⟨.ws .u64 p,y⟩]) K K K Uq ((akw (c:=p.length) (y:=y) H).lift (gl:=gz) (m:=[⟨.lit [.b A,.s (E (1,0)) 4 p.length],t⟩,⟨.ws .u64 p,y⟩]) [1] ⟨K,K,dD⟩ J (λg i h=>by cases h) K) K ?_;rintro r u⟨C,e,⟨⟨k,R,rfl⟩,rfl⟩,_,rfl,rfl⟩_;refine⟨_,K,?_⟩;exact kF (eB UR) (fn:=f56) (i:=N) (j:=200) (z:=[]) (s:=[]) I K K ⟨⟨k,R,K⟩,p,y,d,K⟩
  .rintro r m⟨⟨k,R,rfl⟩,p,y,d,rfl⟩;exact⟨_,fs.close' 0 1 Y J K K K d (.take 1 (M:=[⟨.int v,t⟩]) Y Y K K),Y,K,⟨k,R,K⟩,K⟩
abbrev EO(m:dE)(w:(List Nat->List Nat))(S u v:Nat)(u3:List Item)(u4:St)(o:FuncId)(i:Tmp)(F:(List (Nat×V)->List (Nat×V)))(t:V):Prop:=(mW (ep gz [] []) (eC (ep gz [] []) f26.ntmps 200 (w [S,u]) u3 u4))=(E (o,[.p (E (0,0))],E i),dF 3 v (dB f26) [],(F [(S,t),(u,.p (E (0,0)))]),m,[])
def aMw(m:dE):EO m (λS=>S) 0 5 2 [.code (dB f26)] ⟨fo 0 [.p (E (0,0))],m,[],[]⟩ 55 6 (λS=>S) (.p (E (0,0))):=dR
def aNd(m:dE):letI a:V:= .p (E (0,0));EO m (λS=>0::S) 8 9 6 (dF 3 2 (dB f26) []) ⟨[(6,.i .i64 1),(0,a),(5,a)],m,[],[]⟩ 56 10 (λS=>(0,a)::S) (.b A):=dR
def aPo(k:Nat)(m:dI):letI a:V:= .p (E (0,0));letI c:V:= .s (E (1,0)) 32 32;(mW (ep gz [] []) (eC (ep gz [] []) f26.ntmps 200 [15,16] (dF 3 6 (dB f26) []) ⟨[(10,.i .i64 (k:Int)),(0,a),(8,.b A),(9,a)],[m],[A,A],[]⟩))=(E (57,[a,c],E 17),dF 5 3 (dB f26) [],[(15,a),(16,c)],[m,⟨.ws .u8 (lc 32 0),5⟩],[G,D ((k:Int)>256)==A]):=I
def aOf(m:dE):letI a:V:= .s (E (1,0)) 32 32;(runM (ep gz [] []) f26.results.toList (fe (ep gz [] []) f26.ntmps N N 200 (dF 5 3 (dB f26) []) ⟨[(17,a),(15,.p (E (0,0))),(16,a)],m,[],[]⟩))=(G,E (a,G),m,[]):=I
def YX{t:es}(s:2^232<=v)(Q:v<115792089237316195423570985008687907853269984665640564039457584007913129639936):eM B gz 26 [.p (E (0,0))] [⟨.int v,t⟩] (λr m=>r= .s (E (1,0)) 32 32/\m=[⟨.int v,t⟩,⟨.ws .u8 (bL v),5⟩]):=by
  refine dL _ f26 (dY (eB UR) (aMw _) K K K QI (alg s Q) K ?_);rintro r u⟨rfl,rfl⟩_;refine⟨_,K,?_⟩;refine dY (eB UR) (aNd _) K K K Qk (atp s Q) K ?_;rintro r u⟨⟨k,R,rfl⟩,rfl⟩_;refine⟨_,K,?_⟩;refine dY (eB UR) (aPo k _) ?_ K K TX (axi s Q) K ?_
  .have:(D ((k:Int)>(256:Int))==A)=G:=by rw[nY,rF];omega
   rw[this];rfl
  rintro r u⟨rfl,rfl⟩_;refine⟨_,K,?_⟩;exact kF (eB UR) (aOf _) K K ⟨K,K⟩
abbrev kj(_:Nat)(R:es)(n:Addr):dI:=⟨.lit [.y 253 (.r (.pointer (E n)))],R⟩
abbrev ge(i:Nat):Nat->Option Nat:=λg=>bif Nat.beq g 1 then E i else N
instance(c:Int):Decidable (Ai c):=by unfold Ai;infer_instance
def hsA:ByteArray:={data:= #[70,70,70,70,70,70,70,69,70,70,70,70,70,70,70,70,70,70,70,70,70,70,70,70,70,70,70,70,70,70,70,70,70,70,70,70,70,70,70,70,48,48,48,48,48,48,48,48,70,70,70,70,70,70,70,70,70,70,70,70,70,70,70,67]}
def abh:o9 hsA:=⟨by decide+kernel,by decide+kernel,by decide+kernel⟩
def aeu:ux hsA=115792089210356248756420345214020892766250353991924191454421193933289684991996:=kt
def hsP:ByteArray:={data:= #[70,70,70,70,70,70,70,69,70,70,70,70,70,70,70,70,70,70,70,70,70,70,70,70,70,70,70,70,70,70,70,70,70,70,70,70,70,70,70,70,48,48,48,48,48,48,48,48,70,70,70,70,70,70,70,70,70,70,70,70,70,70,70,70]}
def Uw:o9 hsP:=⟨by decide+kernel,by decide+kernel,by decide+kernel⟩
def TR:ux hsP=115792089210356248756420345214020892766250353991924191454421193933289684991999:=kt
def hsN:ByteArray:={data:= #[70,70,70,70,70,70,70,69,70,70,70,70,70,70,70,70,70,70,70,70,70,70,70,70,70,70,70,70,70,70,70,70,55,50,48,51,68,70,54,66,50,49,67,54,48,53,50,66,53,51,66,66,70,52,48,57,51,57,68,53,52,49,50,51]}
def aaq:o9 hsN:=⟨by decide+kernel,by decide+kernel,by decide+kernel⟩
def afx:ux hsN=115792089210356248756420345214020892766061623724957744567843809356293439045923:=kt
def abk:ByteArray:={data:= #[50,56,69,57,70,65,57,69,57,68,57,70,53,69,51,52,52,68,53,65,57,69,52,66,67,70,54,53,48,57,65,55,70,51,57,55,56,57,70,53,49,53,65,66,56,70,57,50,68,68,66,67,66,68,52,49,52,68,57,52,48,69,57,51]}
def U6:o9 abk:=⟨by decide+kernel,by decide+kernel,by decide+kernel⟩
def XY:ux abk=18505919022281880113072981827955639221458448578012075254857346196103069175443:=kt
def hsX:ByteArray:={data:= #[51,50,67,52,65,69,50,67,49,70,49,57,56,49,49,57,53,70,57,57,48,52,52,54,54,65,51,57,67,57,57,52,56,70,69,51,48,66,66,70,70,50,54,54,48,66,69,49,55,49,53,65,52,53,56,57,51,51,52,67,55,52,67,55]}
def aez:o9 hsX:=⟨by decide+kernel,by decide+kernel,by decide+kernel⟩
def ajg:ux hsX=22963146547237050559479531362550074578802567295341616970375194840604139615431:=kt
def hsY:ByteArray:={data:= #[66,67,51,55,51,54,65,50,70,52,70,54,55,55,57,67,53,57,66,68,67,69,69,51,54,66,54,57,50,49,53,51,68,48,65,57,56,55,55,67,67,54,50,65,52,55,52,48,48,50,68,70,51,50,69,53,50,49,51,57,70,48,65,48]}
def aff:o9 hsY:=⟨by decide+kernel,by decide+kernel,by decide+kernel⟩
def aiw:ux hsY=85132369209828568825618990617112496413088388631904505083283536607588877201568:=kt
def hsR:ByteArray:={data:= #[55,102,102,102,102,102,102,100,56,48,48,48,48,48,48,50,102,102,102,102,102,102,102,101,48,48,48,48,48,48,48,49,55,102,102,102,102,102,102,101,56,48,48,48,48,48,48,51,55,102,102,102,102,102,102,99,56,48,48,48,48,48,48,50]}
def SR:o9 hsR:=⟨by decide+kernel,by decide+kernel,by decide+kernel⟩
def PL:ux hsR=57896044551258231062740198220913455226441901632205615997740090104278065086466:=kt
def Zv: ∀g i,mK g=E i-> ∃j,[2,0,1][i]?=E j/\ge 0 g=E j:=rL ⟨_,K,K⟩ DO
abbrev EE(R k:es)(n:Addr)(w:Nat)(S:Func)(u:ByteArray):Prop:=(mW (ep (ge 0) [] []) (eC (ep (ge 0) [] []) w 200 [4] [.code (dB S)] ⟨(fo 0 []),[kj 1 R n,gY n k],[],[]⟩))=
    (E (89,[.p (E (2,0)),.r (.string u),.i .i64 16],E 5),dF 1 2 (dB S) [],[(4,.p (E (2,0)))],[kj 1 R n,gY n k,⟨.lit [.b A,.s N 0 0],90⟩],[])
def aCg(R k:es)(n:Addr):EE R k n f73.ntmps f73 hsP:=dR
abbrev Fo(m:dE)(w:List ResultVar)(S:Nat)(u:Func):Prop:=letI a:V:= .p (E (2,0));(gi w (et (ep (ge 0) [] []) S N 200 (dF 1 2 (dB u) []) ⟨[(5,.t [a,.b G]),(4,a)],m,[],[]⟩))=(G,E a,m,[])
def aJp(m:dE):Fo m f73.results.toList f73.ntmps f73:=dR
def UC{R k:es}{n:Addr}:eM B (ge 0) 73 [] [kj 1 R n,gY n k] (λr m=>r= .p (E (2,0))/\m=[kj 1 R n,gY n k,⟨.int Pv,90⟩]):=by
  have j:ji B (ep (ge 0) [] []):=gy dD dD
  refine dL _ f73 (dY (eB j) (aCg R k n) K K K IS
    ((yH (tz:=90) (tg:=R) (te:=k) (ev:=n) Uw).lift (gl:=ge 0) [2,0,1] ⟨K,K,K,K,K,K,dD⟩ J Zv K) K ?_)
  rintro r u⟨C,e,⟨rfl,rfl⟩,_,rfl,rfl⟩_;refine⟨_,K,?_⟩;refine Ev.done (fn:=f73) (eB j) (j:=200) (z:=[]) (s:=[]) (r:= .p (E (2,0))) (u:=[kj 1 R n,gY n k,⟨.int (ux hsP),90⟩]) (by exact aJp _) K ⟨K,by rw[TR];rfl⟩
def aOk(R k:es)(n:Addr):EE R k n f96.ntmps f96 hsR:=dR
def aCi(m:dE):Fo m f96.results.toList f96.ntmps f96:=dR
def axo{R k:es}{n:Addr}:eM B (ge 0) 96 [] [kj 1 R n,gY n k] (λr m=>r= .p (E (2,0))/\m=[kj 1 R n,gY n k,⟨.int 57896044551258231062740198220913455226441901632205615997740090104278065086466,90⟩]):=by
  have j:ji B (ep (ge 0) [] []):=gy dD dD
  refine dL _ f96 (dY (eB j) (aOk R k n) K K K IS
    ((yH (tz:=90) (tg:=R) (te:=k) (ev:=n) SR).lift (gl:=ge 0) [2,0,1] ⟨K,K,K,K,K,K,dD⟩ J Zv K) K ?_)
  rintro r u⟨C,e,⟨rfl,rfl⟩,_,rfl,rfl⟩_;refine⟨_,K,?_⟩;refine Ev.done (fn:=f96) (eB j) (j:=200) (z:=[]) (s:=[]) (r:= .p (E (2,0))) (u:=[kj 1 R n,gY n k,⟨.int (ux hsR),90⟩]) (by exact aCi _) K ⟨K,by rw[PL]⟩
def Zq(R:Nat->Option Nat)(m:dE):Option (Nat×Nat):=
  match R 1 with
  |some e=>match m[e]? with
   |some ⟨.lit [.y 253 (.r (.pointer (E _)))],_⟩=>match m[e+1]? with
    |some ⟨.lit [.i .i64 (.ofNat 12)],_⟩=>E (e,e+1)
    |_=>N
   |_=>N
  |none=>N
def KZ(R:Nat->Option Nat)(v:Int):jB:=λargs m=>match args with
  |[]=>match Zq R m with
   |some (e,x)=>E (.p (E (m.length,0)),m++[⟨.int v,90⟩],ed (!(Nat.beq e x)) (ek m.length m))
   |none=>N
  |_=>N
def MK{R:Nat->Option Nat}{f:Nat}{v:Int}(s: ∀a k n,eM B (ge 0) f [] [kj 1 a n,gY n k] (λr m=>r= .p (E (2,0))/\m=[kj 1 a n,gY n k,⟨.int v,90⟩])):qI B R f (KZ R v):=by
  refine mD λargs m r u T=>?_
  unfold KZ at T;split at T
  .split at T
   .rename_i e x L;simp only[eJ,ef]at T;obtain⟨rfl,rfl,F⟩:=T;obtain⟨M,S⟩:=dN F;have b:e≠x:=by intro h;subst h;simp at M
    unfold Zq at L;split at L
    .rename_i y p;split at L
     .rename_i n a j;split at L
      .rename_i k o;cases L;refine⟨ge 0,[e,e+1],_,_,_,_,s a k n,⟨j,K,o,K,dD⟩,Y,?_,S,K,K,?_⟩
       .intro g i h;unfold ge at h;cases z:Nat.beq g 1
        .rw [z]at h;cases h
        .rw [z]at h;cases h;have:=iB z;subst this;exact⟨e,K,p⟩
       .simp only[fW,iC,ft,kw,eI,fb];rw[show m.set e (dI.iU (sg [e,e+1] m.length) (kj 1 a n))=m from fu j,show m.set (e+1) (dI.iU (sg [e,e+1] m.length) (gY n k))=m from fu o];rfl
      .cases L
     .cases L
    .cases L
   .cases T
  .cases T
def xH:eo B 73:=ga f73
def PY:eo B 96:=ga f96
abbrev Dw:Int:=57896044551258231062740198220913455226441901632205615997740090104278065086466
def S9(R:Nat->Option Nat):qI B R 73 (KZ R Pv):=MK λ_ _ _=>UC
def acs(R:Nat->Option Nat):qI B R 96 (KZ R Dw):=MK λ_ _ _=>axo
abbrev Jw:Nat->Option Nat:=λg=>bif Nat.beq g 1 then E 2 else bif Nat.beq g 4 then E 4 else N
noncomputable abbrev K67:List (Nat×jB):=[(73,KZ Jw Pv),(91,inl Jw [] LQ f91 [])]
noncomputable abbrev yr:fw:=ep Jw K67 LQ
noncomputable abbrev zR:Code:=dB f67
def aEv(l:List V)(o:Nat)(v th:Int)(tl tv tg te tk:es)(ev:Addr):letI a:V:= .p (E (1,0));letI c:dI:=⟨.lit [.i .i64 th],tk⟩;(mW yr (eC yr f67.ntmps 200 [0,1,8,9] [.code (dB f67)] ⟨fo 0 [.p (E (0,o)),a],[⟨.lit l,tl⟩,⟨.int v,tv⟩,kj 3 tg ev,gY ev te,c],[],[]⟩))=(E (90,([.p (E (5,0)),a,.i .u64 257],E 10)),dF 0 3 zR [],[(0,.p (E (0,o))),(1,a),(8,.p (E (5,0))),(9,a)],[⟨.lit l,tl⟩,⟨.int v,tv⟩,kj 3 tg ev,gY ev te,c,⟨.lit [.b A,.s N 0 0],90⟩],[]):=I
def aKh(l:List V)(o:Nat)(v w th:Int)(tl tv tg te tk:es)(ev:Addr):letI c:dI:=⟨.lit [.i .i64 th],tk⟩;letI a:dE:=[⟨.lit l,tl⟩,⟨.int v,tv⟩,kj 3 tg ev,gY ev te,c,⟨.int w,90⟩];letI b:V:= .p (E (5,0));(mW yr (eC yr f67.ntmps 200 [0,4,11,12,13] (dF 0 3 zR []) ⟨[(10,b),(0,.p (E (0,o))),(1,.p (E (1,0))),(8,b),(9,.p (E (1,0)))],a,[],[]⟩))=(E (51,([b,b,.p (E (6,0))],E 14)),dF 1 4 zR [],[(0,.p (E (0,o))),(4,b),(11,b),(12,b),(13,.p (E (6,0)))],[⟨.lit l,tl⟩,⟨.int v,tv⟩,kj 3 tg ev,gY ev te,c,⟨.int w,90⟩,⟨.int Pv,90⟩],[ed G (ek 6 a)]):=I
abbrev zH(o:Nat)(m:dE)(w S u u3 u4 d c F:Nat)(e:V)(t H:List Bool)(s:Int):Prop:=letI a:V:= .p (E (5,0));mQ (fF yr f67.ntmps (E [0,4,5]) w 200 (dF S u zR []) ⟨[(u3,a),(0,.p (E (0,o))),(4,a),(u4,e),(d,a),(c,.p (E (F,0)))],m,t,[]⟩) [0,4,5]=(dO w zR [],[(0,.p (E (0,o))),(4,a),(5,.i .i64 s)],m,eb H)
def aBh(o:Nat)(m:dE):zH o m 5 1 4 14 11 12 13 6 (.p (E (5,0))) [] [] 0:=dR
abbrev vP(l:List V)(o i:Nat)(w S:Nat)(u u3:List dI):Prop:=letI a:=(i:Int);mQ (fF yr f67.ntmps (E [0,4,5]) w 200 (dO S zR []) ⟨[(0,.p (E (0,o))),(4,.p (E (5,0))),(5,.i .i64 (i:Int))],u,[],[]⟩) [0,4,5]=(dO w zR [],[(0,.p (E (0,o))),(4,.p (E (5,0))),(5,.i .i64 a)],u3,eb [D (1=1/\dH o a.toNat 1<l.length),D (0<=a/\a<9),G,G])
def aGx(l:List V)(o i:Nat)(tl:es)(P L s b4 f:dI):letI a:dI:=⟨.lit [.b A,.s N 0 0],90⟩;vP l o i 9 5 [⟨.lit l,tl⟩,P,L,s,b4,a,f] [⟨.lit (l.set (dH o (i:Int).toNat 1) (ofConst (ip.int .u32 0))),tl⟩,P,L,s,b4,a,f]:=dR
abbrev EM(l:List V)(o i T F:Nat)(p:List Int)(n:Bool)(tl y:es)(P L s b4 f:dI)(w S:Nat)(u:Int):Prop:=letI a:dI:=⟨.lit [.b n,.s (E (7,0)) T F],90⟩;letI c:=(i:Int);letI d:dI:=⟨.ws .u64 p,y⟩;mQ (fF yr f67.ntmps (E [0,4,5]) w 200 (dO S zR []) ⟨[(0,.p (E (0,o))),(4,.p (E (5,0))),(5,.i .i64 (i:Int))],[⟨.lit l,tl⟩,P,L,s,b4,a,f,d],[G],[]⟩) [0,4,5]=(dO w zR [],[(0,.p (E (0,o))),(4,.p (E (5,0))),(5,.i .i64 c)],[⟨.lit (l.set (dH o c.toNat 1) (.i .u32 (eA BinOp.and .u32 (U.u32.wrap (p.getD 0 0)) u))),tl⟩,P,L,s,b4,a,f,d],eb [D (1=1/\dH o c.toNat 1<l.length),D (0<=c/\c<9),D (0<p.length),D ((0:Int)<=0/\0<(T:Int)),D ((T:Int)>0)==G,G,G])
def aPi(l:List V)(o i T F:Nat)(p:List Int)(n:Bool)(tl y:es)(P L s b4 f:dI):EM l o i T F p n tl y P L s b4 f 9 5 536870911:=dR
abbrev En(o i:Nat)(m:dE)(w S u:Nat)(u3:Int)(u4:Tmp):Prop:=letI a:V:= .p (E (5,0));(mW yr (eC yr f67.ntmps 200 [0,4,5,w,S] (dO u zR []) ⟨[(0,.p (E (0,o))),(4,a),(5,.i .i64 (i:Int))],m,[],[]⟩))=(E (92,([a,a,.i .u64 u3],E u4)),dF u 3 zR [],[(0,.p (E (0,o))),(4,a),(5,.i .i64 (i:Int)),(w,a),(S,a)],m,[])
def aKz(o i:Nat)(m:dE):En o i m 37 38 9 29 39:=dR
def Yf(o i:Nat)(m:dE):letI a:Int:=U.i64.wrap ((i:Int)+1);zH o m 12 9 3 39 5 37 38 5 (.i .i64 (i:Int)) [A] [(a==9)==A] (a):=dR
def aPt(o:Nat)(m:dE):letI a:V:= .p (E (5,0));(runM yr f67.results.toList (fe yr f67.ntmps (E [0,4,5]) N 200 (dF 9 3 zR []) ⟨[(39,a),(0,.p (E (0,o))),(4,a),(5,.i .i64 8),(37,a),(38,a)],m,[],[]⟩))=(G,E (.t [],G),m,[]):=I
def aGt(l:List V)(o i:Nat)(tl:es)(P L s b4 f:dI):letI a:dI:=⟨.lit [.b A,.s N 0 0],90⟩;vP l o i 16 12 [⟨.lit l,tl⟩,P,L,s,b4,a,f] [⟨.lit (l.set (dH o (i:Int).toNat 1) (ofConst (ip.int .u32 0))),tl⟩,P,L,s,b4,a,f]:=dR
def aGl(l:List V)(o i T F:Nat)(p:List Int)(n:Bool)(tl y:es)(P L s b4 f:dI):EM l o i T F p n tl y P L s b4 f 16 12 268435455:=dR
def aPw(o i:Nat)(m:dE):En o i m 62 63 16 28 64:=dR
def VP(o i:Nat)(m:dE):letI a:Int:=U.i64.wrap ((i:Int)+1);zH o m 5 16 3 64 5 62 63 5 (.i .i64 (i:Int)) [G] [D (a<9)==G] (a):=dR
def aCv(l:List V)(o i F:Nat)(p:List Int)(n:Bool)(tl y:es)(P L s b4 f:dI):letI a:dI:=⟨.lit [.b n,.s (E (7,0)) 0 F],90⟩;letI c:dI:=⟨.ws .u64 p,y⟩;vP l o i 9 5 [⟨.lit l,tl⟩,P,L,s,b4,a,f,c] [⟨.lit (l.set (dH o (i:Int).toNat 1) (ofConst (ip.int .u32 0))),tl⟩,P,L,s,b4,a,f,c]:=dR
def aKd(l:List V)(o i F:Nat)(p:List Int)(n:Bool)(tl y:es)(P L s b4 f:dI):letI a:dI:=⟨.lit [.b n,.s (E (7,0)) 0 F],90⟩;letI c:dI:=⟨.ws .u64 p,y⟩;vP l o i 16 12 [⟨.lit l,tl⟩,P,L,s,b4,a,f,c] [⟨.lit (l.set (dH o (i:Int).toNat 1) (ofConst (ip.int .u32 0))),tl⟩,P,L,s,b4,a,f,c]:=dR
structure Ju(l:List V):Prop where
  wf: ∀n,nd n l=G
  iU: ∀τ,ml τ l=l
def L9{n:Nat}{k:U}{x:Int}: ∀{l:List V}{i:Nat},nd n l=G->nd n (l.set i (.i k x))=G
  |[],_,h=>h
  |a::l,0,h=>by simp only[nd,iv]at h;simp only[dJ,nd,V.wf,h.2,xn]
  |a::l,i+1,h=>by simp only[nd,iv]at h;simp only[dK,nd,h.1,L9 h.2,xn]
def Iv{s:Nat->Nat}{k:U}{x:Int}: ∀{l:List V}{i:Nat},ml s l=l->ml s (l.set i (.i k x))=l.set i (.i k x)
  |[],_,h=>h
  |a::l,0,h=>by simp only[ml,FM]at h;simp only[dJ,ml,V.iU,h.2]
  |a::l,i+1,h=>by simp only[ml,FM]at h;simp only[dK,ml,h.1,Iv h.2]
def Ju.set{l:List V}(h:Ju l)(i:Nat)(k:U)(x:Int):Ju (l.set i (.i k x)):=⟨λn=>L9 (h.wf n),λs=>Iv (h.iU s)⟩
def rZ:ji B yr:=gy ⟨⟨xH,S9 Jw⟩,⟨ga f91,mV (l:=[]) dD (jF Jw) I I []⟩,dD⟩ (jF Jw)
def zp: ∀g i,yr.mw g=E i->i<7:=by
  intro g i h;have h:Jw g=E i:=h;unfold Jw at h;cases M:Nat.beq g 1
  .rw [M]at h;cases S:Nat.beq g 4
   .rw [S]at h;cases h
   .rw [S]at h;cases h;decide
  .rw [M]at h;cases h;decide
abbrev Hl(l:List V)(v v0 th:Int)(tl tv tg te tk:es)(ev:Addr):dE:=[⟨.lit l,tl⟩,⟨.int v0,tv⟩,kj 3 tg ev,gY ev te,⟨.lit [.i .i64 th],tk⟩,⟨.int v,90⟩,⟨.int Pv,90⟩]
abbrev Ov(o i:Nat):eZ:=[(0,.p (E (0,o))),(4,.p (E (5,0))),(5,.i .i64 (i:Int))]
abbrev aRn(o i:Nat):eZ:=[(39,.p (E (5,0))),(0,.p (E (0,o))),(4,.p (E (5,0))),(5,.i .i64 (i:Int)),(37,.p (E (5,0))),(38,.p (E (5,0)))]
abbrev aBt(o i:Nat):eZ:=[(64,.p (E (5,0))),(0,.p (E (0,o))),(4,.p (E (5,0))),(5,.i .i64 (i:Int)),(62,.p (E (5,0))),(63,.p (E (5,0)))]
def FO{l:List V}(t:Ju l){n:Nat}(x:Nat.blt 3 n=G){v v0 th:Int}{tl tv tg te tk:es}{ev:Addr}:ek n (Hl l v v0 th tl tv tg te tk ev)=G:=by simp only[eu,t.wf n,x,xn]
def IX:eo B 90:=ga f90
def XP{v:Int}(h:0<=v):eA BinOp.and U.u32 (U.u32.wrap (v%18446744073709551616)) 536870911=v%536870912:=by have e:U.u32.wrap (v%18446744073709551616)=v%18446744073709551616%4294967296:=F7 _;rw[e];have:=DN (x:=v%18446744073709551616%4294967296) O O;have S:eA BinOp.and U.u32 (v%18446744073709551616%4294967296) 536870911=AN (v%18446744073709551616%4294967296) 536870911:=K;rw[S,this];omega
def WW{v:Int}(h:0<=v):eA BinOp.and U.u32 (U.u32.wrap (v%18446744073709551616)) 268435455=v%268435456:=by have e:U.u32.wrap (v%18446744073709551616)=v%18446744073709551616%4294967296:=F7 _;rw[e];have:=DS (x:=v%18446744073709551616%4294967296) O O;have S:eA BinOp.and U.u32 (v%18446744073709551616%4294967296) 268435455=AN (v%18446744073709551616%4294967296) 268435455:=K;rw[S,this];omega
section
variable{b:Nat}{Q:V->dE->Prop}{l:List V}{o i:Nat}{v v0 th:Int}{tl tv tg te tk:es}{ev:Addr}
def I6(H:b<=7)(hi:i<9)(k:0<=v)(z:v<pw 1000)(f:o+i<l.length)(t:Ju l)
    (next:Ev B yr 67 f67.ntmps b [] (dF 9 3 zR []) (aRn o i) (Hl (l.set (o+i) (.i .u32 (v%536870912))) (v/2^29) v0 th tl tv tg te tk ev) Q):
    Ev B yr 67 f67.ntmps b [] (dO 5 zR []) (Ov o i) (Hl l v v0 th tl tv tg te tk ev) Q:=by
  have R:dH o ((i:Nat):Int).toNat 1=o+i:=by rw[eE,dU,jq]
  have j:Ev B yr 67 f67.ntmps b [] (dO 9 zR []) (Ov o i) (Hl (l.set (o+i) (.i .u32 (v%536870912))) v v0 th tl tv tg te tk ev) Q:=by refine dY (eB rZ) (aKz o i _) K K K qm ((Ur v 90 k z).lift (gl:=Jw) (m:=Hl (l.set (o+i) (.i .u32 (v%536870912))) v v0 th tl tv tg te tk ev) [5] ⟨K,K,dD⟩ J (λg i h=>by cases h) (FO (t.set _ _ _) K)) K ?_;rintro r S⟨M,e,⟨rfl,rfl⟩,_,rfl,rfl⟩_;exact⟨_,K,next⟩
  refine Ev.ld 5 K (FO t K) K K (λC=>?_) λn p T y x=>?_
  .refine fk (eB rZ) (aGx l o i tl ⟨.int v0,tv⟩ (kj 3 tg ev) (gY ev te) ⟨.lit [.i .i64 th],tk⟩ ⟨.int Pv,90⟩) ?_ ?_
   .rw [R];simp only[dX,eG];exact⟨⟨dD,f⟩,⟨O,O⟩,dD,dD,K⟩
   .rw [R];subst C;exact Ev.rP 7 (Hl (l.set (o+i) (.i .u32 (0%536870912))) 0 v0 th tl tv tg te tk ev) (fs.nU 5 Y K (fs.refl _ _)) H Y zp K K j
  .rcases k9 0 v with u|hz
   .obtain⟨rfl,F,s,w,P,L,q⟩:=mg x u;have d:=nw F s P q;refine fk (eB rZ) (aPi l o i T p.length p A tl y ⟨.int v0,tv⟩ (kj 3 tg ev) (gY ev te) ⟨.lit [.i .i64 th],tk⟩ ⟨.int Pv,90⟩) ?_ ?_
    .rw [R];simp only[dX,eG,nY];exact⟨⟨dD,f⟩,⟨O,O⟩,O,⟨O,O⟩,O,dD,dD,K⟩
    .rw [R,d,XP k];exact Ev.rP 7 (Hl (l.set (o+i) (.i .u32 (v%536870912))) v v0 th tl tv tg te tk ev) (fs.close' 5 7 Y J K K K x (.take 7 Y Y K (FO (t.set _ _ _) K))) H Y zp K K j
   .have c:v=0:=O;have a:=(gI x).2 c;subst a;refine fk (eB rZ) (aCv l o i p.length p n tl y ⟨.int v0,tv⟩ (kj 3 tg ev) (gY ev te) ⟨.lit [.i .i64 th],tk⟩ ⟨.int Pv,90⟩) ?_ ?_
    .rw [R];simp only[dX,eG];exact⟨⟨dD,f⟩,⟨O,O⟩,dD,dD,K⟩
    .rw [R];subst c;exact Ev.rP 7 (Hl (l.set (o+i) (.i .u32 (0%536870912))) 0 v0 th tl tv tg te tk ev) (fs.close' 5 7 Y J K K K x (.take 7 Y Y K (FO (t.set _ _ _) K))) H Y zp K K j
def NA(H:b<=7)(hi:i<9)(k:0<=v)(z:v<pw 1000)(f:o+i<l.length)(t:Ju l)
    (next:Ev B yr 67 f67.ntmps b [] (dF 16 3 zR []) (aBt o i) (Hl (l.set (o+i) (.i .u32 (v%268435456))) (v/2^28) v0 th tl tv tg te tk ev) Q):
    Ev B yr 67 f67.ntmps b [] (dO 12 zR []) (Ov o i) (Hl l v v0 th tl tv tg te tk ev) Q:=by
  have R:dH o ((i:Nat):Int).toNat 1=o+i:=by rw[eE,dU,jq]
  have j:Ev B yr 67 f67.ntmps b [] (dO 16 zR []) (Ov o i) (Hl (l.set (o+i) (.i .u32 (v%268435456))) v v0 th tl tv tg te tk ev) Q:=by refine dY (eB rZ) (aPw o i _) K K K qm ((Sq v 90 k z).lift (gl:=Jw) (m:=Hl (l.set (o+i) (.i .u32 (v%268435456))) v v0 th tl tv tg te tk ev) [5] ⟨K,K,dD⟩ J (λg i h=>by cases h) (FO (t.set _ _ _) K)) K ?_;rintro r S⟨M,e,⟨rfl,rfl⟩,_,rfl,rfl⟩_;exact⟨_,K,next⟩
  refine Ev.ld 5 K (FO t K) K K (λC=>?_) λn p T y x=>?_
  .refine fk (eB rZ) (aGt l o i tl ⟨.int v0,tv⟩ (kj 3 tg ev) (gY ev te) ⟨.lit [.i .i64 th],tk⟩ ⟨.int Pv,90⟩) ?_ ?_
   .rw [R];simp only[dX,eG];exact⟨⟨dD,f⟩,⟨O,O⟩,dD,dD,K⟩
   .rw [R];subst C;exact Ev.rP 7 (Hl (l.set (o+i) (.i .u32 (0%268435456))) 0 v0 th tl tv tg te tk ev) (fs.nU 5 Y K (fs.refl _ _)) H Y zp K K j
  .rcases k9 0 v with u|hz
   .obtain⟨rfl,F,s,w,P,L,q⟩:=mg x u;have d:=nw F s P q;refine fk (eB rZ) (aGl l o i T p.length p A tl y ⟨.int v0,tv⟩ (kj 3 tg ev) (gY ev te) ⟨.lit [.i .i64 th],tk⟩ ⟨.int Pv,90⟩) ?_ ?_
    .rw [R];simp only[dX,eG,nY];exact⟨⟨dD,f⟩,⟨O,O⟩,O,⟨O,O⟩,O,dD,dD,K⟩
    .rw [R,d,WW k];exact Ev.rP 7 (Hl (l.set (o+i) (.i .u32 (v%268435456))) v v0 th tl tv tg te tk ev) (fs.close' 5 7 Y J K K K x (.take 7 Y Y K (FO (t.set _ _ _) K))) H Y zp K K j
   .have c:v=0:=O;have a:=(gI x).2 c;subst a;refine fk (eB rZ) (aKd l o i p.length p n tl y ⟨.int v0,tv⟩ (kj 3 tg ev) (gY ev te) ⟨.lit [.i .i64 th],tk⟩ ⟨.int Pv,90⟩) ?_ ?_
    .rw [R];simp only[dX,eG];exact⟨⟨dD,f⟩,⟨O,O⟩,dD,dD,K⟩
    .rw [R];subst c;exact Ev.rP 7 (Hl (l.set (o+i) (.i .u32 (0%268435456))) 0 v0 th tl tv tg te tk ev) (fs.close' 5 7 Y J K K K x (.take 7 Y Y K (FO (t.set _ _ _) K))) H Y zp K K j
end
def mj(v:Int):List Int:=
  [
   v%536870912,v/2^29%268435456,v/2^29/2^28%536870912,v/2^29/2^28/2^29%268435456,v/2^29/2^28/2^29/2^28%536870912,v/2^29/2^28/2^29/2^28/2^29%268435456,
   v/2^29/2^28/2^29/2^28/2^29/2^28%536870912,v/2^29/2^28/2^29/2^28/2^29/2^28/2^29%268435456,v/2^29/2^28/2^29/2^28/2^29/2^28/2^29/2^28%536870912]
def SH:List V->Nat->List Int->List V
  |l,_,[]=>l
  |l,o,x::H=>SH (l.set o (.i .u32 x)) (o+1) H
def O2{v:Int}(C:0<=v)(M:v<2^257):xF (mj v) v:=by unfold mj;refine⟨⟨O,O⟩,⟨O,O⟩,⟨O,O⟩,⟨O,O⟩,⟨O,O⟩,⟨O,O⟩,⟨O,O⟩,⟨O,O⟩,⟨O,O⟩,?_⟩;simp only[mA];omega
def aoc: ∀g i,gd 2 g=E i-> ∃j,[5,6,4][i]?=E j/\Jw g=E j:=rL ⟨_,K,K⟩ DO
def IW{l:List V}{v z:Int}{y S R k M:es}{n:Addr}(hv:0<v)(C:v<pw 900)(hl:o+9<=l.length)(t:Ju l)(q:4<z):letI a:dI:=⟨.lit [.i .i64 z],M⟩;eM B Jw 67 [.p (E (0,o)),.p (E (1,0))] [⟨.lit l,y⟩,⟨.int v,S⟩,kj 3 R n,gY n k,a]
      (λr m=>r= .t []/\m=[⟨.lit (SH l o (mj (v*2^257%Pv))),y⟩,⟨.int v,S⟩,kj 3 R n,gY n k,a]):=by
  refine eV Y K ?_;refine dL yr f67 ?_
  have w5:ek 6 [⟨.lit l,y⟩,⟨.int v,S⟩,kj 3 R n,gY n k,⟨.lit [.i .i64 z],M⟩,⟨.lit [.b A,.s N 0 0],90⟩]=G:=by simp only[eu,t.wf 6];rfl
  have Q:ek 6 [⟨.lit l,y⟩,⟨.int v,S⟩,kj 3 R n,gY n k,⟨.lit [.i .i64 z],M⟩,⟨.int (v*2^257),90⟩]=G:=by simp only[eu,t.wf 6];rfl
  have p:pw 900<=pw 1000:=jk O;have d:(1:Int)<Pv:=J;have H:Pv<pw 4:=kt
  refine dY (eB rZ) (aEv l o v z y S R k M n) K K K IX
    ((NW v 90 S O O).lift (gl:=Jw) (m:=[⟨.lit l,y⟩,⟨.int v,S⟩,kj 3 R n,gY n k,⟨.lit [.i .i64 z],M⟩,⟨.lit [.b A,.s N 0 0],90⟩]) [5,1] ⟨K,K,K,K,dD⟩ J (λg i h=>by cases h) w5) K ?_
  rintro r m'⟨r0,e,⟨rfl,rfl⟩,_,rfl,rfl⟩_;refine⟨_,K,?_⟩;have b:0<v*2^257:=BF hv J
  have j:v*2^257<pw 90000:=by have h1:v*2^257<pw 900*2^257:=FX C J;have h2:(2:Int)^257<=pw 5:=kt;have h3:pw 900*2^257<=pw 900*pw 5:=gF h2 (gA (gH 900));have h4:pw 900*pw 5=pw 905:=(uq 900 5).symm;have h5:pw 905<=pw 90000:=jk O;omega
  refine dY (eB rZ) (aKh l o v (v*2^257) z y S R k M n) ?_ K K BE
    ((Ss (v:=v*2^257) (u:=Pv) (z:=z) (P:=90) (R:=90) (f:=M) b j d H q).lift (gl:=Jw) (m:=Hl l (v*2^257) v z y S R k M n) [5,6,4] ⟨K,K,K,K,K,K,dD⟩ J aoc (FO t K)) K ?_
  .rw [Q];rfl
  rintro r m'⟨r0,e,⟨rfl,rfl⟩,_,rfl,rfl⟩_;refine⟨_,K,?_⟩;refine fk (eB rZ) (aBh o _) K ?_;show Ev B yr 67 f67.ntmps 5 [] (dO 5 zR []) (Ov o 0) (Hl l (v*2^257%Pv) v z y S R k M n) _;have ac:0<=v*2^257%Pv:=j7 _ O;have ab:v*2^257%Pv<Pv:=j6 _ O;have aa:pw 4<=pw 1000:=jk O;generalize v*2^257%Pv=x at*;have T:0<=x/\x<pw 1000:=⟨O,O⟩
  refine I6 (i:=0) O O T.1 T.2 (by first|omega|(simp only[gU];omega)) t ?_;refine fk (eB rZ) (Yf o 0 _) K ?_;show Ev B yr 67 f67.ntmps 5 [] (dO 12 zR []) (Ov o 1) _ _;have P:0<=(x/2^29)/\(x/2^29)<pw 1000:=by have:=T.1;have:=T.2;constructor<;>omega
  refine NA (i:=1) O O P.1 P.2 (by first|omega|(simp only[gU];omega)) (t.set _ _ _) ?_;refine fk (eB rZ) (VP o 1 _) K ?_;show Ev B yr 67 f67.ntmps 5 [] (dO 5 zR []) (Ov o 2) _ _;have L:0<=((x/2^29)/2^28)/\((x/2^29)/2^28)<pw 1000:=by have:=P.1;have:=P.2;constructor<;>omega
  refine I6 (i:=2) O O L.1 L.2 (by first|omega|(simp only[gU];omega)) ((t.set _ _ _).set _ _ _) ?_;refine fk (eB rZ) (Yf o 2 _) K ?_;show Ev B yr 67 f67.ntmps 5 [] (dO 12 zR []) (Ov o 3) _ _;have s:0<=(((x/2^29)/2^28)/2^29)/\(((x/2^29)/2^28)/2^29)<pw 1000:=by have:=L.1;have:=L.2;constructor<;>omega
  refine NA (i:=3) O O s.1 s.2 (by first|omega|(simp only[gU];omega)) (((t.set _ _ _).set _ _ _).set _ _ _) ?_;refine fk (eB rZ) (VP o 3 _) K ?_;show Ev B yr 67 f67.ntmps 5 [] (dO 5 zR []) (Ov o 4) _ _;have b4:0<=((((x/2^29)/2^28)/2^29)/2^28)/\((((x/2^29)/2^28)/2^29)/2^28)<pw 1000:=by have:=s.1;have:=s.2;constructor<;>omega
  refine I6 (i:=4) O O b4.1 b4.2 (by first|omega|(simp only[gU];omega)) ((((t.set _ _ _).set _ _ _).set _ _ _).set _ _ _) ?_;refine fk (eB rZ) (Yf o 4 _) K ?_;show Ev B yr 67 f67.ntmps 5 [] (dO 12 zR []) (Ov o 5) _ _;have w:0<=(((((x/2^29)/2^28)/2^29)/2^28)/2^29)/\(((((x/2^29)/2^28)/2^29)/2^28)/2^29)<pw 1000:=by have:=b4.1;have:=b4.2;constructor<;>omega
  refine NA (i:=5) O O w.1 w.2 (by first|omega|(simp only[gU];omega)) (((((t.set _ _ _).set _ _ _).set _ _ _).set _ _ _).set _ _ _) ?_;refine fk (eB rZ) (VP o 5 _) K ?_;show Ev B yr 67 f67.ntmps 5 [] (dO 5 zR []) (Ov o 6) _ _;have f:0<=((((((x/2^29)/2^28)/2^29)/2^28)/2^29)/2^28)/\((((((x/2^29)/2^28)/2^29)/2^28)/2^29)/2^28)<pw 1000:=by have:=w.1;have:=w.2;constructor<;>omega
  refine I6 (i:=6) O O f.1 f.2 (by first|omega|(simp only[gU];omega)) ((((((t.set _ _ _).set _ _ _).set _ _ _).set _ _ _).set _ _ _).set _ _ _) ?_;refine fk (eB rZ) (Yf o 6 _) K ?_;show Ev B yr 67 f67.ntmps 5 [] (dO 12 zR []) (Ov o 7) _ _;have c:0<=(((((((x/2^29)/2^28)/2^29)/2^28)/2^29)/2^28)/2^29)/\(((((((x/2^29)/2^28)/2^29)/2^28)/2^29)/2^28)/2^29)<pw 1000:=by have:=f.1;have:=f.2;constructor<;>omega
  refine NA (i:=7) O O c.1 c.2 (by first|omega|(simp only[gU];omega)) (((((((t.set _ _ _).set _ _ _).set _ _ _).set _ _ _).set _ _ _).set _ _ _).set _ _ _) ?_;refine fk (eB rZ) (VP o 7 _) K ?_;show Ev B yr 67 f67.ntmps 5 [] (dO 5 zR []) (Ov o 8) _ _;have F:0<=((((((((x/2^29)/2^28)/2^29)/2^28)/2^29)/2^28)/2^29)/2^28)/\((((((((x/2^29)/2^28)/2^29)/2^28)/2^29)/2^28)/2^29)/2^28)<pw 1000:=by have:=c.1;have:=c.2;constructor<;>omega
  refine I6 (i:=8) O O F.1 F.2 (by first|omega|(simp only[gU];omega)) ((((((((t.set _ _ _).set _ _ _).set _ _ _).set _ _ _).set _ _ _).set _ _ _).set _ _ _).set _ _ _) ?_;refine kF (eB rZ) (fn:=f67) (i:=(E [0,4,5])) (j:=200) (z:=[]) (s:=[]) (r:= .t []) (o:=G) (u:=Hl (SH l o (mj x)) (((((((((x/2^29)/2^28)/2^29)/2^28)/2^29)/2^28)/2^29)/2^28)/2^29) v z y S R k M n) (by exact aPt o _) K K ⟨K,?_⟩;exact .take 5 Y Y K (by simp only[eu,SH,mj,((((((((((t.set _ _ _).set _ _ _).set _ _ _).set _ _ _).set _ _ _).set _ _ _).set _ _ _).set _ _ _).set _ _ _)).wf 5];rfl)
end Go.Proofs.YtiggidfngfkanaaGreatDoor
