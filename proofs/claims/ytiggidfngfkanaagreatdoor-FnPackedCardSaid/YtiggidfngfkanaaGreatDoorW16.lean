/- FnPacked, part 16. No condition. -/
import Derived.Test.YtiggidfngfkanaaGreatDoorW15
namespace Go.Proofs.YtiggidfngfkanaaGreatDoor
open Go Go.Proofs.Tryz
set_option maxRecDepth 100000
set_option maxHeartbeats 4000000
set_option linter.all false
set_option exponentiation.threshold 9999
open Bool renaming false->A, true->G
open Decidable renaming decide->D
open Go renaming IntKind->U, TypeId->es, Value->ip, World->ii
open Go.Proofs.Tryz renaming prog->B
open Option renaming none->N, some->E
variable{f:FuncId}{F H M R S c n q s v x y:Int}{r:List Nat}{a b d i j k p:Nat}{o:Oper}{P:Program}{Q:V->dE->Prop}{m u:dE}{e:eZ}{C:fw}
def xF:List Int->Int->Prop
  |[q,F,y,H,M,p,a,n,e],v=>bd 536870928 q/\bd 268435456 F/\bd 1073741824 y/\bd 268451840 H/\bd 536870912 M/\bd 268435456 p/\bd 536870912 a/\bd 536870912 n/\bd 536870912 e/\
     mA A [q,F,y,H,M,p,a,n,e]=v
  |_,_=>False
def Ri{b0 b1 b2 n b4 g f h Q v i S w p y x u y0 y1 y2 y3 y4 y5 y6 y7 y8 C q1 q2 q3 q4 q5 q6 q7 q8 q9 x0 x1 x2 x3 x4 x5 x6 x7 x8:Int}{ta tc td:es}:letI a:=[b0,b1,b2,n,b4,g,f,h,Q,v,i,S,w,p,y,x,u];letI b:Int:=536870912;letI c:Int:=268435456;letI d:dI:=⟨.ws .u32 mn,td⟩;letI e:dI:=⟨.ws .u64 a,tc⟩;∀(hb: ∀z∈a,bd 18446744073709551616 z)(hl:bd 288230376151711744 u)(ar:bd b x0)(aq:bd c x1)(ap:bd b x2)(ao:bd c x3)(an:bd b x4)(am:bd c x5)(al:bd b x6)(ak:bd c x7)(aj:bd b x8)(aD:q1=x1+c*q2)(aC:q2=x2+b*q3)(aB:q3=x3+c*q4)(aA:q4=x4+b*q5)(az:q5=x5+c*q6)(ay:q6=x6+b*q7)(ax:q7=x7+c*q8)(aw:q8=x8+b*q9)(av:q9=0)(aI:x0≠1)(aH:x2≠1)(aG:x4≠1)(aF:x6≠1)(aE:x8≠1)(hR:mA A a=2^257*C-(x0+b*q1)*(2^256-2^224-2^96+2^64-1)),eM B (gc 2) 93 [.p (E (0,0)),.p (E (1,0))] [⟨.ws .u32 [y0,y1,y2,y3,y4,y5,y6,y7,y8],ta⟩,e,d]
      (λr m=>r= .t []/\ ∃l,xF l (C%2^257+C/2^257*(2^225+2^97-2^65+2))/\ ∃t1 te,m=[⟨.ws .u32 l,ta⟩,e,d,⟨.ws .u32 t1,te⟩]):=by
  intro hb hl ar aq ap ao an am al ak aj aD aC aB aA az ay ax aw av aI aH aG aF aE hR;refine dL CF f93 ?_;refine jV (t:=[.code (dB f93)]) (eB Jz) (i:=(E [0,1,4,5,8])) (r:=33) (j:=5000) (z:=[]) (l:=[0,4,9]) (a:=dO 33 (dB f93) []) (y:=[(0,.p (E (0,0))),(4,.p (E (3,0))),(9,.i .i64 0)]) (u:=[⟨.ws .u32 [y0,y1,y2,y3,y4,y5,y6,y7,y8],ta⟩,⟨.ws .u64 [b0,b1,b2,n,b4,g,f,h,Q,v,i,S,w,p,y,x,u],tc⟩,⟨.ws .u32 mn,td⟩,⟨.lit ((J5 [b0,b1,b2,n,b4,g,f,h,Q,v,i,S,w,p,y,x,u]).map (V.i .u32)),163⟩]) (o:=G) I K ?_;refine pA 3 (k:= .u32) (l:=J5 [b0,b1,b2,n,b4,g,f,h,Q,v,i,S,w,p,y,x,u]) K ?_;have hT:=Qn (a:=b0) (b:=b1) (r:=[b2,n,b4,g,f,h,Q,v,i,S,w,p,y,x,u]) (hb _ Y) (hb _ Y) (λz hz=>hb z (jh _ (jh _ hz))) Y (by simpa using hl);obtain⟨t0,t1,t2,t3,t4,t5,t6,t7,t8,t9,ah,ag,af,ae,ad,ac,ab,aa,ht⟩: ∃t0 t1 t2 t3 t4 t5 t6 t7 t8 t9 ah ag af ae ad ac ab aa,J5 [b0,b1,b2,n,b4,g,f,h,Q,v,i,S,w,p,y,x,u]=[t0,t1,t2,t3,t4,t5,t6,t7,t8,t9,ah,ag,af,ae,ad,ac,ab,aa]:=⟨_,_,_,_,_,_,_,_,_,_,_,_,_,_,_,_,_,_,K⟩
  rw[ht]at hT;show Ev B CF 93 f93.ntmps _ [] _ _ [⟨.ws .u32 [y0,y1,y2,y3,y4,y5,y6,y7,y8],ta⟩,⟨.ws .u64 [b0,b1,b2,n,b4,g,f,h,Q,v,i,S,w,p,y,x,u],tc⟩,⟨.ws .u32 mn,td⟩,⟨.ws .u32 (J5 [b0,b1,b2,n,b4,g,f,h,Q,v,i,S,w,p,y,x,u]),163⟩] _;rw[ht];obtain⟨hv,q⟩:=hT;rw[hR]at hv;simp only[mA]at hv;refine ajm (q _ Y) (q _ Y) (q _ Y) (q _ Y) (q _ Y) (q _ Y) (q _ Y) (q _ Y) (q _ Y) (q _ Y) (q _ Y) (q _ Y) (q _ Y) (q _ Y) (q _ Y) (q _ Y) (q _ Y) (q _ Y) ar aq ap ao an am al ak aj aD aC aB aA az ay ax aw av aI aH aG aF aE (C:=C) (by rw[<-hv];omega) λv9 M T F R L P H j g9 aT aS aR aQ aP aO aM aL hs=>?_
  obtain⟨a0,a1,a2,a3,a4,a5,a6,a7,a8,k,hf,k0,k1,k2,k3,k4,k5,k6,k7,k8,hk,s⟩:=UI g9 aT aS aR aQ aP aO aM aL;obtain⟨kn,rfl⟩:=fy hk.1;obtain⟨c0,c2,c3,c7,hr,r0,r2,r3,r7,aU⟩:=Jq (k:=kn) (by have:=hk.2;omega) k0 k1 k2 k3 k7 (M:=a4) (p:=a5) (v:=a6) (a:=a8)
  have aK:Rx [0,0,0,0,0,0,0,0,0,v9,M,T,F,R,L,P,H,j]=kn:=by show(Dp A [v9,M,T,F,R,L,P,H,j] 0).2=_;rw[hf]
  have aJ:fin [0,0,0,0,0,0,0,0,0,v9,M,T,F,R,L,P,H,j]=[c0,a1,c2,c3,a4,a5,a6,c7,a8]:=by show AZ (Rx [0,0,0,0,0,0,0,0,0,v9,M,T,F,R,L,P,H,j]).toNat (Dp A [v9,M,T,F,R,L,P,H,j] 0).1=_;rw[aK,hf,dU];exact hr
  refine mX (eB Jz) aef ?_ K ?_
  .rw [aK,J9];have:D (0<=(kn:Int)/\(kn:Int)<8)=G:=fG ⟨O,hk.2⟩;rw[this];rfl
  .rw [aJ];refine⟨K,_,?_,_,_,K⟩;refine⟨r0,k1,r2,r3,k4,k5,k6,r7,k8,?_⟩
   have hC:C/2^257=kn/\C%2^257=C-2^257*kn:=by rw[hs]at s;obtain⟨z0,w0⟩:=k0;obtain⟨z1,w1⟩:=k1;obtain⟨z2,w2⟩:=k2;obtain⟨z3,w3⟩:=k3;obtain⟨z4,w4⟩:=k4;obtain⟨z5,w5⟩:=k5;obtain⟨z6,w6⟩:=k6;obtain⟨z7,w7⟩:=k7;obtain⟨z8,w8⟩:=k8;constructor<;>omega
   rw[hC.1,hC.2];simp only[mA];rw[hs]at s;omega
abbrev Z(x:Int):Int:=U.u64.wrap x
def pr(a b s:Int):Int:=Z (Z a*Z (Z b*s))
def wB:List Int->List Int->List Int
  |[q,F,y,H,M,p,v,n,e],[T,P,L,s,b4,u,f,h,Q]=>[Z (Z q*Z T),Z (pr q P 1+pr F T 1),Z (Z (pr q L 1+pr F P 2)+pr y T 1),Z (Z (Z (pr q s 1+pr F L 1)+pr y P 1)+pr H T 1),Z (Z (Z (Z (pr q b4 1+pr F s 2)+pr y L 1)+pr H P 2)+pr M T 1),Z (Z (Z (Z (Z (pr q u 1+pr F b4 1)+pr y s 1)+pr H L 1)+pr M P 1)+pr p T 1),Z (Z (Z (Z (Z (Z (pr q f 1+pr F u 2)+pr y b4 1)+pr H s 2)+pr M L 1)+pr p P 2)+pr v T 1),Z (Z (Z (Z (Z (Z (Z (pr q h 1+pr F f 1)+pr y u 1)+pr H b4 1)+pr M s 1)+pr p L 1)+pr v P 1)+pr n T 1),Z (Z (Z (Z (Z (Z (Z (Z (pr q Q 1+pr F h 2)+pr y f 1)+pr H u 2)+pr M b4 1)+pr p s 2)+pr v L 1)+pr n P 2)+pr e T 1),Z (Z (Z (Z (Z (Z (Z (pr F Q 1+pr y h 1)+pr H f 1)+pr M u 1)+pr p b4 1)+pr v s 1)+pr n L 1)+pr e P 1),Z (Z (Z (Z (Z (Z (pr y Q 1+pr H h 2)+pr M f 1)+pr p u 2)+pr v b4 1)+pr n s 2)+pr e L 1),Z (Z (Z (Z (Z (pr H Q 1+pr M h 1)+pr p f 1)+pr v u 1)+pr n b4 1)+pr e s 1),Z (Z (Z (Z (pr M Q 1+pr p h 2)+pr v f 1)+pr n u 2)+pr e b4 1),Z (Z (Z (pr p Q 1+pr v h 1)+pr n f 1)+pr e u 1),Z (Z (pr v Q 1+pr n h 2)+pr e f 1),Z (pr n Q 1+pr e h 1),pr e Q 1]
  |_,_=>[]
def Hx:List Int->List Int
  |[q,F,y,H,M,p,v,n,e]=>[Z (Z q*Z q),pr q F 2,Z (pr q y 2+pr F F 2),Z (pr q H 2+pr F y 2),Z (Z (pr q M 2+pr F H 4)+Z (Z y*Z y)),Z (Z (pr q p 2+pr F M 2)+pr y H 2),Z (Z (Z (pr q v 2+pr F p 4)+pr y M 2)+pr H H 2),Z (Z (Z (pr q n 2+pr F v 2)+pr y p 2)+pr H M 2),Z (Z (Z (Z (pr q e 2+pr F n 4)+pr y v 2)+pr H p 4)+Z (Z M*Z M)),Z (Z (Z (pr F e 2+pr y n 2)+pr H v 2)+pr M p 2),Z (Z (Z (pr y e 2+pr H n 4)+pr M v 2)+pr p p 2),Z (Z (pr H e 2+pr M n 2)+pr p v 2),Z (Z (pr M e 2+pr p n 4)+Z (Z v*Z v)),Z (pr p e 2+pr v n 2),Z (pr v e 2+pr n n 2),pr n e 2,Z (Z e*Z e)]
  |_=>[]
def aIx(x:Int):Z x=x%18446744073709551616:=J2 x
def IY(C:0<=x)(M:x<18446744073709551616):Z x=x:=by rw[aIx];omega
def uZ(L:bd R x)(Q:bd S y):bd (R*S) (x*y):=by obtain⟨F,H⟩:=L;obtain⟨P,j⟩:=Q;refine⟨jL F P,?_⟩;have M:x*y<=x*S:=gF (gA j) F;have w:0<S:=Int.lt_of_le_of_lt P j;have a:x*S<R*S:=FX H w;omega
def Ui(s:Nat)(v:s<=4)(L:bd 1073741824 x)(Q:bd 1073741824 y):pr x y s=x*y*s:=by have h:=uZ L Q;obtain⟨F,H⟩:=L;obtain⟨P,j⟩:=Q;obtain⟨p,T⟩:=h;unfold pr;have M:y*(s:Int)<=y*4:=gF O P;have S:0<=y*(s:Int):=jL P O;have l:x*y*(s:Int)<=x*y*4:=gF O p;have u:0<=x*y*(s:Int):=jL p O;rw[IY F O,IY P O,IY S O,<-fO,IY u O]
def pr1(L:bd 1073741824 x)(Q:bd 1073741824 y):pr x y 1=x*y:=by rw[show(1:Int)=((1:Nat):Int)from K,Ui 1 J L Q];simp
def pr2(L:bd 1073741824 x)(Q:bd 1073741824 y):pr x y 2=x*y*2:=Ui 2 J L Q
def pr4(L:bd 1073741824 x)(Q:bd 1073741824 y):pr x y 4=x*y*4:=Ui 4 J L Q
def pr0(L:bd 1073741824 x)(Q:bd 1073741824 y):Z (Z x*Z y)=x*y:=by have h:=uZ L Q;obtain⟨F,H⟩:=L;obtain⟨P,j⟩:=Q;obtain⟨p,T⟩:=h;rw[IY F O,IY P O,IY p O]
def wd0(L:bd R x)(Q:bd S y)(T:R<=1073741824:=by decide)(w:S<=1073741824:=by decide):Z (Z x*Z y)=x*y/\bd (R*S) (x*y):=⟨pr0 (dT L T) (dT Q w),uZ L Q⟩
def mL(L:bd R x)(Q:bd S y)(T:R<=1073741824:=by decide)(w:S<=1073741824:=by decide):pr x y 1=x*y/\bd (R*S) (x*y):=⟨pr1 (dT L T) (dT Q w),uZ L Q⟩
def o8(L:bd R x)(Q:bd S y)(T:R<=1073741824:=by decide)(w:S<=1073741824:=by decide):pr x y 2=x*y*2/\bd (R*S*2) (x*y*2):=⟨pr2 (dT L T) (dT Q w),by obtain⟨p,q⟩:=uZ L Q;exact⟨O,O⟩⟩
def wd4(L:bd R x)(Q:bd S y)(T:R<=1073741824:=by decide)(w:S<=1073741824:=by decide):pr x y 4=x*y*4/\bd (R*S*4) (x*y*4):=⟨pr4 (dT L T) (dT Q w),by obtain⟨p,q⟩:=uZ L Q;exact⟨O,O⟩⟩
def jZ{w:Int}(h:x=v/\bd R v)(g:y=w/\bd S w)(C:R+S<=18446744073709551616:=by decide):Z (x+y)=v+w/\bd (R+S) (v+w):=by obtain⟨rfl,p,q⟩:=h;obtain⟨rfl,r,s⟩:=g;exact⟨IY O O,O,O⟩
def vK(h:x=v/\bd R v)(T:R<=4611686018427387904:=by decide):x=v/\bd 4611686018427387904 v:=⟨h.1,dT h.2 T⟩
def UB{p e:Int}:mA A [q,F,y,H,M,p,v,n,e]=q+F*536870912+y*144115188075855872+H*77371252455336267181195264+M*20769187434139310514121985316880384+p*11150372599265311570767859136324180752990208+v*2993155353253689176481146537402947624255349848014848+n*1606938044258990275541962092341162602522202993782792835301376+e*431359146674410236714672241392314090778194310760649159697657763987456:=by simp only[mA];omega
def nK{x T P L s b4 u i h Q:Int}:letI a:Int:=431359146674410236714672241392314090778194310760649159697657763987456;letI b:Int:=1606938044258990275541962092341162602522202993782792835301376;letI c:Int:=2993155353253689176481146537402947624255349848014848;letI d:Int:=11150372599265311570767859136324180752990208;letI e:Int:=20769187434139310514121985316880384;letI f:Int:=77371252455336267181195264;letI g:Int:=144115188075855872;x*(T+P*536870912+L*g+s*f+b4*e+u*d+i*c+h*b+Q*a)=x*T+x*P*536870912+x*L*g+x*s*f+x*b4*e+x*u*d+x*i*c+x*h*b+x*Q*a:=by simp only[fh,<-fO]
def Zl{x T P L s b4 u i h Q:Int}:letI a:Int:=431359146674410236714672241392314090778194310760649159697657763987456;letI b:Int:=1606938044258990275541962092341162602522202993782792835301376;letI c:Int:=2993155353253689176481146537402947624255349848014848;letI d:Int:=11150372599265311570767859136324180752990208;letI e:Int:=20769187434139310514121985316880384;letI f:Int:=77371252455336267181195264;letI g:Int:=144115188075855872;(T+P*536870912+L*g+s*f+b4*e+u*d+i*c+h*b+Q*a)*x=T*x+P*x*536870912+L*x*g+s*x*f+b4*x*e+u*x*d+i*x*c+h*x*b+Q*x*a:=by simp only[jN,Int.mul_right_comm _ _ x]
def EX{p e T P L b4 u f g Q:Int}(ae:bd 536870928 q)(ad:bd 268435456 F)(ac:bd 1073741824 y)(ab:bd 268451840 H)(aa:bd 536870912 M)(C:bd 268435456 p)(t:bd 536870912 v)(w:bd 536870912 n)(d:bd 536870912 e)(i:bd 536870928 T)(j:bd 268435456 P)(k:bd 1073741824 L)(r:bd 268451840 s)(o:bd 536870912 b4)(R:bd 268435456 u)(S:bd 536870912 f)(l:bd 536870912 g)(m:bd 536870912 Q):letI b:=[q,F,y,H,M,p,v,n,e];letI c:=[T,P,L,s,b4,u,f,g,Q];letI a:=wB b c;mA A a=mA A b*mA A c/\(∀z∈a,bd 18446744073709551616 z)/\a=[q*T,q*P+F*T,q*L+F*P*2+y*T,q*s+F*L+y*P+H*T,q*b4+F*s*2+y*L+H*P*2+M*T,q*u+F*b4+y*s+H*L+M*P+p*T,q*f+F*u*2+y*b4+H*s*2+M*L+p*P*2+v*T,q*g+F*f+y*u+H*b4+M*s+p*L+v*P+n*T,q*Q+F*g*2+y*f+H*u*2+M*b4+p*s*2+v*L+n*P*2+e*T,F*Q+y*g+H*f+M*u+p*b4+v*s+n*L+e*P,y*Q+H*g*2+M*f+p*u*2+v*b4+n*s*2+e*L,H*Q+M*g+p*f+v*u+n*b4+e*s,M*Q+p*g*2+v*f+n*u*2+e*b4,p*Q+v*g+n*f+e*u,v*Q+n*g*2+e*f,n*Q+e*g,e*Q]/\bd 288230376151711744 (e*Q):=by
  obtain⟨e0,g0⟩:=vK (wd0 ae i);obtain⟨e1,g1⟩:=vK (jZ (mL ae j) (mL ad i));obtain⟨e2,g2⟩:=vK (jZ (jZ (mL ae k) (o8 ad j)) (mL ac i));obtain⟨e3,g3⟩:=vK (jZ (jZ (jZ (mL ae r) (mL ad k)) (mL ac j)) (mL ab i));obtain⟨e4,g4⟩:=vK (jZ (jZ (jZ (jZ (mL ae o) (o8 ad r)) (mL ac k)) (o8 ab j)) (mL aa i));obtain⟨e5,g5⟩:=vK (jZ (jZ (jZ (jZ (jZ (mL ae R) (mL ad o)) (mL ac r)) (mL ab k)) (mL aa j)) (mL C i));obtain⟨e6,g6⟩:=vK (jZ (jZ (jZ (jZ (jZ (jZ (mL ae S) (o8 ad R)) (mL ac o)) (o8 ab r)) (mL aa k)) (o8 C j)) (mL t i));obtain⟨e7,g7⟩:=vK (jZ (jZ (jZ (jZ (jZ (jZ (jZ (mL ae l) (mL ad S)) (mL ac R)) (mL ab o)) (mL aa r)) (mL C k)) (mL t j)) (mL w i));obtain⟨e8,g8⟩:=vK (jZ (jZ (jZ (jZ (jZ (jZ (jZ (jZ (mL ae m) (o8 ad l)) (mL ac S)) (o8 ab R)) (mL aa o)) (o8 C r)) (mL t k)) (o8 w j)) (mL d i));obtain⟨e9,g9⟩:=vK (jZ (jZ (jZ (jZ (jZ (jZ (jZ (mL ad m) (mL ac l)) (mL ab S)) (mL aa R)) (mL C o)) (mL t r)) (mL w k)) (mL d j));obtain⟨aw,am⟩:=vK (jZ (jZ (jZ (jZ (jZ (jZ (mL ac m) (o8 ab l)) (mL aa S)) (o8 C R)) (mL t o)) (o8 w r)) (mL d k));obtain⟨av,al⟩:=vK (jZ (jZ (jZ (jZ (jZ (mL ab m) (mL aa l)) (mL C S)) (mL t R)) (mL w o)) (mL d r));obtain⟨ar,ak⟩:=vK (jZ (jZ (jZ (jZ (mL aa m) (o8 C l)) (mL t S)) (o8 w R)) (mL d o));obtain⟨aq,aj⟩:=vK (jZ (jZ (jZ (mL C m) (mL t l)) (mL w S)) (mL d R));obtain⟨ap,ah⟩:=vK (jZ (jZ (mL t m) (o8 w l)) (mL d S));obtain⟨ao,ag⟩:=vK (jZ (mL w m) (mL d l));obtain⟨an,af⟩:=vK (mL d m)
  have hl:wB [q,F,y,H,M,p,v,n,e] [T,P,L,s,b4,u,f,g,Q]=[q*T,q*P+F*T,q*L+F*P*2+y*T,q*s+F*L+y*P+H*T,q*b4+F*s*2+y*L+H*P*2+M*T,q*u+F*b4+y*s+H*L+M*P+p*T,q*f+F*u*2+y*b4+H*s*2+M*L+p*P*2+v*T,q*g+F*f+y*u+H*b4+M*s+p*L+v*P+n*T,q*Q+F*g*2+y*f+H*u*2+M*b4+p*s*2+v*L+n*P*2+e*T,F*Q+y*g+H*f+M*u+p*b4+v*s+n*L+e*P,y*Q+H*g*2+M*f+p*u*2+v*b4+n*s*2+e*L,H*Q+M*g+p*f+v*u+n*b4+e*s,M*Q+p*g*2+v*f+n*u*2+e*b4,p*Q+v*g+n*f+e*u,v*Q+n*g*2+e*f,n*Q+e*g,e*Q]:=by show [_,_,_,_,_,_,_,_,_,_,_,_,_,_,_,_,_]=_;rw[e0,e1,e2,e3,e4,e5,e6,e7,e8,e9,aw,av,ar,aq,ap,ao,an]
  have h8:=uZ d m;rw[hl];refine⟨?_,?_,K,h8⟩
  .rw [UB,UB,Zl,nK (x:=q),nK (x:=F),nK (x:=y),nK (x:=H),nK (x:=M),nK (x:=p),nK (x:=v),nK (x:=n),nK (x:=e)];simp only[mA];clear e0 g0 e1 g1 e2 g2 e3 g3 e4 g4 e5 g5 e6 g6 e7 g7 e8 g8 e9 g9 aw am av al ar ak aq aj ap ah ao ag an af hl h8 ae i ad j ac k ab r aa o C R t S w l d m;generalize q*T=cg;generalize q*P=cf;generalize q*L=ce;generalize q*s=cd;generalize q*b4=cc;generalize q*u=cb;generalize q*f=ca;generalize q*g=b9;generalize q*Q=bZ;generalize F*T=bY;generalize F*P=bX;generalize F*L=bW;generalize F*s=bV;generalize F*b4=bU;generalize F*u=bS;generalize F*f=bR;generalize F*g=bQ;generalize F*Q=bP;generalize y*T=bO;generalize y*P=bM;generalize y*L=bK;generalize y*s=bJ;generalize y*b4=bH;generalize y*u=bG;generalize y*f=bE;generalize y*g=bD;generalize y*Q=bC;generalize H*T=bB;generalize H*P=bA;generalize H*L=bz;generalize H*s=bx;generalize H*b4=bv;generalize H*u=bu;generalize H*f=bt;generalize H*g=bs;generalize H*Q=br;generalize M*T=bq;generalize M*P=bp;generalize M*L=bo;generalize M*s=bn;generalize M*b4=bm;generalize M*u=bl;generalize M*f=bk;generalize M*g=bj;generalize M*Q=bi;generalize p*T=bh;generalize p*P=bg;generalize p*L=bf;generalize p*s=be;generalize p*b4=bc;generalize p*u=bb;generalize p*f=ba;generalize p*g=a9;generalize p*Q=aZ;generalize v*T=aY;generalize v*P=aX;generalize v*L=aW;generalize v*s=aV;generalize v*b4=aU;generalize v*u=aT;generalize v*f=aS;generalize v*g=aR;generalize v*Q=aQ;generalize n*T=aP;generalize n*P=aO;generalize n*L=aM;generalize n*s=aL;generalize n*b4=aK;generalize n*u=aJ;generalize n*f=aI;generalize n*g=aH;generalize n*Q=aG;generalize e*T=aF;generalize e*P=aE;generalize e*L=aD;generalize e*s=aC;generalize e*b4=aB;generalize e*u=aA;generalize e*f=az;generalize e*g=ay;generalize e*Q=ax;omega
  .intro z hz;simp only[kh,lO,lN]at hz;have mm: ∀{x:Int},bd 4611686018427387904 x->bd 18446744073709551616 x:=λh=>dT h J
   rcases hz with rfl|rfl|rfl|rfl|rfl|rfl|rfl|rfl|rfl|rfl|rfl|rfl|rfl|rfl|rfl|rfl|rfl
   .exact mm g0
   .exact mm g1
   .exact mm g2
   .exact mm g3
   .exact mm g4
   .exact mm g5
   .exact mm g6
   .exact mm g7
   .exact mm g8
   .exact mm g9
   .exact mm am
   .exact mm al
   .exact mm ak
   .exact mm aj
   .exact mm ah
   .exact mm ag
   .exact mm af
def Uz{p e:Int}(i:bd 536870928 q)(l:bd 268435456 F)(j:bd 1073741824 y)(P:bd 268451840 H)(s:bd 536870912 M)(Q:bd 268435456 p)(u:bd 536870912 v)(w:bd 536870912 n)(d:bd 536870912 e):letI a:=[q,F,y,H,M,p,v,n,e];mA A (Hx a)=mA A a*mA A a/\(∀z∈Hx a,bd 18446744073709551616 z)/\Hx a=[q*q,q*F*2,q*y*2+F*F*2,q*H*2+F*y*2,q*M*2+F*H*4+y*y,q*p*2+F*M*2+y*H*2,q*v*2+F*p*4+y*M*2+H*H*2,q*n*2+F*v*2+y*p*2+H*M*2,q*e*2+F*n*4+y*v*2+H*p*4+M*M,F*e*2+y*n*2+H*v*2+M*p*2,y*e*2+H*n*4+M*v*2+p*p*2,H*e*2+M*n*2+p*v*2,M*e*2+p*n*4+v*v,p*e*2+v*n*2,v*e*2+n*n*2,n*e*2,e*e]/\bd 288230376151711744 (e*e):=by
  obtain⟨e0,g0⟩:=vK (wd0 i i);obtain⟨e1,g1⟩:=vK (o8 i l);obtain⟨e2,g2⟩:=vK (jZ (o8 i j) (o8 l l));obtain⟨e3,g3⟩:=vK (jZ (o8 i P) (o8 l j));obtain⟨e4,g4⟩:=vK (jZ (jZ (o8 i s) (wd4 l P)) (wd0 j j));obtain⟨e5,g5⟩:=vK (jZ (jZ (o8 i Q) (o8 l s)) (o8 j P));obtain⟨e6,g6⟩:=vK (jZ (jZ (jZ (o8 i u) (wd4 l Q)) (o8 j s)) (o8 P P));obtain⟨e7,g7⟩:=vK (jZ (jZ (jZ (o8 i w) (o8 l u)) (o8 j Q)) (o8 P s));obtain⟨e8,g8⟩:=vK (jZ (jZ (jZ (jZ (o8 i d) (wd4 l w)) (o8 j u)) (wd4 P Q)) (wd0 s s));obtain⟨e9,g9⟩:=vK (jZ (jZ (jZ (o8 l d) (o8 j w)) (o8 P u)) (o8 s Q));obtain⟨aa,T⟩:=vK (jZ (jZ (jZ (o8 j d) (wd4 P w)) (o8 s u)) (o8 Q Q));obtain⟨t,C⟩:=vK (jZ (jZ (o8 P d) (o8 s w)) (o8 Q u));obtain⟨b,r⟩:=vK (jZ (jZ (o8 s d) (wd4 Q w)) (wd0 u u));obtain⟨o,R⟩:=vK (jZ (o8 Q d) (o8 u w));obtain⟨k,L⟩:=vK (jZ (o8 u d) (o8 w w));obtain⟨f,S⟩:=vK (o8 w d);obtain⟨c,g⟩:=vK (wd0 d d)
  have hl:Hx [q,F,y,H,M,p,v,n,e]=[q*q,q*F*2,q*y*2+F*F*2,q*H*2+F*y*2,q*M*2+F*H*4+y*y,q*p*2+F*M*2+y*H*2,q*v*2+F*p*4+y*M*2+H*H*2,q*n*2+F*v*2+y*p*2+H*M*2,q*e*2+F*n*4+y*v*2+H*p*4+M*M,F*e*2+y*n*2+H*v*2+M*p*2,y*e*2+H*n*4+M*v*2+p*p*2,H*e*2+M*n*2+p*v*2,M*e*2+p*n*4+v*v,p*e*2+v*n*2,v*e*2+n*n*2,n*e*2,e*e]:=by show [_,_,_,_,_,_,_,_,_,_,_,_,_,_,_,_,_]=_;rw[e0,e1,e2,e3,e4,e5,e6,e7,e8,e9,aa,t,b,o,k,f,c]
  have h8:=uZ d d;rw[hl];refine⟨?_,?_,K,h8⟩
  .rw [UB,Zl,nK (x:=q),nK (x:=F),nK (x:=y),nK (x:=H),nK (x:=M),nK (x:=p),nK (x:=v),nK (x:=n),nK (x:=e)];simp only[mA];clear e0 g0 e1 g1 e2 g2 e3 g3 e4 g4 e5 g5 e6 g6 e7 g7 e8 g8 e9 g9 aa T t C b r o R k L f S c g hl h8 i l j P s Q u w d;rw[eD F q];rw[eD y q];rw[eD y F];rw[eD H q];rw[eD H F];rw[eD H y];rw[eD M q];rw[eD M F];rw[eD M y];rw[eD M H];rw[eD p q];rw[eD p F];rw[eD p y];rw[eD p H];rw[eD p M];rw[eD v q];rw[eD v F];rw[eD v y];rw[eD v H];rw[eD v M];rw[eD v p];rw[eD n q];rw[eD n F];rw[eD n y];rw[eD n H];rw[eD n M];rw[eD n p];rw[eD n v];rw[eD e q];rw[eD e F];rw[eD e y];rw[eD e H];rw[eD e M];rw[eD e p];rw[eD e v];rw[eD e n];generalize q*q=aY;generalize q*F=aX;generalize q*y=aW;generalize q*H=aV;generalize q*M=aU;generalize q*p=aT;generalize q*v=aS;generalize q*n=aR;generalize q*e=aQ;generalize F*F=aP;generalize F*y=aO;generalize F*H=aM;generalize F*M=aL;generalize F*p=aK;generalize F*v=aJ;generalize F*n=aI;generalize F*e=aH;generalize y*y=aG;generalize y*H=aF;generalize y*M=aE;generalize y*p=aD;generalize y*v=aC;generalize y*n=aB;generalize y*e=aA;generalize H*H=az;generalize H*M=ay;generalize H*p=ax;generalize H*v=aw;generalize H*n=av;generalize H*e=ar;generalize M*M=aq;generalize M*p=ap;generalize M*v=ao;generalize M*n=an;generalize M*e=am;generalize p*p=al;generalize p*v=ak;generalize p*n=aj;generalize p*e=ah;generalize v*v=ag;generalize v*n=af;generalize v*e=ae;generalize n*n=ad;generalize n*e=ac;generalize e*e=ab;omega
  .intro z hz;simp only[kh,lO,lN]at hz;have m: ∀{x:Int},bd 4611686018427387904 x->bd 18446744073709551616 x:=λh=>dT h J
   rcases hz with rfl|rfl|rfl|rfl|rfl|rfl|rfl|rfl|rfl|rfl|rfl|rfl|rfl|rfl|rfl|rfl|rfl
   .exact m g0
   .exact m g1
   .exact m g2
   .exact m g3
   .exact m g4
   .exact m g5
   .exact m g6
   .exact m g7
   .exact m g8
   .exact m g9
   .exact m T
   .exact m C
   .exact m r
   .exact m R
   .exact m L
   .exact m S
   .exact m g
def aga:Op->Bool
  | .load _ _=>G
  |_=>A
def sd(C:fw)(o:Oper):Bool:=!(Nat.beq (cls C o.op) 0||aga o.op)
def qEv(C:fw)(S:List Nat)(m:dE)(e:eZ)(o:Op):Option (V×Bool):=
  match o with
  | .load t l=>match fC C e l with
    |some (.p (E a))=>bif Ix a.1 S then sD C m e (.load t l)else N
    |_=>N
  |o=>bif Nat.beq (cls C o) 0 then sD C [] e o else N
def qOp(C:fw)(n:Nat)(ops:List Oper)(S:List Nat)(i:Nat)(s:St):Option St:=
  match ops[i]? with
  |some o=>match ia ops (gN s.e (ov ops o)) o with
   |some G=>match qEv C S s.m (gN s.e (ov ops o)) o.op with
    |some (v,p)=>bif V.wf s.m.length v then(match fA n s.e o.dst v with
     |some y=>E ⟨y,s.m,s.yS,Ll o.op p s.ob⟩
     |none=>N)else N
    |none=>N
   |some A=>match fA n s.e o.dst (.t [])with
    |some y=>E ⟨y,s.m,s.yS,s.ob⟩
    |none=>N
   |none=>N
  |none=>N
def IP(C:fw)(ops:List Oper)(R:List Nat)(i j:Nat):Bool:=
  match ops[i]?,ops[j]?,R[j]? with
  |some o,E c,E a=>!pC o c&&(!(wJ ops o c||sd C o) ||bit a i)
  |_,_,_=>A
def Gb(C:fw)(ops:List Oper)(R:List Nat)(i:Nat):List Nat->Bool
  |[]=>G
  |j::r=>IP C ops R i j&&Gb C ops R i r
def Ny(C:fw)(ops:List Oper)(R:List Nat):List Nat->Bool
  |[]=>G
  |i::r=>!Ix i r&&Gb C ops R i r&&Ny C ops R r
def Bh(ord:List Nat):List Nat->Bool
  |[]=>G
  |i::r=>Ix i ord&&Bh ord r
def pZ(C:fw)(ops:List Oper)(ord:List Nat):Bool:=
  my 0 ops&&Ny C ops (ig ops []) ord&&Bh ord (List.range ops.length)
def B3{ops:List Oper}{R:List Nat}: ∀{r:List Nat},Gb C ops R i r=G-> ∀j∈r,IP C ops R i j=G
  |[],_,j,H=>by cases H
  |k::r,h,j,H=>by
   simp only[Gb,iv]at h;rcases kh.1 H with rfl|H
   .exact h.1
   .exact B3 h.2 j H
def sk{ops:List Oper}{R:List Nat}: ∀{ord:List Nat},Ny C ops R ord=G-> ∀(p q i j:Nat),p<q->ord[p]?=E i->ord[q]?=E j->i≠j/\IP C ops R i j=G
  |[],_,p,q,i,j,_,M,_=>by simp at M
  |k::r,h,p,q,i,j,y,M,b=>by
   simp only[Ny,iv,C4]at h;obtain⟨q,rfl⟩: ∃s,q=s+1:=⟨q-1,O⟩
   rw[kz]at b;have d:=BC b;cases p with
   |zero=>
    simp only[ph,eJ]at M;subst M;refine⟨λe=>?_,B3 h.1.2 j d⟩;subst e;have:=uj.2 d;rw[h.1.1]at this;cases this
   |succ p=>
    rw[kz]at M;exact sk h.2 p q i j O M b
def Az{ord:List Nat}: ∀{l:List Nat},Bh ord l=G-> ∀i∈l,i∈ord
  |[],_,i,g=>by cases g
  |k::r,h,i,g=>by
   simp only[Bh,iv]at h;rcases kh.1 g with rfl|g
   .exact uj.1 h.1
   .exact Az h.2 i g
section
variable{P:Program}{C:fw}{n:Nat}{ops:List Oper}{S ord:List Nat}
def FG(h:pZ C ops ord=G)(g:i<ops.length): ∃p:Nat,ord[p]?=E i:=by simp only[pZ,iv]at h;exact List.getElem?_of_mem (Az h.2 i (AA.2 g))
def yu(h:pZ C ops ord=G){q:Nat}(g:ord[p]?=E i)(z:ord[q]?=E i):p=q:=by
  simp only[pZ,iv]at h;rcases nf p q with M|M|M
  .exact((sk h.1.2 p q i i M g z).1 K).elim
  .exact M
  .exact((sk h.1.2 q p i i M z g).1 K).elim
def Dg(h:pZ C ops ord=G){L:Nat->Prop}(r:re ops L){q:Nat}{c:Oper}(y:p<q)(l:ord[p]?=E i)(z:ord[q]?=E j)(g:ops[i]?=E o)(H:ops[j]?=E c)(s:wJ ops o c=G∨sd C o=G)(f: ∀e∈c.after,Region.binds .any e=G->L e.on):L i:=by
  simp only[pZ,iv]at h;obtain⟨_,m⟩:=sk h.1.2 p q i j y l z;unfold IP at m;rw[g,H]at m;cases d:(ig ops [])[j]? with
  |none=>rw[d]at m;cases m
  |some a=>
   rw[d]at m;simp only[iv,AY,C4]at m
   have u:bit a i=G:=by
     rcases m.2 with M|M
     .simp only[Bool.or_eq_false_iff]at M;rcases s with b|b
      .rw [M.1]at b;cases b
      .rw [M.2]at b;cases b
     .exact M
   exact mR h.1.1 r (j+1) j c a O H d f i u
def Bb(h:pZ C ops ord=G){q:Nat}{c:Oper}(e:ord[p]?=E i)(z:ord[q]?=E j)(g:ops[i]?=E o)(H:ops[j]?=E c)(M:o.dst=E d)(l:c.dst=E d):p=q:=by
  have b: ∀{p q i j:Nat}{o c:Oper},p<q->ord[p]?=E i->ord[q]?=E j->ops[i]?=E o->ops[j]?=E c->o.dst=E d->c.dst=E d->False:=by
    intro p q i j o c y e z g H M l;simp only[pZ,iv]at h;obtain⟨_,m⟩:=sk h.1.2 p q i j y e z;unfold IP at m;rw[g,H]at m;cases r:(ig ops [])[j]? with
    |none=>rw[r]at m;cases m
    |some a=>
     rw[r]at m;simp only[iv,C4]at m;exact mu m.1 M l
  rcases nf p q with f|f|f
  .exact(b f e z g H M l).elim
  .exact f
  .exact(b f z e H g l M).elim
def age(P:Program)(C:fw)(o:Oper)(e:eZ)(m:dE)(R:V->dE->Prop):Prop:=
  ∀ρ a w(next:Act->ii->Prop)(Q:Exit->Act->ii->Prop),jA ρ m w->ik ρ e a->Gl ρ C m.length->(∀v l u b,R v u->qE ρ m w l u b->next (a.put o.dst (v.ee l)) b)->o.wp P a w next Q
def kJ(P:Program)(C:fw)(n:Nat)(ops:List Oper)(S:List Nat)(F:eZ->dE->Prop):List Nat->eZ->dE->Prop
  |[],e,m=>F e m
  |i::r,e,m=> ∃o,ops[i]?=E o/\
   (
    (sd C o=A/\ ∃H,qOp C n ops S i ⟨e,m,[],[]⟩=E H/\eb H.ob=G/\kJ P C n ops S F r H.e m)∨
    (sd C o=G/\ia ops (gN e (ov ops o)) o=E G/\ ∃R,age P C o (gN e (ov ops o)) m R/\
      ∀v u,R v u->m.length<=u.length->v.wf u.length=G/\(∀b∈S,b<m.length->u[b]?=m[b]?)/\ ∃y,fA n e o.dst v=E y/\kJ P C n ops S F r y u))
def Dm(C:fw)(n:Nat)(ops:List Oper)(S ord:List Nat)(T:Nat->eZ×dE)(k:Nat):Prop:=
  ∀
   p,p<k-> ∃i o,ord[p]?=E i/\ops[i]?=E o/\(∃v,fA n (T p).1 o.dst v=E (T (p+1)).1)/\(T p).2.length<=(T (p+1)).2.length/\
   (∀b∈S,b<(T p).2.length->(T (p+1)).2[b]?=(T p).2[b]?)/\
   (sd C o=A->(T (p+1)).2=(T p).2/\ ∃H,qOp C n ops S i ⟨(T p).1,(T p).2,[],[]⟩=E H/\H.e=(T (p+1)).1/\eb H.ob=G)
def Dm.len{T:Nat->eZ×dE}(h:Dm C n ops S ord T k): ∀(p q:Nat),p<=q->q<=k->(T p).2.length<=(T q).2.length:=by
  intro p q y;obtain⟨d,rfl⟩: ∃d,q=p+d:=⟨q-p,O⟩
  clear y
  induction d with
  |zero=>exact λ_=>eT _
  |succ d v=>
   intro R;obtain⟨i,o,_,_,_,M,_⟩:=h (p+d) O;exact mh (v O) M
def Dm.stay{T:Nat->eZ×dE}(h:Dm C n ops S ord T k): ∀(p q:Nat),p<=q->q<=k-> ∀b∈S,b<(T p).2.length->(T q).2[b]?=(T p).2[b]?:=by
  intro p q y;obtain⟨d,rfl⟩: ∃d,q=p+d:=⟨q-p,O⟩
  clear y
  induction d with
  |zero=>exact λ_ _ _ _=>rfl
  |succ d v=>
   intro R b H z;obtain⟨i,o,_,_,_,_,c,_⟩:=h (p+d) O;have l:=h.len p (p+d) O O;show(T (p+d+1)).2[b]?=_;rw[c b H O,v O b H z]
def Dm.slot{T:Nat->eZ×dE}(h:Dm C n ops S ord T k){t:Nat}: ∀(p q:Nat),p<=q->q<=k->(∀r i o,p<=r->r<q->ord[r]?=E i->ops[i]?=E o->o.dst≠E t)->(T q).1.get t=(T p).1.get t:=by
  intro p q y;obtain⟨d,rfl⟩: ∃d,q=p+d:=⟨q-p,O⟩
  clear y
  induction d with
  |zero=>exact λ_ _=>rfl
  |succ d c=>
   intro R m;obtain⟨i,o,M,e,⟨v,Q⟩,_⟩:=h (p+d) O;have:=l9 Q t;show(T (p+d+1)).1.get t=_;rw[this,if_neg (m (p+d) i o O O M e)];exact c O λr i o a b=>m r i o a O
def Mi{H:St}(z:qOp C n ops S i ⟨e,m,[],[]⟩=E H)(c:eb H.ob=G)(f:ops[i]?=E o):letI a:=gN e (ov ops o);H.m=m/\((ia ops a o=E G/\ ∃v,qEv C S m a o.op=E (v,G)/\v.wf m.length=G/\fA n e o.dst v=E H.e)∨
      (ia ops a o=E A/\fA n e o.dst (.t [])=E H.e)):=by
  unfold qOp at z;rw[f]at z;simp only at z;split at z
  .rename_i d;split at z
   .rename_i v p Q;cases b:V.wf m.length v with
    |false=>rw[b]at z;cases z
    |true=>
     rw[b]at z;simp only[gq]at z;split at z
     .rename_i y g;cases z;obtain⟨_,rfl⟩:=nt c;exact⟨K,.inl ⟨d,v,Q,b,g⟩⟩
     .cases z
   .cases z
  .rename_i d;split at z
   .rename_i y g;cases z;exact⟨K,.inr ⟨d,g⟩⟩
   .cases z
  .cases z
def Bp{F:eZ->dE->Prop}: ∀(d k:Nat)(T:Nat->eZ×dE),k+d=ord.length->Dm C n ops S ord T k->kJ P C n ops S F (ord.drop k) (T k).1 (T k).2->
    ∃
     u z,k<=z/\z<=ord.length/\(∀p,p<=k->u p=T p)/\(u z).2=(T k).2/\Dm C n ops S ord u z/\kJ P C n ops S F (ord.drop z) (u z).1 (u z).2/\
     (∀p i o,k<=p->p<z->ord[p]?=E i->ops[i]?=E o->sd C o=A)/\(z=ord.length∨ ∃i o,ord[z]?=E i/\ops[i]?=E o/\sd C o=G)
  |0,k,T,hd,r,y=>⟨T,k,eT _,O,λ_ _=>rfl,K,r,y,λp i o M e=>O,.inl O⟩
  |d+1,k,T,hd,r,y=>by
   have hk:k<ord.length:=O;have h:ord.drop k=ord[k]::ord.drop (k+1):=uX hk;have t:ord[k]?=E ord[k]:=jr hk;rw[h]at y;obtain⟨o,b,s⟩:=y;rcases s with⟨j,H,hq,c,q⟩ |⟨j,hw⟩
   .obtain⟨Q,x⟩:=Mi hq c b;have aa:H.m=(T k).2/\ ∃v,fA n (T k).1 o.dst v=E H.e:=⟨Q,x.elim (λ⟨_,v,_,_,g⟩=>⟨v,g⟩) λ⟨_,g⟩=>⟨_,g⟩⟩
    let l:Nat->eZ×dE:=λp=>if p<=k then T p else(H.e,(T k).2)
    have M: ∀p,p<=k->l p=T p:=λp g=>if_pos g
    have e:l (k+1)=(H.e,(T k).2):=if_neg O
    have f:Dm C n ops S ord l (k+1):=by
      intro p g;rcases ju p k with m|m
      .rw [M p O,M (p+1) O];exact r p m
      .have:p=k:=O;subst this;rw[M p (eT _),e];exact⟨ord[p],o,t,b,aa.2,eT _,λ_ _ _=>rfl,λ_=>⟨K,H,hq,K,c⟩⟩
    have R:kJ P C n ops S F (ord.drop (k+1)) (l (k+1)).1 (l (k+1)).2:=by rw[e];exact q
    obtain⟨u,z,a1,a2,a3,a4,a5,a6,a7,a8⟩:=Bp d (k+1) l O f R;refine⟨u,z,O,a2,λp g=>by rw[a3 p O,M p g],by rw[a4,e],a5,a6,λp i o2 b1 b2 b3 b4=>?_,a8⟩;rcases ju k p with m|m
    .exact a7 p i o2 O b2 b3 b4
    .have:p=k:=O;subst this;rw[t]at b3;cases b3;rw[b]at b4;cases b4;exact j
   .refine⟨T,k,eT _,O,λ_ _=>rfl,K,r,?_,λp i o M e=>O,.inr ⟨ord[k],o,t,b,j⟩⟩;rw[h];exact⟨o,b,.inr ⟨j,hw⟩⟩
structure DI(P:Program)(C:fw)(n:Nat)(ops:List Oper)(S ord:List Nat)(F:eZ->dE->Prop)(ρ0:Nat->Nat)(e0:eZ)(m0:dE)(a0:Act)(w0:ii)(L:Nat->Prop)(T:Nat->eZ×dE)(k:Nat)(ρ:Nat->Nat)(a:Act)(w:ii):Prop where
  closed:re ops L
  zero:T 0=(e0,m0)
  le:k<=ord.length
  tr:Dm C n ops S ord T k
  run:kJ P C n ops S F (ord.drop k) (T k).1 (T k).2
  ext:qE ρ0 m0 w0 ρ (T k).2 w
  size:a.tmps.size=n
  defers:a.defers=a0.defers
  Yr: ∀p i o,ord[p]?=E i->ops[i]?=E o->sd C o=G->(L i↔p<k)
  bef: ∀p i,ord[p]?=E i->L i->p<k
  nxt:k=ord.length∨ ∃i o,ord[k]?=E i/\ops[i]?=E o/\sd C o=G
  e1: ∀p i o d v,p<k->ord[p]?=E i->ops[i]?=E o->L i->o.dst=E d->(T (p+1)).1.get d=E v->a.tmps[d]?=E (v.ee ρ)/\v.wf (T k).2.length=G
  e0: ∀t v,(∀i o,ops[i]?=E o->L i->o.dst≠E t)->e0.get t=E v->a.tmps[t]?=E (v.ee ρ)
variable{F:eZ->dE->Prop}{ρ0:Nat->Nat}{e0:eZ}{m0:dE}{a0:Act}{w0:ii}{L:Nat->Prop}{T:Nat->eZ×dE}{k:Nat}{ρ:Nat->Nat}{a:Act}{w:ii}
def DI.SZ(h:DI P C n ops S ord F ρ0 e0 m0 a0 w0 L T k ρ a w)(x:pZ C ops ord=G)(m:p<=k)(hp:ord[p]?=E i)(hi:ops[i]?=E o)(y: ¬L i)(f: ∀e∈o.after,Region.binds .any e=G->L e.on):ik ρ (gN (T p).1 (ov ops o)) a:=by
  intro t v hv;have b:=qD hv;have u:=lT hv;by_cases g: ∃q j c,q<p/\ord[q]?=E j/\ops[j]?=E c/\c.dst=E t
  .obtain⟨q,j,c,Q,d,H,z⟩:=g;have R:L j:=Dg x h.closed Q d hp H hi (.inl (by simp only[wJ,AY];exact .inl (sz z b))) f
   have s:=h.tr.slot (t:=t) (q+1) p O m λr i2 o2 a1 a2 a3 a4 l=>by have:=Bb x d a3 H a4 z l;omega
   rw[s]at u;exact(h.e1 q j c t v O d H R z u).1
  .have s:=h.tr.slot (t:=t) 0 p O m λr i2 o2 a1 a2 a3 a4 l=>g ⟨r,i2,o2,a2,a3,a4,l⟩
   rw[s,h.zero]at u;refine h.e0 t v (λj c H R z=>?_) u;have aa:j<ops.length:=(fQ.1 H).1;obtain⟨q,d⟩:=FG x aa;rcases nf q p with M|M|M
   .exact g ⟨q,j,c,M,d,H,z⟩
   .subst M;rw[hp]at d;cases d;exact y R
   .exact y (Dg x h.closed M hp d hi H (.inl (by simp only[wJ,AY];exact .inr (sz z b))) (h.closed j c H R))
def HG{α:Type}{b:Bool}{x:Option α}{y:α}(h:(bif b then x else N)=E y):b=G/\x=E y:=by
  cases b
  .cases h
  .exact⟨K,h⟩
def Og{o:Op}{x:V×Bool}(h:qEv C S m e o=E x)(v: ∀b∈S,b<m.length->u[b]?=m[b]?):sD C u e o=E x:=by
  unfold qEv at h;split at h
  .rename_i t l;split at h
   .rename_i b H;obtain⟨q,h⟩:=HG h;have g:b.1<m.length->u[b.1]?=m[b.1]?:=v b.1 (uj.1 q);unfold sD at h⊢
    have i: ∀c:dE,iu C c e (.load t l)=(match fC C e l,C.kM t with
      |some (.p (E a)),E d=>match c[a.1]? with
       |some x=>zD d x.c a.2
       |none=>N
      |_,_=>N):=λ_=>rfl
    have s: ∀c:dE,Cz C c e (.load t l)=N:=λ_=>rfl
    rw[i,s]at h⊢;rw[H]at h⊢;cases r:C.kM t with
    |none=>rw[r]at h;exact h
    |some d=>
     rw[r]at h;simp only at h⊢;rcases ju b.1 m.length with f|f
     .rw [g f];exact h
     .rw [EF f]at h;cases h
   .cases h
  .obtain⟨M,j⟩:=HG h;exact B6 C (iB M) e j u
def DI.quiet(h:DI P C n ops S ord F ρ0 e0 m0 a0 w0 L T k ρ a w)(x:pZ C ops ord=G)(ae:p<k)(hp:ord[p]?=E i)(g:ops[i]?=E o)(ad:sd C o=A)(f: ∀e∈o.after,Region.binds .any e=G->L e.on){v:V}(s:fA n (T p).1 o.dst v=E (T (p+1)).1)(aa:v.wf (T k).2.length=G):
    DI P C n ops S ord F ρ0 e0 m0 a0 w0 (λj=>L j∨j=i) T k ρ (a.put o.dst (v.ee ρ)) w:=by
  have r: ∀d,o.dst=E d->d<n:=λd z=>by rw[z]at s;exact vc s
  have M: ∀t,o.dst≠E t->(a.put o.dst (v.ee ρ)).tmps[t]?=a.tmps[t]?:=by
    intro t ht;cases z:o.dst with
    |none=>rfl
    |some d=>
     have:d≠t:=λe=>ht (by rw[z,e])
     simp[Act.put,Li this]
  refine⟨λj c H R e l hb=>?_,h.zero,h.le,h.tr,h.run,h.ext,by rw[iH,h.size],by rw[put_defers,h.defers],λq j c b H l=>?_,λq j b R=>?_,h.nxt,λq j c d u ac b H R z hu=>?_,λt u m hu=>?_⟩
  .rcases R with R|rfl
   .exact .inl (h.closed j c H R e l hb)
   .rw [g]at H;cases H;exact .inl (f e l hb)
  .refine⟨λhL=>?_,λhl=> .inl ((h.Yr q j c b H l).2 hl)⟩;rcases hL with hL|rfl
   .exact(h.Yr q j c b H l).1 hL
   .rw [g]at H;cases H;rw[ad]at l;cases l
  .rcases R with R|rfl
   .exact h.bef q j b R
   .have:=yu x hp b;omega
  .by_cases Q:j=i
   .subst Q;rw[g]at H;cases H;have ab:=yu x hp b;subst ab;have h1:=l9 s d;rw[if_pos z,hu]at h1;cases h1;refine⟨?_,aa⟩;rw[z];have:=r d z;simp[Act.put,h.size,this]
   .have y:L j:=R.resolve_right Q
    rw[M d λe=>Q (by
     have:=Bb x hp b g H e z;subst this
     rw[hp]at b;cases b;rfl)]
    exact h.e1 q j c d u ac b H y z hu
  .rw [M t (m i o g (.inr K))];exact h.e0 t u (λj c H R=>m j c H (.inl R)) hu
def DI.effect(h:DI P C n ops S ord F ρ0 e0 m0 a0 w0 L T k ρ a w)(x:pZ C ops ord=G)(aj:fZ m0.length e0=G)(g:ord[k]?=E i)(hi:ops[i]?=E o)(he:sd C o=G)(av: ¬L i)(f: ∀e∈o.after,Region.binds .any e=G->L e.on){v:V}{y:dE}{e':eZ}(s:fA n (T k).1 o.dst v=E e')(al: ∀b∈S,b<(T k).2.length->y[b]?=(T k).2[b]?)(ah:v.wf y.length=G)(ac:kJ P C n ops S F (ord.drop (k+1)) e' y){l:Nat->Nat}{w':ii}(hx:qE ρ (T k).2 w l y w'):
    ∃T' k',DI P C n ops S ord F ρ0 e0 m0 a0 w0 (λj=>L j∨j=i) T' k' l (a.put o.dst (v.ee l)) w':=by
  have ar:k<ord.length:=(fQ.1 g).1;let T1:Nat->eZ×dE:=λp=>if p<=k then T p else(e',y)
  have h1: ∀p,p<=k->T1 p=T p:=λp g=>if_pos g
  have h2:T1 (k+1)=(e',y):=if_neg O
  have ak:Dm C n ops S ord T1 (k+1):=by
    intro p aq;rcases ju p k with ae|ae
    .rw [h1 p O,h1 (p+1) O];exact h.tr p ae
    .have:p=k:=O;subst this;rw[h1 p (eT _),h2];exact⟨i,o,g,hi,⟨v,s⟩,hx.len,al,λhn=>by rw[he]at hn;cases hn⟩
  have am:kJ P C n ops S F (ord.drop (k+1)) (T1 (k+1)).1 (T1 (k+1)).2:=by rw[h2];exact ac
  obtain⟨T',k',a1,a2,a3,a4,a5,a6,a7,a8⟩:=Bp (ord.length-(k+1)) (k+1) T1 O ak am;rw[h2]at a4;have hT: ∀p,p<=k->T' p=T p:=λp g=>by rw[a3 p O,h1 p g]
  have ao:T' (k+1)=(e',y):=by rw[a3 (k+1) (eT _),h2]
  have ag: ∀d,o.dst=E d->d<n:=λd z=>by rw[z]at s;exact vc s
  have M: ∀t,o.dst≠E t->(a.put o.dst (v.ee l)).tmps[t]?=a.tmps[t]?:=by
    intro t ht;cases z:o.dst with
    |none=>rfl
    |some d=>
     have:d≠t:=λe=>ht (by rw[z,e])
     simp[Act.put,Li this]
  refine⟨T',k',λj c H R e he hb=>?_,by rw[hT 0 (qM _),h.zero],a2,a5,a6,?_,by rw[iH,h.size],by rw[put_defers,h.defers],λq j c r H ab=>?_,λq j r R=>?_,a8,λq j c d u ap r H R z Q=>?_,λt u af Q=>?_⟩
  .rcases R with R|rfl
   .exact .inl (h.closed j c H R e he hb)
   .rw [hi]at H;cases H;exact .inl (f e he hb)
  .rw [a4];exact h.ext.trans hx
  .refine⟨λhL=>?_,λhl=>?_⟩
   .rcases hL with hL|rfl
    .have:=(h.Yr q j c r H ab).1 hL;omega
    .have:=yu x g r;omega
   .rcases nf q k with h3|h3|h3
    .exact .inl ((h.Yr q j c r H ab).2 h3)
    .subst h3;rw[g]at r;cases r;exact .inr K
    .have:=a7 q j c O hl r H;rw[ab]at this;cases this
  .rcases R with R|rfl
   .have:=h.bef q j r R;omega
   .have:=yu x g r;omega
  .rw [a4];by_cases aa:j=i
   .subst aa;rw[hi]at H;cases H;have an:=yu x g r;subst an;rw[ao]at Q;have h1:=l9 s d;rw[if_pos z,Q]at h1;cases h1;refine⟨?_,ah⟩;rw[z];have:=ag d z;simp[Act.put,h.size,this]
   .have m:L j:=R.resolve_right aa;have ad:=h.bef q j r m;rw[hT (q+1) O]at Q;obtain⟨b1,b2⟩:=h.e1 q j c d u ad r H m z Q
    rw[M d λe=>aa (by
     have:=Bb x g r hi H e z;subst this
     rw[g]at r;cases r;rfl),b1,gx hx.ln u b2]
    exact⟨K,qJ hx.len u b2⟩
  .have b1:=h.e0 t u (λj c H R=>af j c H (.inl R)) Q;have b2:u.wf (T k).2.length=G:=qJ h.ext.len u (nR aj t u Q);rw[M t (af i o hi (.inr K)),b1,gx hx.ln u b2]
def Us(aR:P.follows .mixedOrders=G)(ht:iq P C){id:Nat}{M:Array Oper}{ord S:List Nat}{F:eZ->dE->Prop}{ρ:Nat->Nat}{a:Act}{w:ii}{Q:Exit->Act->ii->Prop}(x:pZ C M.toList ord=G)(aO:fZ m.length e=G)(aF:kJ P C n M.toList S F ord e m)(hr:jA ρ m w)(he:ik ρ e a)(hg:Gl ρ C m.length)(hn:a.tmps.size=n)(hk: ∀e' m' l a' s,F e' m'->oz n ρ m a w e' m' l a' s->Q .normal a' s):(Code.region id M G).wp P Q a w:=by
  have aC:my 0 M.toList=G:=by simp only[pZ,iv]at x;exact x.1.1
  have ak: ∀(j:Nat)(o:Oper),M.toList[j]?=E o->j<M.toList.length:=λj o h=>(fQ.1 h).1
  have an:M=M.toList.toArray:=Y
  have fin: ∀(c:Array Bool)(q:List Nat)(T:Nat->eZ×dE)(k:Nat)(l:Nat->Nat)(a':Act)(s:ii),Jv M.toList c q->
   DI P C n M.toList S ord F ρ e m a w (λj=>c.getD j A=G) T k l a' s->Region.ready .any M c=[]->Q .normal a' s:=by
    intro c q T k l a' s hU h f
    have am: ∀d j,j<d->j<M.toList.length->c.getD j A=G:=by
      intro d
      induction d with
      |zero=>intro j hj;omega
      |succ d ih=>
       intro j aZ aq;cases aS:c.getD j A with
       |true=>rfl
       |false=>
        exfalso;have aJ:M.toList[j]?=E (M.toList[j]'aq):=jr aq
        have:j∈Region.ready .any M c:=by refine sm.2 ⟨by rw[iJ (by rw[hU.size];exact aq) G A];exact aS,M.toList[j]'aq,by simpa using aJ,λe he hb=>?_⟩;have aH:=mv aC j _ aJ e he hb;exact ih e.on O O
        rw[f]at this;cases this
    have al: ∀j o,M.toList[j]?=E o->c.getD j A=G:=λj o hj=>am (j+1) j O (ak j o hj)
    have aj:k=ord.length:=by
      rcases h.nxt with h1|⟨i,o,h1,h2,h3⟩
      .exact h1
      .have:=(h.Yr k i o h1 h2 h3).1 (al i o h2);omega
    have hF:=h.run;rw[aj,List.drop_length]at hF;refine hk (T ord.length).1 (T ord.length).2 l a' s hF ⟨by have:=h.ext;rwa [aj]at this,λt v hv=>?_,h.size,h.defers⟩;by_cases hw: ∃(p j:Nat)(o:Oper),ord[p]?=E j/\M.toList[j]?=E o/\o.dst=E t
    .obtain⟨p,j,o,g,hj,hd⟩:=hw;have aY:p<ord.length:=(fQ.1 g).1
     have aa:=h.tr.slot (t:=t) (p+1) ord.length O O λr i2 o2 a1 a2 a3 a4 aB=>by have:=Bb x g a3 hj a4 hd aB;omega
     rw[aa]at hv;exact(h.e1 p j o t v O g hj (al j o hj) hd hv).1
    .have aa:=h.tr.slot (t:=t) 0 ord.length O O λr i2 o2 a1 a2 a3 a4 aB=>hw ⟨r,i2,o2,a3,a4,aB⟩
     rw[aa,h.zero]at hv;refine h.e0 t v (λj o hj _ hd=>?_) hv;obtain⟨p,g⟩:=FG x (ak j o hj);exact hw ⟨p,j,o,g,hj,hd⟩
  have aE: ∀(b:Nat)(c:Array Bool)(q:List Nat)(T:Nat->eZ×dE)(k:Nat)(l:Nat->Nat)(a':Act)(s:ii),Jv M.toList c q->q.length=b->
   DI P C n M.toList S ord F ρ e m a w (λj=>c.getD j A=G) T k l a' s->wpAny P .any M Q b c a' s:=by
    intro b
    induction b with
    |zero=>
     intro c q T k l a' s hU ar h
     have f:Region.ready .any M c=[]:=by
       refine NN.2 λi hi=>?_
       obtain⟨h1,o,ao,_⟩:=sm.1 hi;have ac:i<M.toList.length:=by have:=(Co.1 ao).1;simpa using this
       have:i∈q:=(hU.iff i).2 ⟨ac,by rw[iJ (by rw[hU.size];exact ac) A G];exact h1⟩;rw[Ka.1 ar]at this;cases this
     exact⟨f,fin c q T k l a' s hU h f⟩
    |succ b ih=>
     intro c q T k l a' s hU ar h;refine⟨fin c q T k l a' s hU h,λi hi=>?_⟩;obtain⟨h1,o,ao,am⟩:=sm.1 hi;have y:M.toList[i]?=E o:=by simpa using ao
     have ac:=ak i o y;have aI:c.getD i A=A:=by rw[iJ (by rw[hU.size];exact ac) A G];exact h1
     have aA: ¬c.getD i A=G:=by rw[aI];simp
     have f: ∀e∈o.after,Region.binds .any e=G->c.getD e.on A=G:=am;have aK:i∈q:=(hU.iff i).2 ⟨ac,aI⟩;have aD:=zM hU aK;have ab:(q.erase i).length=b:=by rw[J0 aK];omega
     have af:(λj=>(c.getD j A=G∨j=i))=(λj=>(c.setIfInBounds i G).getD j A=G):=by
       funext j
       apply propext;by_cases az:i=j
       .subst az;have aH:i<c.size:=by rw[hU.size];exact ac
        simp[aH]
       .rw [C9 A az];simp[ra az]
     have aL:Gl l C (T k).2.length:=hg.kg h.ext.len h.ext.ln;obtain⟨p,g⟩:=FG x ac
     have aw:p<=k:=by
       rcases ju k p with hl|hl
       .exfalso;rcases h.nxt with h3|⟨i2,o2,h3,h4,h5⟩
        .have:=(fQ.1 g).1;omega
        .have aU:=Dg x h.closed hl h3 g h4 y (.inr h5) f;have:=(h.Yr k i2 o2 h3 h4 h5).1 aU;omega
       .exact hl
     have z:=h.SZ x aw g y aA f;unfold wpOp;rw[ao];simp only;cases ad:sd C o with
     |false=>
      have ah:p<k:=by
        rcases ju p k with hl|hl
        .exact hl
        .exfalso;have:p=k:=O;subst this;rcases h.nxt with h3|⟨i2,o2,h3,h4,h5⟩
         .have:=(fQ.1 g).1;omega
         .rw [g]at h3;cases h3;rw[y]at h4;cases h4;rw[ad]at h5;cases h5
      obtain⟨i2,o2,b1,b2,_,b4,_,b6⟩:=h.tr p ah;rw[g]at b1;cases b1;rw[y]at b2;cases b2;obtain⟨b7,s',b8,b9,aV⟩:=b6 ad;obtain⟨_,ae⟩:=Mi b8 aV y;have ay:=h.tr.len p k aw (eT _);rcases ae with⟨u,v,hv,aM,ag⟩ |⟨u,ag⟩
      .have H:=gg z u;rw[<-an]at H;rw[if_pos H];refine .inl ?_;unfold Oper.wp;rw[BZ ht h.ext.rel z aL (Og hv (h.tr.stay p k aw (eT _))),yA];have:=h.quiet x ah g y ad f (v:=v) (by rw[ag,b9]) (qJ ay v aM);rw[af]at this;exact ih _ _ _ _ _ _ _ aD ab this
      .have H:=gg z u;rw[<-an]at H;rw[if_neg (by rw[H];simp)];have hu:undef=(V.t []).ee l:=by simp[V.ee,dZ,undef]
       rw[hu];have:=h.quiet x ah g y ad f (v:= .t []) (by rw[ag,b9]) K;rw[af]at this;exact ih _ _ _ _ _ _ _ aD ab this
     |true=>
      have aP:p=k:=by
        rcases ju p k with hl|hl
        .exact(aA ((h.Yr p i o g y ad).2 hl)).elim
        .omega
      subst aP;have aj:p<ord.length:=(fQ.1 g).1;have hR:=h.run;rw[uX aj]at hR;obtain⟨o2,aG,ae⟩:=hR;have aQ:ord[p]=i:=by rw[jr aj]at g;exact zL g
      rw[aQ,y]at aG;cases aG;rcases ae with⟨hc,_⟩ |⟨_,u,R,av,ax⟩
      .rw [ad]at hc;cases hc
      .have H:=gg z u;rw[<-an]at H;rw[if_pos H];refine .inl (av l a' s _ _ h.ext.rel z aL λv aW m2 w2 aT hx=>?_);obtain⟨c1,c2,e2,c3,c4⟩:=ax v m2 aT hx.len;obtain⟨T',k',hI⟩:=h.effect x aO g y ad aA f c3 c2 c1 c4 hx;rw[af]at hI;exact ih _ _ _ _ _ _ _ aD ab hI
  have aX:jA ρ m {w with drawn:=w.drawn+1}:=hr.draw _;obtain⟨T',k',a1,a2,a3,a4,a5,a6,a7,a8⟩:=Bp (P:=P) (F:=F) ord.length 0 (λ_=>(e,m)) O (λp g=>O) aF;have hz:T' 0=(e,m):=a3 0 (eT _);refine Kg aR ?_;refine aE M.size _ (List.range M.size) T' k' ρ a {w with drawn:=w.drawn+1} (Cu _ _ Y) Y ?_;have ap: ∀j,¬(Array.replicate M.size A).getD j A=G:=λj=>by rw[qt];simp
  refine⟨λi o hi hL=>(ap i hL).elim,hz,a2,a5,a6,by rw[a4];exact .draw hr _,hn,K,λp i o h1 h2 h3=>⟨λhL=>(ap i hL).elim,λhl=>?_⟩,λp i _ hL=>(ap i hL).elim,a8,λp i o d v _ _ _ hL=>(ap i hL).elim,λt v _ hv=>he t v hv⟩;have:=a7 p i o (qM _) hl h1 h2;rw[h3]at this;cases this
def Rq(C:fw)(n:Nat)(ops:List Oper)(S:List Nat):List Nat->eZ->dE->Option (eZ×List Bool)
  |[],e,_=>E (e,[])
  |i::r,e,m=>match ops[i]? with
   |some o=>bif sd C o then N else match qOp C n ops S i ⟨e,m,[],[]⟩with
    |some H=>match Rq C n ops S r H.e m with
     |some (y,p)=>E (y,H.ob++p)
     |none=>N
    |none=>N
   |none=>N
def iS{F:eZ->dE->Prop}: ∀(l r:List Nat){e b:eZ}{m:dE}{p:List Bool},Rq C n ops S l e m=E (b,p)->eb p=G->kJ P C n ops S F r b m->kJ P C n ops S F (l++r) e m
  |[],r,e,b,m,p,h,d,R=>by cases h;exact R
  |i::l,r,e,b,m,p,h,d,R=>by
   simp only[Rq]at h;split at h
   .rename_i o c;cases z:sd C o with
    |true=>rw[z]at h;cases h
    |false=>
     rw[z]at h;simp only[gr]at h;split at h
     .rename_i H v;split at h
      .rename_i f ob2 y;simp only[eJ,ef]at h;obtain⟨rfl,rfl⟩:=h;obtain⟨M,g⟩:=gS.1 d;exact⟨o,c,.inl ⟨z,H,v,M,iS l r y g R⟩⟩
      .cases h
     .cases h
   .cases h
def kJ.call{F:eZ->dE->Prop}{g:FuncId}{H:List Operand}{s:List V}{Q1:V->dE->Prop}(ho:ops[i]?=E o)(p:ve o.op=E (g,H))(z:sd C o=G)(f:ia ops (gN e (ov ops o)) o=E G)(M:eo P g)(c:nX C (gN e (ov ops o)) H=E s)(x:eM P C.mw g s m Q1)(h: ∀v u,Q1 v u->m.length<=u.length->v.wf u.length=G/\(∀b∈S,b<m.length->u[b]?=m[b]?)/\ ∃e',fA n e o.dst v=E e'/\kJ P C n ops S F r e' u):kJ P C n ops S F (i::r) e m:=by
  refine⟨o,ho,.inr ⟨z,f,Q1,?_,h⟩⟩;intro ρ a w next Q hr he R hk
  have j: ∃y,o.op= .call {callee:= .value (.func g),args:=H.toArray,argTypes:=y}:=by
    unfold ve at p;split at p
    .rename_i g' aa y t;simp only[eJ,ef]at p;obtain⟨rfl,rfl⟩:=p;exact⟨y,by rw[t]⟩
    .cases p
  obtain⟨y,t⟩:=j;unfold Oper.wp
  have q:(execOp a.eval o).run P w= .ok (.enter g (dZ ρ s).toArray) w:=by
    have h1:execOp a.eval o=callFunc g (#[]++H.toArray.map a.eval++ #[]):=by unfold execOp;rw[t];rfl
    rw[h1,gT M]
    congr 2
    apply nh;simp[<-jH he R c]
  rw[q,Am];refine(x ρ w hr R).mono ?_;rintro en w'⟨l,v,u,d,rfl,hq⟩;exact hk v l u w' hq d.whole
def kJ.Yr{F:eZ->dE->Prop}{g:eZ}{v:V}{b:Bool}(x:iq P C)(hf:ji P C)(H:ops[i]?=E o)(z:sd C o=G)(c:ia ops (gN e (ov ops o)) o=E G)(h:yV C m (gN e (ov ops o)) o.op=E (v,u,b))(hb:b=G)(d:v.wf u.length=G)(f: ∀b∈S,b<m.length->u[b]?=m[b]?)(s:fA n e o.dst v=E g)(R:kJ P C n ops S F r g u):kJ P C n ops S F (i::r) e m:=by
  subst hb;refine⟨o,H,.inr ⟨z,c,λj q=>j=v/\q=u,?_,?_⟩⟩
  .intro ρ a w next Q y he M R;exact Be x hf y he M h next Q λl p t _=>R v l u p ⟨K,K⟩ t
  .rintro j q⟨rfl,rfl⟩_;exact⟨d,f,g,s,R⟩
def tX{d:Ds}{k:List Item}{id:Nat}{M:Array Oper}(S ord:List Nat)(q:P.follows .mixedOrders=G)(r:iq P C)(c:pZ C M.toList ord=G)(s:fZ m.length e=G)(i:jv m.length d=G)(h:kJ P C n M.toList S (λo u=>Ev P C f n b d k o u Q) ord e m):Ev P C f n b d (.code (.region id M G)::k) e m Q:=by
  intro ρ a w R H y j p x z t;exact yL (Us q r c s h y j p x λo u l a' w' v g=>⟨K,v.Di H i p z t g⟩)
end
def Ym:Nat:=aN*fS%pN
def cbN:Nat:=bN*fS%pN
noncomputable def F1(x y:Nat):Bool:=
  let v:=(fc (fc x x) x+fc aN x+bN)%pN
  bif Nat.beq v (fc y y)then
  bif Nat.ble (2^192) v then
  bif Nat.ble (2^232) x then
  bif Nat.ble (2^232) y then
  bif Nat.ble (y+2^192) pN then
  let a:=x*fS%pN
  bif LK (ky a a)then
  let P:=la a a
  bif LK (ky P a)then
  bif LK (ky Ym a)then
  bif C0 ((rj (la P a+la Ym a)+cbN)%fS)then
  N6 400 v pN G
  else A else A else A else A else A else A else A else A else A
noncomputable def UU(q:J3)(i:Nat):Bool:=
  bif Nat.beq (fc i q.z) 1 then
  let s:=fc i i
  F1 (fc q.x s) (fc q.y (fc s i))
  else A
noncomputable def aQr(f:Nat):Nat->Nat->Nat->Nat:=
  Nat.rec (λ_ _ a=>a) (λ_ v b e a=>v (b*b%pN) (e/2) (bif Nat.beq (e%2) 1 then a*b%pN else a)) f
noncomputable def batch(l:List J3):Nat->(Nat->Bool)->Bool:=
  List.rec (λa k=>k (aQr 256 a (pN-2) 1)) (λq _ v a k=>v (fc a q.z) λi=>bif UU q (fc i a)then k (fc i q.z)else A) l
noncomputable def Ak(q:J3)(n:Nat):List J3->List J3:=Nat.rec (λl=>l) (λn v l=>v (qH q (Bq (n+1))::l)) n
noncomputable def KT(q:J3):Bool:=batch (q::Ak q 15 []) 1 (λ_=>G)
noncomputable def Ag(f:Nat->Bool)(n:Nat):Bool:=Nat.rec G (λn v=>bif f n then v else A) n
noncomputable def dQ(c:Nat):Bool:=
  let q:=jI (jI ⟨0,0,0⟩ (c/16)) (c%16)
  Ag (λd=>KT (jj (jj (jj (jj (jI q d)))))) 16
noncomputable def Rg:Bool:=
  bif batch (Ak ⟨0,0,0⟩ 15 []) 1 (λ_=>G)then Ag (λd=>KT (jj (jj (jj (jj (jI ⟨0,0,0⟩ (d+1))))))) 15 else A
def Cq(a b:Nat):Prop:=a%pN=b%pN
def Cq.refl(a:Nat):Cq a a:=rfl
def Cq.symm(h:Cq a b):Cq b a:=Eq.symm h
def Cq.trans{c:Nat}(h:Cq a b)(F:Cq b c):Cq a c:=Eq.trans h F
def Cq.add{c:Nat}(h:Cq a b)(F:Cq c d):Cq (a+c) (b+d):=by unfold Cq at*;rw[xu,h,F,<-xu]
def Cq.mul{c:Nat}(h:Cq a b)(F:Cq c d):Cq (a*c) (b*d):=by unfold Cq at*;rw[nr,h,F,<-nr]
def Cq.mod(a:Nat):Cq (a%pN) a:=xj _ _
def Cq.aib{q:Nat}:Cq (a+q*pN) a:=by unfold Cq;rw[Nat.add_mul_mod_self_right]
abbrev Hk:Nat:=57896044551258231062740198220913455226441901632205615997740090104278065086466
def QN:Cq (fS*Hk) 1:=by unfold Cq;decide+kernel
def ava:Cq rN fS:=by unfold Cq;decide+kernel
def ati:(1+qN*pN)%fS=0:=kt
def Uj(a b:Nat):(a*b+ky a b*pN)%fS=0:=by unfold ky;rw[xu,nr (a*b*qN%fS),xj,<-nr,<-xu,lH,show a*b+a*b*(qN*pN)=a*b*(1+qN*pN)by rw[oZ,jq],nr,ati,wP,Nat.zero_mod]
def NU(a b:Nat):fS*((a*b+ky a b*pN)/fS)=a*b+ky a b*pN:=Nat.mul_div_cancel' (yZ (Uj a b))
def Gx(c:Nat):Cq (rj c) c:=by unfold rj;have h:Cq (c/fS*rN) (c/fS*fS):=(Cq.refl _).mul ava;have e:=Nat.mod_add_div c fS;rw[kP fS]at e;have S:=(Cq.refl (c%fS)).add h;unfold Cq at S⊢;rw[S,e]
def Fy{R S:Nat}(t:Cq a (R*fS))(H:Cq b (S*fS)):Cq (la a b) (R*S*fS):=by
  have M:Cq (la a b) ((a*b+ky a b*pN)/fS):=Gx _;have c:Cq (fS*((a*b+ky a b*pN)/fS)) (a*b):=by rw[NU];exact Cq.aib
  have l:Cq (Hk*(fS*((a*b+ky a b*pN)/fS))) (Hk*(a*b)):=(Cq.refl _).mul c
  have u:Cq (Hk*(fS*((a*b+ky a b*pN)/fS))) ((a*b+ky a b*pN)/fS):=by
    rw[<-lH,kP Hk];have:=QN.mul (Cq.refl ((a*b+ky a b*pN)/fS))
    rwa [sX]at this
  have y:Cq (Hk*(a*b)) (Hk*(R*fS*(S*fS))):=(Cq.refl _).mul (t.mul H)
  have C:Cq (Hk*(R*fS*(S*fS))) (R*S*fS):=by
    have e:Hk*(R*fS*(S*fS))=fS*Hk*(R*S*fS):=by rw[kP fS Hk,lH,lH,Kq fS (R*S) fS,Kq fS S,<-lH R S]
    rw[e];have:=QN.mul (Cq.refl (R*S*fS))
    rwa [sX]at this
  exact M.trans (u.symm.trans (l.trans (y.trans C)))
def vN(x:Nat):Nat:=(fc (fc x x) x+fc aN x+bN)%pN
def sN(x:Nat):Nat:=rj (rj (la (la (x*fS%pN) (x*fS%pN)) (x*fS%pN)+la Ym (x*fS%pN))+cbN)
def aqw(x:Nat):sN x*Hk%pN=vN x:=by
  have L:Cq (x*fS%pN) (x*fS):=Cq.mod _;have T:Cq Ym (aN*fS):=Cq.mod _;have w:Cq cbN (bN*fS):=Cq.mod _;have M:=Fy L L;have S:=Fy M L;have l:=Fy T L;have u:Cq (sN x) (x*x*x*fS+aN*x*fS+bN*fS):=(Gx _).trans (((Gx _).trans (S.add l)).add w);have y:Cq (sN x*Hk) ((x*x*x*fS+aN*x*fS+bN*fS)*Hk):=u.mul (Cq.refl _)
  have e:(x*x*x*fS+aN*x*fS+bN*fS)*Hk=fS*Hk*(x*x*x+aN*x+bN):=by rw[<-ot,<-ot,lH,kP]
  rw[e]at y;have C:=QN.mul (Cq.refl (x*x*x+aN*x+bN));rw[sX]at C
  have c:Cq (x*x*x+aN*x+bN) (fc (fc x x) x+fc aN x+bN):=
    (((((Cq.mod (x*x)).mul (Cq.refl x)).symm.trans (Cq.mod _).symm).add (Cq.mod _).symm).add (Cq.refl bN))
  exact y.trans (C.trans c)
structure Ij(x y:Nat):Prop where
  eq:vN x=fc y y
  v2:2^192<=vN x
  x2:2^232<=x
  y2:2^232<=y
  yp:y+2^192<=pN
  ev1:LK (ky (x*fS%pN) (x*fS%pN))=G
  ev2:LK (ky (la (x*fS%pN) (x*fS%pN)) (x*fS%pN))=G
  ev3:LK (ky Ym (x*fS%pN))=G
  nz:C0 ((rj (la (la (x*fS%pN) (x*fS%pN)) (x*fS%pN)+la Ym (x*fS%pN))+cbN)%fS)=G
  jac:N6 400 (vN x) pN G=G
def lZ{b x:Bool}(h:(bif b then x else A)=G):b=G/\x=G:=by
  cases b
  .exact absurd h Y
  .exact⟨K,h⟩
def Wv(x y:Nat):letI a:=x*fS%pN;F1 x y=(bif Nat.beq (vN x) (fc y y)then bif Nat.ble (2^192) (vN x)then bif Nat.ble (2^232) x then bif Nat.ble (2^232) y then bif Nat.ble (y+2^192) pN then bif LK (ky a a)then bif LK (ky (la a a) a)then bif LK (ky Ym a)then bif C0 ((rj (la (la a a) a+la Ym a)+cbN)%fS)then N6 400 (vN x) pN G else A else A else A else A else A else A else A else A else A):=I
def WV{x y:Nat}(h:F1 x y=G):Ij x y:=by rw[Wv]at h;obtain⟨M,h⟩:=lZ h;obtain⟨S,h⟩:=lZ h;obtain⟨l,h⟩:=lZ h;obtain⟨u,h⟩:=lZ h;obtain⟨a,h⟩:=lZ h;obtain⟨C,h⟩:=lZ h;obtain⟨c,h⟩:=lZ h;obtain⟨e,h⟩:=lZ h;obtain⟨d,h⟩:=lZ h;exact⟨iB M,mi S,mi l,mi u,mi a,C,c,e,d,h⟩
def jm{b x:Bool}(h:(bif b then A else x)=G):b=A/\x=G:=by
  cases b
  .exact⟨K,h⟩
  .exact absurd h Y
def nk(h:Nat.beq a b=A):a≠b:=λe=>by subst e;rw[Iu]at h;cases h
def aco{m:Nat}(h:LK m=G):letI a:Nat:=536870912;m%a≠1/\m/2^57%a≠1/\m/2^114%a≠1/\m/2^171%a≠1/\m/2^228%a≠1:=by obtain⟨M,h⟩:=jm h;obtain⟨S,h⟩:=jm h;obtain⟨l,h⟩:=jm h;obtain⟨u,h⟩:=jm h;obtain⟨y,_⟩:=jm h;exact⟨nk M,nk S,nk l,nk u,nk y⟩
def Uo{s:Nat}(h:C0 s=G):letI a:Nat:=536870912;letI b:Nat:=268435456;s%a≠0/\s/2^29%b≠0/\s/2^57%a≠0/\s/2^86%b≠0/\s/2^114%a≠0/\s/2^143%b≠0/\s/2^171%a≠0/\s/2^200%b≠0/\s/2^228%a≠0:=by obtain⟨M,h⟩:=jm h;obtain⟨S,h⟩:=jm h;obtain⟨l,h⟩:=jm h;obtain⟨u,h⟩:=jm h;obtain⟨y,h⟩:=jm h;obtain⟨C,h⟩:=jm h;obtain⟨c,h⟩:=jm h;obtain⟨e,h⟩:=jm h;obtain⟨d,_⟩:=jm h;exact⟨nk M,nk S,nk l,nk u,nk y,nk C,nk c,nk e,nk d⟩
def XT{r s o:Nat}(v:s<=64)(y:r=2^s*(2*o+1)):Nat.gcd r 18446744073709551616=2^s:=by
  have e:(18446744073709551616:Nat)=2^s*2^(64-s):=by rw[<-nu,(O:s+(64-s)=64)]
  have M:Nat.gcd (2*o+1) (2^(64-s))=1:=by refine Nat.Coprime.pow_right (64-s) ?_;show Nat.gcd (2*o+1) 2=1;rw[Nat.gcd_comm,Nat.gcd_rec,(O:(2*o+1)%2=1)];rfl
  rw[y,e,Nat.gcd_mul_left,M,jq]
def afb(b:Nat):Nat.land b 7=b%8:=Cs b 3
def Tu(b:Nat):Nat.land b 3=b%4:=Cs b 2
def VS(b c:Nat):Nat.beq (Nat.land (Nat.land b c) 3) 3=D (b%4=3/\c%4=3):=by
  have e:Nat.land (Nat.land b c) 3=Nat.land (b%4) (c%4):=by rw[<-Tu b,<-Tu c];show(b&&&c)&&&3=(b&&&3)&&&(c&&&3);rw[GM,GM,<-GM 3 c 3,Nat.and_comm 3 c,GM c 3 3,Nat.and_self]
  rw[e];have H:b%4<4:=iD _ J;have s:c%4<4:=iD _ J;generalize b%4=x at*;generalize c%4=y at*;have:x=0∨x=1∨x=2∨x=3:=O;have:y=0∨y=1∨y=2∨y=3:=O;rcases‹x=0∨_›with rfl|rfl|rfl|rfl<;>rcases‹y=0∨_›with rfl|rfl|rfl|rfl<;>rfl
def sB(j:Bool):Int:=bif j then 1 else-1
def K0(j:Bool):sB (!j)= -sB j:=by cases j<;>rfl
def Tl: ∀(f a b:Nat)(j:Bool),N6 f a b j=G->JR f (a:Int) (b:Int) (sB j)=E 1
  |0,_,_,_,h=>absurd h (by simp[N6])
  |f+1,a,b,j,h=>by
   have h:(bif Nat.beq b 1 then j else
     let r:=a%b;let g:=Nat.gcd r 18446744073709551616
     bif Nat.beq g 18446744073709551616 then A else
     let c:=r/g;let e:=Nat.land b 7;let j1:=bif Nat.beq (Nat.log2 g%2) 1 then(bif Nat.beq e 3 then !j else bif Nat.beq e 5 then !j else j)else j
     N6 f b c (bif Nat.beq (Nat.land (Nat.land b c) 3) 3 then !j1 else j1))=G:=h
   unfold JR;by_cases H:b=1
   .subst H;have h:j=G:=h;subst h;rw[if_pos (by rfl)];rfl
   .have t:Nat.beq b 1=A:=by
      cases k:Nat.beq b 1
      .rfl
      .exact absurd (iB k) H
    rw[if_neg O];rw[t]at h;simp only[gr]at h;by_cases y:a%b%18446744073709551616=0
    .have p:Nat.gcd (a%b) 18446744073709551616=18446744073709551616:=by rw[Nat.gcd_comm];exact Nat.gcd_eq_left (yZ y)
     rw[p]at h;exact absurd h Y
    .have n:0<a%b%18446744073709551616:=y9 y;obtain⟨o,M,v⟩:=Lib.ctzFrom_spec 64 (a%b%18446744073709551616) n (iD _ J);have u:Lib.ctz 64 (a%b%18446744073709551616)=Lib.ctzFrom 64 (a%b%18446744073709551616):=by unfold Lib.ctz;rw[if_neg y]
     have P:jS (a:Int) (b:Int)=Lib.ctzFrom 64 (a%b%18446744073709551616):=by
       unfold jS;rw[<-u]
       congr 1
     generalize Lib.ctzFrom 64 (a%b%18446744073709551616)=s at*
     have L:a%b=2^s*(2*(2^(63-s)*(a%b/18446744073709551616)+o)+1):=by
       have e:(18446744073709551616:Nat)=2^s*(2*2^(63-s)):=by rw[show 2*2^(63-s)=2^(63-s+1)by rw[rz,kP],<-nu,(O:s+(63-s+1)=64)]
       have z:=zF (a%b) 18446744073709551616;rw[M]at z;generalize a%b/18446744073709551616=q at*;rw[<-z];rw[show 18446744073709551616*q=2^s*(2*(2^(63-s)*q))by rw[e,lH,lH],<-oZ]
       congr 1
       omega
     have p:=XT O L
     have i:Nat.beq (2^s) 18446744073709551616=A:=by
       cases k:Nat.beq (2^s) 18446744073709551616
       .rfl
       .have:=iB k;have S:2^s<2^64:=Nat.pow_lt_pow_right J v;omega
     simp only[p,i,gr,Nat.log2_two_pow]at h;have F:=Tl f b _ _ h;rw[if_pos O]
     have T:jC (a:Int) (b:Int)=((a%b/2^s:Nat):Int):=by unfold jC;rw[P];rw[<-uC,show((2:Int)^s)=((2^s:Nat):Int)by rw[Fu];rfl,<-xe]
     have h1:j1 (a:Int) (b:Int) (sB j)=sB (bif Nat.beq (s%2) 1 then(bif Nat.beq (Nat.land b 7) 3 then !j else bif Nat.beq (Nat.land b 7) 5 then !j else j)else j):=by
       unfold j1;rw[P,afb];have m:s%2=0∨s%2=1:=O;have R:b%8<8:=iD _ J;have Q:(b:Int)%8=((b%8:Nat):Int):=O;rw[Q];generalize b%8=x at*;rcases m with C|C<;>rw[C]
       .rw [if_neg O];rfl
       .by_cases l:x=3
        .subst l;rw[if_pos ⟨K,.inl K⟩,<-K0];rfl
        .by_cases d:x=5
         .subst d;rw[if_pos ⟨K,.inr K⟩,<-K0];rfl
         .rw [if_neg O]
          have e3:Nat.beq x 3=A:=by
            cases k:Nat.beq x 3
            .rfl
            .exact absurd (iB k) l
          have e5:Nat.beq x 5=A:=by
            cases k:Nat.beq x 5
            .rfl
            .exact absurd (iB k) d
          rw[e3,e5];rfl
     have S:j2 (a:Int) (b:Int) (sB j)=sB (bif Nat.beq (Nat.land (Nat.land b (a%b/2^s)) 3) 3 then !(bif Nat.beq (s%2) 1 then(bif Nat.beq (Nat.land b 7) 3 then !j else bif Nat.beq (Nat.land b 7) 5 then !j else j)else j)else(bif Nat.beq (s%2) 1 then(bif Nat.beq (Nat.land b 7) 3 then !j else bif Nat.beq (Nat.land b 7) 5 then !j else j)else j)):=by
       unfold j2;rw[h1,T,VS];generalize(bif Nat.beq (s%2) 1 then(bif Nat.beq (Nat.land b 7) 3 then !j else bif Nat.beq (Nat.land b 7) 5 then !j else j)else j)=w;generalize a%b/2^s=c;by_cases k:b%4=3/\c%4=3
       .rw [if_pos O,fG k,<-K0];rfl
       .rw [if_neg O,nB k];rfl
     rw[T,S];exact F
def yf{b x:Bool}(h:(bif b then x else A)=G):b=G/\x=G:=by
  cases b
  .exact absurd h Y
  .exact⟨K,h⟩
def Ca: ∀(l:List J3)(a:Nat)(k:Nat->Bool),batch l a k=G->(∃i,k i=G)/\ ∀q∈l,∃i,i<pN/\UU q i=G
  |[],_,k,h=>⟨⟨_,h⟩,λq z=>by cases z⟩
  |q::l,a,k,h=>by
   have F:batch l (fc a q.z) (λi=>bif UU q (fc i a)then k (fc i q.z)else A)=G:=h;obtain⟨⟨i,g⟩,f⟩:=Ca l _ _ F;obtain⟨M,S⟩:=yf g;refine⟨⟨_,S⟩,λr y=>?_⟩;rcases kh.1 y with rfl|y
   .exact⟨_,kQ i a,M⟩
   .exact f r y
def QR{z:Nat}(a:fB p)(g:i<p)(h:i*z%p=1):i=z^(p-2)%p:=by
  have S:=a.1
  have o: ¬p∣z:=λb=>by have:i*z%p=0:=JN (ua b (Nat.dvd_mul_left z i));omega
  have t:=KR a o
  have e:z^(p-1)=z^(p-2)*z:=by rw[<-rz];congr 1;omega
  rw[e]at t
  calc i=i*1%p:=by rw[jq,uG g]
    _=i*(z^(p-2)*z%p)%p:=by rw[t]
    _=i*(z^(p-2)*z)%p:=by rw[nr,xj,<-nr]
    _=i*z*z^(p-2)%p:=by rw[kP (z^(p-2)) z,lH]
    _=(i*z%p)*z^(p-2)%p:=(Nat.mod_mul_mod _ _ _).symm
    _=z^(p-2)%p:=by rw[h,sX]
def GJ{q:J3}(g:i<pN)(h:UU q i=G):q.z≠0/\F1 (tC q) (aar q)=G:=by
  obtain⟨M,S⟩:=yf h;have M:i*q.z%pN=1:=iB M;have e:i=vZ q.z:=QR FY g M;refine⟨λC=>?_,?_⟩
  .rw [C,wP,Nat.zero_mod]at M;cases M
  .rw [e]at S;exact S
def E7(q:J3): ∀(n:Nat)(l:List J3)(r:J3),r∈l->r∈Ak q n l
  |0,_,_,h=>h
  |n+1,l,r,h=>E7 q n _ r (jh _ h)
def zx(q:J3): ∀(n:Nat)(l:List J3)(j:Nat),1<=j->j<=n->qH q (Bq j)∈Ak q n l
  |0,_,j,M,S=>O
  |n+1,l,j,M,S=>by
   rcases ju j (n+1)with h|h
   .exact zx q n _ j M O
   .have e:j=n+1:=O;subst e;exact E7 q n _ _ (jt ..)
def Bu(f:Nat->Bool): ∀(n:Nat),Ag f n=G-> ∀i,i<n->f i=G
  |0,_,i,g=>O
  |n+1,h,i,g=>by
   obtain⟨M,S⟩:=yf (b:=f n) (x:=Ag f n) h;rcases ju i n with h|h
   .exact Bu f n S i h
   .have e:i=n:=O;subst e;exact M
def GA:jI ⟨0,0,0⟩ 0=⟨0,0,0⟩:=rfl
def Jb(R:k<65536): ∀i,qi k (4+i) ⟨0,0,0⟩=qi k 4 ⟨0,0,0⟩
  |0=>rfl
  |i+1=>by
   have e:k/16^(4+i)%16=0:=by have:k<16^(4+i):=pY R (zU (n:=16) (i:=4) O O);rw[zC this]
   show qi k (4+i) (jI ⟨0,0,0⟩ (k/16^(4+i)%16))=_;rw[e,GA];exact Jb R i
def aqf(k:Nat):qi k 4 ⟨0,0,0⟩=jI (jI (jI (jI ⟨0,0,0⟩ (k/16^3%16)) (k/16^2%16)) (k/16^1%16)) (k/16^0%16):=rfl
def Sy{r:J3}(h:r.z≠0):qH r (Bq 0)=r:=by
  have M:Nat.beq r.z 0=A:=by
    cases H:Nat.beq r.z 0
    .rfl
    .exact absurd (iB H) h
  have S:Bq 0=⟨0,0,0⟩:=K;rw[S];unfold qH;rw[M,gr];have l:Nat.beq (J3.z ⟨0,0,0⟩) 0=G:=K;rw[l,gq]
def RV{r:J3}(h:batch (r::Ak r 15 []) 1 (λ_=>G)=G)(z:d<16):letI a:=qH r (Bq d);a.z≠0/\F1 (tC a) (aar a)=G:=by
  have H:=(Ca _ _ _ h).2;rcases np d with C|b
  .obtain⟨i,g,s⟩:=H r (jt ..);have M:=GJ g s;rw[C,Sy M.1];exact M
  .obtain⟨i,g,s⟩:=H _ (jh _ (zx r 15 [] d b O));exact GJ g s
def Ik(q:J3):KT q=batch (q::Ak q 15 []) 1 (λ_=>G):=I
def zc(q:J3)(d:Nat):jI q d=qH (jj (jj (jj (jj q)))) (Bq d):=I
def SY(c:Nat):dQ c=Ag (λd=>KT (jj (jj (jj (jj (jI (jI (jI ⟨0,0,0⟩ (c/16)) (c%16)) d)))))) 16:=I
def Pq:Rg=(bif batch (Ak ⟨0,0,0⟩ 15 []) 1 (λ_=>G)then Ag (λd=>KT (jj (jj (jj (jj (jI ⟨0,0,0⟩ (d+1))))))) 15 else A):=I
def alp(q:J3)(h:Ag (λd=>KT (jj (jj (jj (jj (jI q d)))))) 16=G)(t:a<16)(H:b<16):letI c:=jI (jI q a) b;c.z≠0/\F1 (tC c) (aar c)=G:=by have M:=Bu _ 16 h a t;rw[Ik]at M;rw[zc (jI q a) b];exact RV M H
def ame(q:J3)(h:Ag (λd=>KT (jj (jj (jj (jj (jI q (d+1))))))) 15=G)(t:a<15)(H:b<16):letI c:J3:=jI (jI q (a+1)) b;c.z≠0/\F1 (tC c) (aar c)=G:=by have M:=Bu _ 15 h a t;rw[Ik]at M;rw[zc (jI q (a+1)) b];exact RV M H
def aLm(q:J3)(o:jj (jj (jj (jj q)))=q)(h:batch (Ak q 15 []) 1 (λ_=>G)=G)(M:1<=b)(H:b<16):letI a:=jI q b;a.z≠0/\F1 (tC a) (aar a)=G:=by rw[zc,o];obtain⟨i,g,s⟩:=(Ca _ _ _ h).2 _ (zx q 15 [] b M O);exact GJ g s
def aus(C:Rg=G)(h: ∀c,c<255->dQ (c+1)=G)(M:1<=k)(R:k<65536):(qi k 64 ⟨0,0,0⟩).z≠0/\F1 (Xy k) (YN k)=G:=by
  unfold Xy YN
  have r:qi k 64 ⟨0,0,0⟩=jI (jI (jI (jI ⟨0,0,0⟩ (k/4096%16)) (k/256%16)) (k/16%16)) (k%16):=by rw[show 64=4+60 from K,Jb R 60,aqf];simp only[Nat.reducePow,Cj]
  rw[r];rcases ju k 256 with v|v
  .have T:k/4096%16=0:=O;have f:k/256%16=0:=O;rw[T,f,GA,GA];rw[Pq]at C;obtain⟨t,H⟩:=yf C;rcases ju k 16 with r|r
   .have Q:k/16%16=0:=O;rw[Q,GA];exact aLm ⟨0,0,0⟩ K t O O
   .have Q:k/16%16=(k/16-1)+1:=O;rw[Q];exact ame ⟨0,0,0⟩ H O O
  .have s:=h (k/256-1) O;rw[(O:k/256-1+1=k/256),SY]at s;have T:k/4096%16=k/256/16:=O;rw[T];exact alp _ s O O
def Xx{y v e h:Nat}(g:fB p)(j:p+1=4*e)(P:p=2*h+1)(t:0<y)(a:y<p)(Q:v=y*y%p):(v^e%p)*(v^e%p)%p=v:=by
  have z: ¬p∣y:=λz=>by have:=uD t z;omega
  have M:=KR g z
  have S:v^h%p=1:=by rw[Q,I8,show y*y=y^2 by rw[Nat.pow_two],<-Fx,(O:2*h=p-1)];exact M
  have i:v<p:=by rw[Q];exact iD _ O
  rw[<-nr,<-nu,(O:e+e=h+1),rz,nr,S,sX,xj,uG i]
def ayt{r y:Nat}(g:fB p)(f:r<p)(t:0<y)(Q:y<p)(h:r*r%p=y*y%p):r=y∨r+y=p:=by
  have e: ∀a b:Nat,a<=b->b<p->0<b->a*a%p=b*b%p->a=b∨a+b=p:=by
    intro a b w H i z;obtain⟨d,rfl⟩: ∃d,b=a+d:=⟨b-a,O⟩
    have q:p∣d*(2*a+d):=by
      have M:(a+d)*(a+d)=a*a+d*(2*a+d):=by rw[ot,oZ,oZ,oZ,kP d a,show d*(2*a)=2*(a*d)by rw[Kq,kP d a]];omega
      have S:(a*a+d*(2*a+d)-a*a)%p=0:=Rh (by rw[<-M];exact z.symm);rw[GC]at S;exact yZ S
    rcases g.KE q with h|h
    .rcases np d with C|C
     .left;omega
     .have:=uD C h;omega
    .right
     obtain⟨c,s⟩:=h;have S:2<=p:=g.1
     have:c=1:=by
       rcases ju c 1 with l|l
       .have:c=0:=O;subst this;omega
       .rcases ju c 2 with u|u
        .omega
        .have:p*2<=p*c:=Nat.mul_le_mul_left p u;omega
     subst this;omega
  rcases Nat.le_total r y with hle|hle
  .exact e r y hle Q t h
  .rcases np r with C|C
   .omega
   .rcases e y r hle f C h.symm with M|M
    .exact .inl M.symm
    .exact .inr O
def OE{x y:Nat}(L:Ij x y):letI a:=om (vN x:Int) Ge;(a=(y:Int)∨a=((pN-y:Nat):Int))/\0<a/\a<Pv:=by
  have t:0<y:=pY J L.y2;have R:=L.yp
  have b:y<pN:=by have:(0:Nat)<2^192:=J;omega
  have Q:vN x=y*y%pN:=L.eq;obtain⟨e,j⟩: ∃e,pN+1=4*e:=⟨(pN+1)/4,by decide+kernel⟩
  obtain⟨h,P⟩: ∃h,pN=2*h+1:=⟨pN/2,by decide+kernel⟩
  have s:=Xx FY j P t b Q;have d:vN x^e%pN<pN:=iD _ O;have f:=ayt FY d t b (by rw[s,Q]);have i:vN x<pN:=by rw[Q];exact iD _ O
  have w:Ge=(e:Int):=by have u:Pv=((pN:Nat):Int):=K;unfold Ge;rw[u];omega
  have m:((vN x:Nat):Int)^(Ge.toNat)%Pv=((vN x^e%pN:Nat):Int):=by rw[w,dU,uC,Fu];rfl
  have z:((pN:Nat):Int)<pw 4:=kt;have H:Ge<pw 4:=kt;have c:0<=Ge:=kt
  have q:0<vN x^e%pN:=by
    have g: ∀r:Nat,(r=y∨r+y=pN)->0<r:=λr h=>O
    exact g _ f
  obtain⟨M,S,l⟩:=SL (v:=(vN x:Int)) (e:=Ge) O O c H (by rw[m];exact λh=>by have:=Int.ofNat.inj h;rw[this]at q;exact zq 0 q);refine⟨?_,S,l⟩;rw[M,m];have g: ∀r:Nat,(r=y∨r+y=pN)->((r:Int)=(y:Int)∨(r:Int)=((pN-y:Nat):Int)):=λr h=>O
  exact g _ f
def mQ(x:List Item×St)(l:List Nat):List Item×eZ×dE×Bool:=(x.1,gN x.2.e l,x.2.m,eb x.2.ob)
def fk{n:Nat}(c:RD P C){t:List Item}{i:Option (List Nat)}{r:Nat}{z:List Bool}{l:List Nat}{a:List Item}{y:eZ}{o:Bool}(h:mQ (fF C n i r j t ⟨e,m,z,[]⟩) l=(a,y,u,o))(F:o=G)(R:Ev P C f n b [] a y u Q):Ev P C f n b [] t e m Q:=by
  refine jV c (i:=i) (r:=r) (j:=j) (z:=z) (l:=l) ?_ F R;generalize fF C n i r j t ⟨e,m,z,[]⟩=x at h;obtain⟨v,g⟩:=x;exact h
def BO{R S:Nat}(h:LK (ky R S)=G):letI a:Int:=536870912;letI b:Int:=268435456;∃F H w P L q u g f v d k r z M p i Q C:Int,bd a F/\bd b H/\bd a w/\bd b P/\bd a L/\bd b q/\bd a u/\bd b g/\bd a f/\
    v=H+b*d/\d=w+a*k/\k=P+b*r/\r=L+a*z/\z=q+b*M/\M=u+a*p/\p=g+b*i/\i=f+a*Q/\Q=0/\F≠1/\w≠1/\L≠1/\u≠1/\f≠1/\
    (R:Int)*(S:Int)=2^257*C-(F+a*v)*(2^256-2^224-2^96+2^64-1)/\C%2^257+C/2^257*(2^225+2^97-2^65+2)=((la R S:Nat):Int):=by
  have j:=NU R S;have x:la R S=rj ((R*S+ky R S*pN)/fS):=K;have o:ky R S<2^257:=iD _ kt;rw[x];generalize(R*S+ky R S*pN)/fS=c at j⊢;obtain⟨h0,h2,h4,h6,T⟩:=aco h;clear x h;have s:(R:Int)*(S:Int)=((R*S:Nat):Int):=by rw[lJ]
  rw[s];generalize ky R S=m at*;generalize R*S=t at*;clear s
  refine⟨((m%536870912:Nat):Int),((m/2^29%268435456:Nat):Int),((m/2^57%536870912:Nat):Int),((m/2^86%268435456:Nat):Int),((m/2^114%536870912:Nat):Int),((m/2^143%268435456:Nat):Int),((m/2^171%536870912:Nat):Int),((m/2^200%268435456:Nat):Int),((m/2^228%536870912:Nat):Int),
    ((m/2^29:Nat):Int),((m/2^57:Nat):Int),((m/2^86:Nat):Int),((m/2^114:Nat):Int),((m/2^143:Nat):Int),((m/2^171:Nat):Int),((m/2^200:Nat):Int),((m/2^228:Nat):Int),((m/2^257:Nat):Int),((c:Nat):Int),⟨O,O⟩,⟨O,O⟩,⟨O,O⟩,⟨O,O⟩,⟨O,O⟩,⟨O,O⟩,⟨O,O⟩,⟨O,O⟩,⟨O,O⟩,
    O,O,O,O,O,O,O,O,O,O,O,O,O,O,?_,?_⟩
  .have e:((m%536870912:Nat):Int)+536870912*((m/2^29:Nat):Int)=(m:Int):=O;rw[e];have n:2^257*c=t+m*115792089210356248756420345214020892766250353991924191454421193933289684991999:=j;omega
  .unfold rj;have l:((2:Int)^257)=((fS:Nat):Int):=K;have y:(2^225+2^97-2^65+2:Int)=((rN:Nat):Int):=K;rw[l,y,<-uC,<-xe,<-lJ,<-rJ]
noncomputable abbrev C1:fw:=ep (gc 1) [] []
def V2:ji B C1:=UT (gc 1)
def FI{o:List Nat}(h:o[i]?=E j){R:Nat->Option Nat}(p:R 3=E j): ∀g k,gc i g=E k-> ∃l,o[k]?=E l/\R g=E l:=by
  intro g k a;unfold gc at a;cases z:Nat.beq g 3
  .rw [z]at a;cases a
  .rw [z]at a;cases a;have:=iB z;subst this;exact⟨j,h,p⟩
def Ck:eo B 93:=ga f93
def KP{q F y H M p v n j T P L s b4 u i h Q:Int}{R:List Int}{g k m:es}:letI a:=[q,F,y,H,M,p,v,n,j];letI b:=[T,P,L,s,b4,u,i,h,Q];letI c:V:= .p (E (0,0));letI d:dI:=⟨.ws .u32 R,k⟩;letI e:dI:=⟨.ws .u32 a,g⟩;letI f:dI:=⟨.ws .u32 b,m⟩;mQ (fF C1 f69.ntmps N 18 9000 [.code (dB f69)] ⟨fo 0 [c,c,.p (E (2,0))],[e,d,f],[],[]⟩) [0,6]=
    (dO 18 (dB f69) [],[(0,c),(6,.p (E (3,0)))],[e,d,f,⟨.lit ((wB a b).map (V.i .u64)),139⟩],G):=I
def Lb{y0 y1 y2 y3 y4 y5 y6 y7 y8 q F y H M p v n Q b0 b1 b2 b3 b4 b5 b6 b7 b8 z0 z1 z2 z3 z4 T R u s z9 i h t r L S P l m g x o k C w j z:Int}{v0 v1:ip}{tb:List Int}{ta te td tc:es}:letI b:U:= .u32;letI a:dI:=⟨.lit [.r v0,.r v1,.i b q,.i b F,.i b y,.i b H,.i b M,.i b p,.i b v,.i b n,.i b Q,.i b z0,.i b z1,.i b z2,.i b z3,.i b z4,.i b T,.i b R,.i b u,.i b s,.i b z9,.i b i,.i b h,.i b t,.i b r,.i b L,.i b S,.i b P,.i b l,.i b m,.i b g,.i b x,.i b o,.i b k,.i b C,.i b w,.i b j,.i b z],td⟩;letI c:=[b0,b1,b2,b3,b4,b5,b6,b7,b8];letI d:dI:=⟨.ws b [y0,y1,y2,y3,y4,y5,y6,y7,y8],ta⟩;letI e:dI:=⟨.ws b tb,te⟩;letI f:dI:=⟨.ws b c,tc⟩;mQ (fF C1 f69.ntmps N 18 9000 [.code (dB f69)] ⟨fo 0 [.p (E (0,0)),.p (E (2,2)),.p (E (3,0))],[d,e,a,f],[],[]⟩) [0,6]=
    (dO 18 (dB f69) [],[(0,.p (E (0,0))),(6,.p (E (4,0)))],[d,e,a,f,⟨.lit ((wB [q,F,y,H,M,p,v,n,Q] c).map (V.i .u64)),139⟩],G):=I
def KK{P j f o u s i Q w q F y H M p v n e:Int}{R:List Int}{T k m:es}:letI a:=[q,F,y,H,M,p,v,n,e];letI b:dI:=⟨.ws .u32 [P,j,f,o,u,s,i,Q,w],T⟩;letI c:dI:=⟨.ws .u32 R,k⟩;letI d:dI:=⟨.ws .u32 a,m⟩;mQ (fF C1 f68.ntmps N 18 9000 [.code (dB f68)] ⟨fo 0 [.p (E (0,0)),.p (E (2,0))],[b,c,d],[],[]⟩) [0,4]=
    (dO 18 (dB f68) [],[(0,.p (E (0,0))),(4,.p (E (3,0)))],[b,c,d,⟨.lit ((Hx a).map (V.i .u64)),139⟩],G):=I
def NP:fS=231584178474632390847141970017375815706539969331281128078915168015826259279872:=rfl
def HJ{a b:Int}(t:bd 1073741824 a)(H:bd 1073741824 b)(f:bd 8 c):letI d:=W (W (a+b)+c);letI e:Int:=536870912;∃s k,AN d 536870911=s/\d.fdiv e=k/\bd e s/\bd 8 k/\s+e*k=a+b+c:=by obtain⟨q,F⟩:=t;obtain⟨T,P⟩:=H;obtain⟨j,g⟩:=f;rw[eW (x:=a+b) O O,eW (x:=a+b+c) O O,DN O O,He];exact⟨_,_,K,K,⟨O,O⟩,⟨O,O⟩,O⟩
def Na{a b:Int}(t:bd 536870912 a)(H:bd 536870912 b)(f:bd 8 c):letI d:=W (W (a+b)+c);letI e:Int:=268435456;∃s k,AN d 268435455=s/\d.fdiv e=k/\bd e s/\bd 8 k/\s+e*k=a+b+c:=by obtain⟨q,F⟩:=t;obtain⟨T,P⟩:=H;obtain⟨j,g⟩:=f;rw[eW (x:=a+b) O O,eW (x:=a+b+c) O O,DS O O,HC];exact⟨_,_,K,K,⟨O,O⟩,⟨O,O⟩,O⟩
def CU{a b k:Int}{r n l:List Int}(M:AN (W (W (a+b)+c)) 536870911=s)(S:(W (W (a+b)+c)).fdiv 536870912=k)(d:rE r n k G=(l,q)):rE (a::r) (b::n) c A=(s::l,q):=by show(AN (W (W (a+b)+c)) 536870911::(rE r n ((W (W (a+b)+c)).fdiv 536870912) G).1,(rE r n ((W (W (a+b)+c)).fdiv 536870912) G).2)=_;rw[M,S,d]
def GG{a b k:Int}{r n l:List Int}(M:AN (W (W (a+b)+c)) 268435455=s)(S:(W (W (a+b)+c)).fdiv 268435456=k)(d:rE r n k A=(l,q)):rE (a::r) (b::n) c G=(s::l,q):=by show(AN (W (W (a+b)+c)) 268435455::(rE r n ((W (W (a+b)+c)).fdiv 268435456) A).1,(rE r n ((W (W (a+b)+c)).fdiv 268435456) A).2)=_;rw[M,S,d]
def Hj(h:bd R x)(w:R<=S):bd S x:=⟨h.1,K1 h.2 w⟩
def Qj{a0 a1 a2 a3 a4 a5 a6 a7 a8 b0 b1 b2 b3 b4 b5 b6 b7 b8 R S:Int}:letI a:Int:=536870912;letI b:=[a0,a1,a2,a3,a4,a5,a6,a7,a8];letI c:=[b0,b1,b2,b3,b4,b5,b6,b7,b8];letI d:Int:=268435456;∀(t:xF b R)(H:xF c S),∃
      Q g m T l s w y h k:Int,rE b c 0 A=([Q,g,m,T,l,s,w,y,h],k)/\bd a Q/\bd d g/\bd a m/\bd d T/\bd a l/\bd d s/\bd a w/\bd d y/\bd a h/\bd 8 k/\
      mA A [Q,g,m,T,l,s,w,y,h]+k*2^257=R+S:=by
  intro t H;obtain⟨C,o,L,n,j,F,e,x,q,hA⟩:=t;obtain⟨u,v,f,P,r,z,M,p,i,hB⟩:=H;obtain⟨Q,k0,e0,f0,g0,h0,v0⟩:=HJ (Hj C J) (Hj u J) (c:=0) ⟨J,J⟩;obtain⟨g,k1,e1,f1,g1,h1,v1⟩:=Na (Hj o J) (Hj v J) h0;obtain⟨m,k2,e2,f2,g2,h2,v2⟩:=HJ (Hj L J) (Hj f J) h1;obtain⟨T,k3,e3,f3,g3,h3,v3⟩:=Na (Hj n J) (Hj P J) h2;obtain⟨l,k4,e4,f4,g4,h4,v4⟩:=HJ (Hj j J) (Hj r J) h3;obtain⟨s,k5,e5,f5,g5,h5,v5⟩:=Na (Hj F J) (Hj z J) h4;obtain⟨w,k6,e6,f6,g6,h6,v6⟩:=HJ (Hj e J) (Hj M J) h5;obtain⟨y,k7,e7,f7,g7,h7,v7⟩:=Na (Hj x J) (Hj p J) h6;obtain⟨h,k8,e8,f8,g8,h8,v8⟩:=HJ (Hj q J) (Hj i J) h7;refine⟨Q,g,m,T,l,s,w,y,h,k8,CU e0 f0 (GG e1 f1 (CU e2 f2 (GG e3 f3 (CU e4 f4 (GG e5 f5 (CU e6 f6 (GG e7 f7 (CU e8 f8 K)))))))),g0,g1,g2,g3,g4,g5,g6,g7,g8,h8,?_⟩;rw[<-hA,<-hB];simp only[mA];omega
def YH{p b:Int}(R:k<8)(C:bd 536870912 q)(S:bd 536870912 y)(l:bd 268435456 H)(c:bd 268435456 n){T L a:Int}(h:AZ k [q,F,y,H,M,p,v,n,b]=[T,F,L,s,M,p,v,a,b]):q<=T/\y<=L/\H<=s/\n<=a:=by
  obtain⟨t,m⟩:=C;obtain⟨w,f⟩:=S;obtain⟨P,o⟩:=l;obtain⟨r,Q⟩:=c
  have g: ∀(j u d i:Int),cT k=[j,0,u,d,0,0,0,i,0]->0<=j->j<=14->0<=u->u<536870912->0<=d->d<16384->0<=i->i<=234881024->q<=T/\y<=L/\H<=s/\n<=a:=by intro j u d i e p0 q0 p2 q2 p3 q3 p7 z;unfold AZ at h;rw[e]at h;have h:[W (q+j),F,W (y+u),W (H+d),M,p,v,W (n+i),b]=[T,F,L,s,M,p,v,a,b]:=h;rw[eW (x:=q+j) O O,eW (x:=y+u) O O,eW (x:=H+d) O O,eW (x:=n+i) O O]at h;simp only[FM,fV,im]at h;omega
  match k,R with
  |0,_=>exact g 0 0 0 0 K J J J J J J J J
  |1,_=>exact g 2 536870656 2047 33554432 K J J J J J J J J
  |2,_=>exact g 4 536870400 4095 67108864 K J J J J J J J J
  |3,_=>exact g 6 536870144 6143 100663296 K J J J J J J J J
  |4,_=>exact g 8 536869888 8191 134217728 K J J J J J J J J
  |5,_=>exact g 10 536869632 10239 167772160 K J J J J J J J J
  |6,_=>exact g 12 536869376 12287 201326592 K J J J J J J J J
  |7,_=>exact g 14 536869120 14335 234881024 K J J J J J J J J
def Vp(a b:List Int):List Int:=AZ (rE a b 0 A).2.toNat (rE a b 0 A).1
def X7:List Int->Prop
  |[q,F,y,H,M,p,v,n,e]=>0<q/\0<F/\0<y/\0<H/\0<M/\0<p/\0<v/\0<n/\0<e
  |_=>False
def LO{a0 a1 a2 a3 a4 a5 a6 a7 a8 b0 b1 b2 b3 b4 b5 b6 b7 b8:Int}{R S:Nat}:letI a:=[a0,a1,a2,a3,a4,a5,a6,a7,a8];letI b:=[b0,b1,b2,b3,b4,b5,b6,b7,b8];∀(t:xF a (R:Int))(H:xF b (S:Int)),(0<=(rE a b 0 A).2/\(rE a b 0 A).2<8)/\
      ∃j c1 u d M z c i T:Int,Vp a b=[j,c1,u,d,M,z,c,i,T]/\xF [j,c1,u,d,M,z,c,i,T] ((rj (R+S):Nat):Int)/\(C0 ((R+S)%fS)=G->X7 [j,c1,u,d,M,z,c,i,T]):=by
  intro t H;obtain⟨s0,g,s2,s3,l,s,w,s7,h,k,v,g0,n,C,F,r,x,f,q,e,o,Q⟩:=Qj t H;obtain⟨L,rfl⟩:=fy o.1;have P:L<8:=by have:=o.2;omega
  obtain⟨j,u,d,i,y,r0,r2,r3,r7,p⟩:=Jq (k:=L) P g0 n C F q (M:=l) (p:=s) (v:=w) (a:=h);obtain⟨l0,l2,l3,l7⟩:=YH (k:=L) P g0 C F q y;rw[NP];refine⟨?_,j,g,u,d,l,s,w,i,h,?_,⟨r0,n,r2,r3,r,x,f,r7,e,?_⟩,?_⟩
  .rw [v];exact o
  .unfold Vp;rw[v,dU];exact y
  .have hC:(R+S)/231584178474632390847141970017375815706539969331281128078915168015826259279872=L/\(((R+S)%231584178474632390847141970017375815706539969331281128078915168015826259279872:Nat):Int)=mA A [s0,g,s2,s3,l,s,w,s7,h]:=by simp only[mA]at Q⊢;obtain⟨z0,w0⟩:=g0;obtain⟨z1,w1⟩:=n;obtain⟨z2,w2⟩:=C;obtain⟨z3,w3⟩:=F;obtain⟨z4,w4⟩:=r;obtain⟨z5,w5⟩:=x;obtain⟨z6,w6⟩:=f;obtain⟨z7,w7⟩:=q;obtain⟨z8,w8⟩:=e;constructor<;>omega
   unfold rj;rw[NP,hC.1,rJ,hC.2,lJ,show((rN:Nat):Int)=2^225+2^97-2^65+2 from K];simp only[mA];omega
  .intro hn;obtain⟨n0,n1,n2,n3,n4,n5,n6,n7,n8⟩:=Uo hn
   have hm:(((R+S)%231584178474632390847141970017375815706539969331281128078915168015826259279872:Nat):Int)=s0+536870912*(g+268435456*(s2+536870912*(s3+268435456*(l+536870912*(s+268435456*(w+536870912*(s7+268435456*h))))))):=by simp only[mA]at Q;obtain⟨z0,w0⟩:=g0;obtain⟨z1,w1⟩:=n;obtain⟨z2,w2⟩:=C;obtain⟨z3,w3⟩:=F;obtain⟨z4,w4⟩:=r;obtain⟨z5,w5⟩:=x;obtain⟨z6,w6⟩:=f;obtain⟨z7,w7⟩:=q;obtain⟨z8,w8⟩:=e;omega
   generalize(R+S)%231584178474632390847141970017375815706539969331281128078915168015826259279872=m at*;clear Q v y p t H r0 r2 r3 r7;obtain⟨z0,w0⟩:=g0;obtain⟨z1,w1⟩:=n;obtain⟨z2,w2⟩:=C;obtain⟨z3,w3⟩:=F;obtain⟨z4,w4⟩:=r;obtain⟨z5,w5⟩:=x;obtain⟨z6,w6⟩:=f;obtain⟨z7,w7⟩:=q;obtain⟨z8,w8⟩:=e;refine⟨?_,?_,?_,?_,?_,?_,?_,?_,?_⟩<;>omega
def J6(C:fw)(ops:List Oper)(i:Nat)(e:eZ):Option (FuncId×List V×Option Tmp):=
  match ops[i]? with
  |some o=>bif sd C o then(match ia ops (gN e (ov ops o)) o,ve o.op with
   |some G,E (g,H)=>match nX C (gN e (ov ops o)) H with
    |some L=>E (g,L,o.dst)
    |none=>N
   |_,_=>N)else N
  |none=>N
def MZ(C:fw)(n:Nat)(ops:List Oper)(i:Nat)(e:eZ)(m:dE):Option (V×dE×Bool×eZ):=
  match ops[i]? with
  |some o=>bif sd C o then(match ia ops (gN e (ov ops o)) o,yV C m (gN e (ov ops o)) o.op with
   |some G,E (v,u,b)=>match fA n e o.dst v with
    |some y=>E (v,u,b,y)
    |none=>N
   |_,_=>N)else N
  |none=>N
section
variable{P:Program}{C:fw}{n:Nat}{ops:List Oper}{S:List Nat}{F:eZ->dE->Prop}
def ko{g:FuncId}{L:List V}{d:Option Tmp}{Q1:V->dE->Prop}(h:J6 C ops i e=E (g,L,d))(M:eo P g)(x:eM P C.mw g L m Q1)(R: ∀v u,Q1 v u->m.length<=u.length->v.wf u.length=G/\(∀b∈S,b<m.length->u[b]?=m[b]?)/\ ∃y,fA n e d v=E y/\kJ P C n ops S F r y u):kJ P C n ops S F (i::r) e m:=by
  unfold J6 at h;split at h
  .rename_i o j;cases z:sd C o with
   |false=>rw[z]at h;cases h
   |true=>
    rw[z]at h;simp only[gq]at h;split at h
    .rename_i k H f s;split at h
     .rename_i a c;cases h;exact kJ.call j s z f M c x R
     .cases h
    .cases h
  .cases h
def Fg{y:eZ}{v:V}{b:Bool}(k:iq P C)(t:ji P C)(h:MZ C n ops i e m=E (v,u,b,y))(H:b=G)(a:v.wf u.length=G)(c: ∀b∈S,b<m.length->u[b]?=m[b]?)(R:kJ P C n ops S F r y u):kJ P C n ops S F (i::r) e m:=by
  unfold MZ at h;split at h
  .rename_i o l;cases z:sd C o with
   |false=>rw[z]at h;cases h
   |true=>
    rw[z]at h;simp only[gq]at h;split at h
    .rename_i p M x d j;split at h
     .rename_i f g;cases h;exact kJ.Yr k t l z d j H a c g R
     .cases h
    .cases h
  .cases h
def kJ.done(h:F e m):kJ P C n ops S F [] e m:=h
def opsOf(r:Nat)(c:Code):Array Oper:=match dO r c []with
  | .code (.region _ ops _)::_=>ops
  |_=> #[]
def jM(r:Nat)(c:Code):List Item:=(dO r c []).tail
end
def fH{n:Nat}{H:Ds}{t k:List Item}{Q1:V->dE->Prop}(c:RD P C){z:List Bool}{l:List Nat}{p:Bool}{g:FuncId}{L:List V}{d:Option Tmp}{T:eZ}{q:dE}(h:(Nb C (eC C n j l t ⟨e,m,z,[]⟩))=(E (g,L,d),k,T,q,p))(v:p=G)(i:jv m.length H=G)(w:jv q.length H=G)(M:eo P g)(a:eM P C.mw g L q Q1)(s:fZ q.length T=G)(hk: ∀r u,Q1 r u->q.length<=u.length-> ∃y,fA n T d r=E y/\Ev P C f n b H k y u Q):Ev P C f n b H t e m Q:=by
  unfold Nb at h;generalize o:eC C n j l t ⟨e,m,z,[]⟩=x at h;obtain⟨t1,e2,m2,R⟩:=x;simp only[ef]at h;obtain⟨h1,h2,rfl,rfl,h5⟩:=h;exact dY c (j:=j) (z:=z) (l:=l) (s:=R) (by rw[o];simp[h1,h2]) (h5.trans v) i w M a s hk
def eM.Ti{t:Nat->Option Nat}{args:List V}{a:dE}{R:V}{o d:V}{r Q:List V}{ty:es}(g:m[i]?=E ⟨.lit (o::d::r),ty⟩)(h0:o.wf m.length=G)(h1:d.wf m.length=G)(hM:m.length<=a.length)(h: ∀v0 v1:ip,eM P t f args (m.set i ⟨.lit (.r v0:: .r v1::r),ty⟩) (λv u=>v=R/\u=a.set i ⟨.lit (.r v0:: .r v1::Q),ty⟩)):
    eM P t f args m (λv u=>v=R/\u=a.set i ⟨.lit (o::d::Q),ty⟩):=by
  intro q w hr hg;have aa:i<m.length:=(fQ.1 g).1
  have H:uz q w (q i) ⟨.lit (.r (o.ee q):: .r (d.ee q)::r),ty⟩:=by have:=hr.cells i ⟨.lit (o::d::r),ty⟩ g;exact this
  have T:=hr.seen g H (λc s=>s);have y:OQ q t (m.set i ⟨.lit (.r (o.ee q):: .r (d.ee q)::r),ty⟩).length:=by rw[gU];exact hg
  refine(h _ _ q w T.rel y).mono ?_;rintro en w'⟨l,v,u,L,rfl,rfl,rfl⟩;have k:(a.set i ⟨.lit (.r (o.ee q):: .r (d.ee q)::Q),ty⟩)[i]?=E ⟨.lit (.r (o.ee q):: .r (d.ee q)::Q),ty⟩:=qj O;have p: ∀j,j<m.length->l j=q j:=λj hj=>L.ln j (by rw[gU];exact hj)
  have z:uz l w' (l i) ⟨.lit (o::d::Q),ty⟩:=by have h2:=L.rel.cells i _ k;rw[uz.kA K]at h2⊢;rw[h2];simp only[dI.obj,eH.list,dZ,V.ee,gx p o h0,gx p d h1]
  have T2:=L.rel.seen k z (λc s=>s);rw[List.set_set]at T2;refine⟨l,v,_,⟨p,by rw[gU];exact hM,λx M=>?_,T2.rel,?_⟩,K,K,K⟩
  .rcases L.new x (T2.K3 x M)with e|e
   .exact .inl e
   .exact .inr (T.K3 x e)
  .exact L.iY.mono λb _ H=>T.K3 b H
def Ev.Ti{n:Nat}{H:Ds}{t:List Item}(i:Nat){o d:V}{r:List V}{ty:es}(g:m[i]?=E ⟨.lit (o::d::r),ty⟩)(j:fZ m.length e=G)(z:jv m.length H=G)(h: ∀p a:ip,Ev P C f n b H t e (m.set i ⟨.lit (.r p:: .r a::r),ty⟩) Q):Ev P C f n b H t e m Q:=
  Ev.Ke j z λq w y=>⟨q,_,y.seen g (show uz q w (q i) ⟨.lit (.r (o.ee q):: .r (d.ee q)::r),ty⟩from by
    have:=y.cells i ⟨.lit (o::d::r),ty⟩ g
    exact this) (λc s=>s),h _ _⟩
end Go.Proofs.YtiggidfngfkanaaGreatDoor
