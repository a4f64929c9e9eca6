/- FnPacked, part 8. No condition. -/
import Derived.Test.YtiggidfngfkanaaGreatDoorW7
namespace Go.Proofs.YtiggidfngfkanaaGreatDoor
open Go Go.Proofs.Tryz
set_option maxRecDepth 100000
set_option maxHeartbeats 4000000
set_option linter.all false
open Bool renaming false->A, true->G
open Decidable renaming decide->D
open Go renaming IntKind->U, TypeId->es
open Go.Proofs.Tryz renaming prog->B
open List renaming drop->kw, replicate->lc, take->jp
open Option renaming none->N, some->E
variable{q s v w z:Int}{F H L l r x:List Int}{t:List Item}{M T b cu cv i j n p:Nat}{Q:V->dE->Prop}{m:dE}{e:eZ}
section
variable{p Vl Xl y v2 u0 u1 u2 q h:Int}(hp:0<p)(hV:0<=Vl)(hV':Vl<p)(hX:0<=Xl)(hX':Xl<p)(hy:9223372036854775808<=y)(hy':y<18446744073709551616)
  (hv:gn v2)(h0:gn u0)(h1:gn u1)(h2:0<=u2)(hq:0<=q)(hq':q<=18446744073709551616)(he:u2*18446744073709551616+u1=q*y+h)
include hp hV hV' hX hX' hy hy' hv h0 h1 h2
theorem My:letI b:Int:=18446744073709551616;letI a:=u0+b*(u1+b*u2);p*(a)<=Xl+p*(a)/\
    Xl+p*(a)<p*(a+1):=by
  rw[fh p _ 1,jU];omega
include hq hq' he
theorem Hi:letI a:Int:=18446744073709551616;∀(s:q*v2<=h*a+u0),(q-1)*(Vl+p*(v2+a*y))<=Xl+p*(u0+a*(u1+a*u2)):=by
  intro s;have T:=hv.1;have P:=hv.2;have j:=h0.1;have k:=h0.2;have t:=h1.1;have m:=h1.2;have i:=(My hp hV hV' hX hX' hy hy' hv h0 h1 h2).1;have u:0<=p*(u0+18446744073709551616*(u1+18446744073709551616*u2)):=jL O O;have d:0<=p*(v2+18446744073709551616*y):=jL O O;rcases k9 q 1 with o|o
  .have:q=0:=O;subst this;rw[(O:(0:Int)-1= -1),Gj,jT];omega
  .have F:(q-1)*(Vl+p*(v2+18446744073709551616*y))<=(q-1)*(p*(1+(v2+18446744073709551616*y))):=by refine gF ?_ O;rw[fh p 1,jU];omega
   rw[um]at F
   have H:(q-1)*(1+(v2+18446744073709551616*y))<=u0+18446744073709551616*(u1+18446744073709551616*u2):=by rw[ui,jT,fh,fh,jU,um q];generalize q*y=C at*;generalize q*v2=R at*;omega
   have M:=gF H (O:0<=p);omega
theorem XV:letI a:Int:=18446744073709551616;∀(s:h*a+u0<q*v2),Xl+p*(u0+a*(u1+a*u2))<q*(Vl+p*(v2+a*y)):=by
  intro s;have T:=hv.1;have P:=hv.2;have j:=h0.1;have k:=h0.2;have t:=h1.1;have m:=h1.2;have i:=(My hp hV hV' hX hX' hy hy' hv h0 h1 h2).2
  have H:u0+18446744073709551616*(u1+18446744073709551616*u2)+1<=q*(v2+18446744073709551616*y):=by rw[fh q v2,um q];generalize q*y=C at*;generalize q*v2=R at*;omega
  have M:=gF H (O:0<=p);have b:0<=q*Vl:=jL hq hV;rw[fh q Vl,um q p];omega
omit hq hq' he
theorem VH:letI a:Int:=18446744073709551616;∀(hq:q=(u2*a+u1)/y),Xl+p*(u0+a*(u1+a*u2))<(q+1)*(Vl+p*(v2+a*y)):=by
  intro hq;have b:=hv.1;have P:=hv.2;have j:=h0.1;have k:=h0.2;have t:=h1.1;have m:=h1.2;have i:=(My hp hV hV' hX hX' hy hy' hv h0 h1 h2).2;have T:=tH (u2*18446744073709551616+u1) y;have f:=j6 (u2*18446744073709551616+u1) (O:0<y);have u:0<=q:=by rw[hq];exact n9 O O
  rw[<-hq]at T
  have H:u0+18446744073709551616*(u1+18446744073709551616*u2)+1<=(q+1)*(v2+18446744073709551616*y):=by have d:0<=(q+1)*v2:=jL O b;rw[fh (q+1),um (q+1),jN q 1 y,jT,eD q y];generalize(q+1)*v2=R at*;generalize y*q=C at*;omega
  have M:=gF H (O:0<=p);have c:0<=(q+1)*Vl:=jL O hV;rw[fh (q+1) Vl,um (q+1) p];omega
theorem auz(b:u2=y):letI a:Int:=18446744073709551616;(18446744073709551615-1)*(Vl+p*(v2+a*y))<=Xl+p*(u0+a*(u1+a*u2)):=by
  have T:=hv.1;have P:=hv.2;have j:=h0.1;have k:=h0.2;have t:=h1.1;have m:=h1.2;have i:=(My hp hV hV' hX hX' hy hy' hv h0 h1 h2).1;subst b
  have F:(18446744073709551615-1)*(Vl+p*(v2+18446744073709551616*u2))<=(18446744073709551615-1)*(p*(1+(v2+18446744073709551616*u2))):=by refine gF ?_ O;rw[fh p 1,jU];omega
  rw[um]at F;have H:(18446744073709551615-1)*(1+(v2+18446744073709551616*u2))<=u0+18446744073709551616*(u1+18446744073709551616*u2):=O;have M:=gF H (O:0<=p);omega
end
theorem agh{p Vl Xl y v2 u0 u1 u2 q h:Int}(hp:0<p)(hV:0<=Vl)(hV':Vl<p)(hX:0<=Xl)(hX':Xl<p)(hy:9223372036854775808<=y):letI a:Int:=18446744073709551616;∀(hy':y<a)(hv:gn v2)(h0:gn u0)(h1:gn u1)(h2:0<=u2)(hq:1<=q)(hq':q<=a)(he:u2*a+u1=q*y+h)(F:a<=h+y),(q-1-1)*(Vl+p*(v2+a*y))<=Xl+p*(u0+a*(u1+a*u2)):=by
  intro hy' hv h0 h1 h2 hq hq' he F;have e:(q-1)*y=q*y-y:=by rw[ui,jT]
  refine Hi (q:=q-1) (h:=h+y) hp hV hV' hX hX' hy hy' hv h0 h1 h2 O O (by rw[e];omega) ?_;have T:=hv.1;have P:=hv.2;have j:=h0.1;have:(q-1)*v2<=18446744073709551615*v2:=qg O T;omega
theorem eL(l:List Int)(k:Nat):val (l.take (k+1))=val (l.take k)+pw k*l.getD k 0:=by
  by_cases h:k<l.length
  .have e:l.take (k+1)=l.take k++[l.getD k 0]:=by
     rw[Ry h]
     congr 2
     rw[ie,jr h];rfl
   rw[e,gb,gR,qk O];simp[val]
  .rw [sQ O,sQ O,ie,EF O];simp
theorem wU(l:List Int)(a b:Nat):l.take (a+b)=l.take a++(l.drop a).take b:=by rw[List.take_add]
theorem ya(l:List Int)(a b:Nat)(h:a<=l.length):val (l.take (a+b))=val (l.take a)+pw a*val ((l.drop a).take b):=by rw[wU,gb,gR,qk h]
theorem kS{a:Nat}(h:j+r.length<=a)(e:a<=x.length):
    val ((dC x r j).take a)=val (x.take a)+pw j*(val r-val ((x.drop j).take r.length)):=by
  obtain⟨d,rfl⟩: ∃d,a=j+r.length+d:=⟨a-(j+r.length),O⟩
  have T:(dC x r j).take (j+r.length+d)=x.take j++(r++(x.drop (j+r.length)).take d):=by
    have v:(x.take j).take (j+r.length+d)=x.take j:=sQ rK;have k:r.take (r.length+d)=r:=sQ O;unfold dC
    rw[qx,JQ,gR,qk O,v,
     show j+r.length+d-j=r.length+d from O,JQ,k,(O:r.length+d-r.length=d)]
  have f:x.take (j+r.length+d)=x.take j++((x.drop j).take r.length++(x.drop (j+r.length)).take d):=by rw[uY,wU,wU (x.drop j),lR]
  have R:(x.take j).length=j:=rK;have g:((x.drop j).take r.length).length=r.length:=by rw[gR,jK];omega
  rw[T,f,gb,gb,gb,gb,R,g];rw[fh,fh,pU];omega
theorem QG:ji B CD:=gy (uJ _) ⟨⟨ga f176,Hd _⟩,⟨ga f182,L5 _⟩,jF _⟩
theorem yE:ji B CE:=gy dD ⟨⟨ga f176,Hd _⟩,⟨ga f182,L5 _⟩,jF _⟩
theorem Ns{ds:Ds}(h:Ev B CE 157 n b ds t e m Q):Ev B CD 157 n b ds t e m Q:=h
section
variable{M n cq cu cv ch j b:Nat}{y r u0 u1 u2 v2 p Vl Xl:Int}{qs us vs hs:List Int}{tq tu tv th:es}{sb:dI}{rest:dE}{ds:Ds}{Q:V->dE->Prop}
  (hds:jv (⟨.ws .u64 qs,tq⟩::sb::⟨.ws .u64 us,tu⟩::⟨.ws .u64 vs,tv⟩::⟨.ws .u64 hs,th⟩::rest).length ds=G)(hn:n<=ch)(hp:0<p)(hV:0<=Vl)(hV':Vl<p)(hX:0<=Xl)(hX':Xl<p)(hy:9223372036854775808<=y)(hy':y<18446744073709551616)
  (hv:gn v2)(h0:gn u0)(h1:gn u1)(h2:0<=u2)
  (hk: ∀q:Int,0<=q->q<18446744073709551616->(q-1)*(Vl+p*(v2+18446744073709551616*y))<=(Xl+p*(u0+18446744073709551616*(u1+18446744073709551616*u2)))->(Xl+p*(u0+18446744073709551616*(u1+18446744073709551616*u2)))<(q+1)*(Vl+p*(v2+18446744073709551616*y))->
    Ev B CE 157 201 b ds TT [(0,.s (E (0,0)) M cq),(1,.p (E (1,0))),(2,.s (E (2,0)) (M+n) cu),(3,.s (E (3,0)) n cv),(8,.i .i64 (n:Int)),(9,.i .i64 (M:Int)),(10,.s (E (4,0)) (n+1) ch),(11,.i .u64 y),(12,.i .u64 r),(14,.i .i64 (j:Int)),(15,.i .u64 q),(105,.s (E (4,0)) (n+1) ch),(106,.i .i64 (n:Int)),(109,.s (E (4,0)) n ch),(110,.s (E (3,0)) n cv),(111,.i .u64 q)] (⟨.ws .u64 qs,tq⟩::sb::⟨.ws .u64 us,tu⟩::⟨.ws .u64 vs,tv⟩::⟨.ws .u64 hs,th⟩::rest) Q)
include hds hn hp hV hV' hX hX' hy hy' hv h0 h1 h2 hk
theorem VX:letI a:Int:=18446744073709551616;letI c:U:= .u64;∀(k:Nat)(q h H w:Int),q<=k->0<=q->q<a->0<=h->h<a->u2*a+u1=q*y+h->H=q*v2/a->w=q*v2%a->
    (Xl+p*(u0+a*(u1+a*u2)))<(q+1)*(Vl+p*(v2+a*y))->Ev B CE 157 201 b ds TI [(0,.s (E (0,0)) M cq),(1,.p (E (1,0))),(2,.s (E (2,0)) (M+n) cu),(3,.s (E (3,0)) n cv),(8,.i .i64 (n:Int)),(9,.i .i64 (M:Int)),(10,.s (E (4,0)) (n+1) ch),(11,.i c y),(12,.i c r),(14,.i .i64 (j:Int)),(15,.i c q),(16,.i c h),(17,.i c v2),(18,.i c H),(19,.i c w),(20,.i c u0)] (⟨.ws c qs,tq⟩::sb::⟨.ws c us,tu⟩::⟨.ws c vs,tv⟩::⟨.ws c hs,th⟩::rest) Q:=by
  have b0:=hv.1;have b1:=hv.2;have c0:=h0.1;have c1:=h0.2;intro k
  induction k with
  |zero=>
   intro q h H w S u t g0 g1 f T z l;have:q=0:=O;subst this;rw[mN]at T z;have ac:H=0:=O;have ab:w=0:=O;refine fa (eB yE) (Gr M n cq cu cv ch j y r 0 h v2 H w u0 qs us vs hs tq tu tv th sb rest) ?_ hds ?_
   .simp only[dK,dJ,eu,ew,Nat.reduceAdd,Nat.reduceLT];omega
   .exact hk 0 O O (Hi hp hV hV' hX hX' hy hy' hv h0 h1 h2 O O f O) l
  |succ k v=>
   intro q h H w S u t g0 g1 f T z l;by_cases hc:h<H∨(H=h/\u0<w)
   .have F:h*18446744073709551616+u0<q*v2:=by generalize q*v2=R at*;omega
    have x:1<=q:=by
      rcases k9 q 1 with o|o
      .have:q=0:=O;subst this;omega
      .exact o
    have L:=XV hp hV hV' hX hX' hy hy' hv h0 h1 h2 u O f F;have m:(q-1)*y=q*y-y:=by rw[ui,jT]
    have e:(q-1)*v2=q*v2-v2:=by rw[ui,jT]
    have hA:v2<=q*v2:=by have:=qg x b0;omega
    have aa:q*v2<=18446744073709551615*v2:=qg O b0;have d:(Xl+p*(u0+18446744073709551616*(u1+18446744073709551616*u2)))<(q-1+1)*(Vl+p*(v2+18446744073709551616*y)):=by rw[(O:q-1+1=q)];exact L
    have C:U.u64.wrap (q-1)=q-1:=mP O;by_cases ho:18446744073709551616<=h+y
    .have P:U.u64.wrap (h+y)=h+y-18446744073709551616:=by rw[kq];omega
     refine fa (eB yE) (aeq M n cq cu cv ch j y r q h v2 H w u0 qs us vs hs tq tu tv th sb rest) ?_ hds ?_
     .rw [P];simp only[dK,dJ,eu,ew,Nat.reduceAdd,Nat.reduceLT];omega
     .rw [C];exact hk (q-1) O O (agh hp hV hV' hX hX' hy hy' hv h0 h1 h2 x O f ho) d
    .have P:U.u64.wrap (h+y)=h+y:=mP O;by_cases hb:w<v2
     .refine fa (eB yE) (acu M n cq cu cv ch j y r q h v2 H w u0 qs us vs hs tq tu tv th sb rest) ?_ hds ?_
      .rw [P];simp only[dK,dJ,eu,ew,Nat.reduceAdd,Nat.reduceLT];omega
      .have w1:U.u64.wrap (H-1)=H-1:=mP (by generalize q*v2=R at*;omega);have g:U.u64.wrap (w-v2)=w-v2+18446744073709551616:=by rw[kq];generalize q*v2=R at*;omega
       rw[C,P,w1,g];refine v (q-1) (h+y) _ _ O O O O O (by rw[m];omega) ?_ ?_ d
       .rw [e];generalize q*v2=R at*;omega
       .rw [e];generalize q*v2=R at*;omega
     .refine fa (eB yE) (agv M n cq cu cv ch j y r q h v2 H w u0 qs us vs hs tq tu tv th sb rest) ?_ hds ?_
      .rw [P];simp only[dK,dJ,eu,ew,Nat.reduceAdd,Nat.reduceLT];omega
      .have g:U.u64.wrap (w-v2)=w-v2:=mP (by generalize q*v2=R at*;omega);rw[C,P,g];refine v (q-1) (h+y) _ _ O O O O O (by rw[m];omega) ?_ ?_ d
       .rw [e];generalize q*v2=R at*;omega
       .rw [e];generalize q*v2=R at*;omega
   .refine fa (eB yE) (Gr M n cq cu cv ch j y r q h v2 H w u0 qs us vs hs tq tu tv th sb rest) ?_ hds ?_
    .simp only[dK,dJ,eu,ew,Nat.reduceAdd,Nat.reduceLT];omega
    .refine hk q u t (Hi hp hV hV' hX hX' hy hy' hv h0 h1 h2 u O f ?_) l;generalize q*v2=R at*;omega
theorem Qb(l:2<=n)(c:M+n<4294967296)(k:M+n<=us.length)(g:n<=vs.length)(S:j<=M)(f:r=iA (At y))(P:u2<=y)(T:us.getD (j+n-1) 0=u1)(e0:us.getD (j+n-2) 0=u0)(e:vs.getD (n-2) 0=v2):letI a:Int:=18446744073709551616;∀(H:(Xl+p*(u0+a*(u1+a*u2)))<a*(Vl+p*(v2+a*y))),Ev B CE 157 201 b ds TO [(0,.s (E (0,0)) M cq),(1,.p (E (1,0))),(2,.s (E (2,0)) (M+n) cu),(3,.s (E (3,0)) n cv),(8,.i .i64 (n:Int)),(9,.i .i64 (M:Int)),(10,.s (E (4,0)) (n+1) ch),(11,.i .u64 y),(12,.i .u64 r),(13,.i .u64 u2),(14,.i .i64 (j:Int))] (⟨.ws .u64 qs,tq⟩::sb::⟨.ws .u64 us,tu⟩::⟨.ws .u64 vs,tv⟩::⟨.ws .u64 hs,th⟩::rest) Q:=by
  intro H;have b0:=hv.1;have b1:=hv.2;have C:=h0.1;have o:=h0.2;have t:=h1.1;have m:=h1.2;have j1:(U.i64.wrap (U.i64.wrap ((j:Int)+(n:Int))-1))=((j+n-1:Nat):Int):=by rw[iy (n:=(j:Int)+n) O,iy O];omega
  have j2:(U.i64.wrap (U.i64.wrap ((j:Int)+(n:Int))-2))=((j+n-2:Nat):Int):=by rw[iy (n:=(j:Int)+n) O,iy O];omega
  have x:U.i64.wrap ((n:Int)-2)=((n-2:Nat):Int):=jw;by_cases F:u2=y
  .subst F;refine fa (eB yE) (awd M n cq cu cv ch j u2 r u2 qs us vs hs tq tu tv th sb rest) ?_ hds ?_
   .simp only[dK,dJ,eu,ew,Nat.reduceAdd,Nat.reduceLT,bne_self_eq_false];omega
   .exact hk 18446744073709551615 O O (auz hp hV hV' hX hX' hy hy' hv h0 h1 h2 K) H
  .have w:(u2 !=y)=G:=by simpa using F
   have R:DL [u2,u1,y,r]=G:=by simp only[DL,eG];exact⟨h2,O,h1,hy',f⟩
   have u:0<=(u2*18446744073709551616+u1)/y:=n9 O O;have v:(u2*18446744073709551616+u1)/y<18446744073709551616:=rD O O
   have L:m6 [(u2*18446744073709551616+u1)/y,v2]=G:=by simp only[m6,eG];exact⟨⟨u,v⟩,hv⟩
   refine fa (eB yE) (Zm M n cq cu cv ch j y r u2 qs us vs hs tq tu tv th sb rest) ?_ hds ?_
   .simp only[j1,j2,x,dU,T,e0,e,R,L,w];simp only[dK,dJ,eu,ew,Nat.reduceAdd,Nat.reduceLT];omega
   .simp only[j1,j2,x,dU,T,e0,e];have d:=j6 (u2*18446744073709551616+u1) (O:0<y);have h:=j7 (u2*18446744073709551616+u1) (O:y≠0);have z:=tH (u2*18446744073709551616+u1) y;refine VX hds hn hp hV hV' hX hX' hy hy' hv h0 h1 h2 hk ((u2*18446744073709551616+u1)/y).toNat _ _ _ _ O u v h O ?_ K K (VH hp hV hV' hX hX' hy hy' hv h0 h1 h2 K);rw[eD _ y];omega
end
def Hw(y:Int)(Q:gn y): ∀(H:List Int)(c:Int),dG H->gn c->dG (jX y c H).1/\gn (jX y c H).2
  |[],c,_,s=>⟨λx L=>by simp[jX]at L,by simpa[jX]using s⟩
  |x::H,c,L,s=>by
   have e:=L x jt;have h:dG H:=λz o=>L z (jh _ o)
   have g:0<=x*y:=jL e.1 Q.1;have d:x*y<=18446744073709551615*y:=qg (by have:=e.2;omega) Q.1;have f:=Q.2;have j:=s.1;have k:=s.2;have r:gn ((x*y+c)/18446744073709551616):=⟨O,O⟩
   obtain⟨a,b⟩:=Hw y Q H _ h r;simp only[jX];refine⟨λz o=>?_,b⟩;simp only[kh]at o;rcases o with rfl|o
   .exact⟨O,O⟩
   .exact a z o
def Hv: ∀(H p:List Int)(c:Int),dG (gP c H p).1
  |[],_,_=>λx L=>by simp[gP]at L
  |_::_,[],_=>λx L=>by simp[gP]at L
  |x::H,y::p,c=>λz o=>by
   simp only[gP,kh]at o;rcases o with rfl|o
   .exact⟨O,O⟩
   .exact Hv H p _ z o
def BI: ∀(H p:List Int)(c:Int),dG H->dG p->0<=c->c<=1->0<=(gP c H p).2/\(gP c H p).2<=1
  |[],_,c,_,_,C,M=>by simpa[gP]using⟨C,M⟩
  |_::_,[],c,_,_,C,M=>by simpa[gP]using⟨C,M⟩
  |x::H,y::p,c,L,Q,C,M=>by have a:=L x jt;have b:=Q y jt;have q:=a.1;have F:=a.2;have T:=b.1;have P:=b.2;simp only[gP];exact BI H p _ (λz o=>L z (jh _ o)) (λz o=>Q z (jh _ o)) O O
def K4{v:List Int}(Q:dG L)(P:dG v)(z:gn q)(g:n<=L.length)(h:n+1<=v.length)(u:H=(dC v (jX q 0 (L.take n)).1 0).set n (jX q 0 (L.take n)).2):
    H.length=v.length/\dG H/\val (H.take (n+1))=q*val (L.take n):=by
  obtain⟨a,M⟩:=uc q (L.take n) 0;obtain⟨y,i⟩:=Hw q z (L.take n) 0 (dS Q n) se;have C:(L.take n).length=n:=rK;rw[C]at a M;have l:H.length=v.length:=by rw[u,gU,fE,M];omega
  have s:n<(dC v (jX q 0 (L.take n)).1 0).length:=by rw[fE,M];omega
  refine⟨l,by rw[u];exact gu (eS P y) i,?_⟩;rw[eL]
  have T:H.take n=(jX q 0 (L.take n)).1:=by rw[u,JZ (eT n),iz,jO M]
  have f:H.getD n 0=(jX q 0 (L.take n)).2:=by rw[u,ie,qj s];rfl
  rw[T,f,eD q];have:pw n*(jX q 0 (L.take n)).2=(jX q 0 (L.take n)).2*pw n:=eD _ _;omega
def wL(h:j+r.length<=x.length):((dC x r j).drop j).take r.length=r:=by have R:(x.take j).length=j:=rK;unfold dC;rw[qx,List.drop_left' R,jO rfl]
def Cr(h:j+r.length<=x.length)(g:j+r.length<=i):(dC x r j).getD i 0=x.getD i 0:=by
  have R:(x.take j++r).length=j+r.length:=by rw[gw,gR];omega
  unfold dC;rw[ie,pP (by rw[R];exact g),R,jY,ie]
  congr 2
  omega
def KO(h:i<l.length):l.set i v=dC l [v] i:=by rw[Zc,if_pos h];simp[dC]
def YA{s:List Int}(F:dG x)(c:dG s)(e:j+n+1<=p)(f:p<=x.length)(u:s.length=n+1)(d:val s=q*w){S:List Int×Int}(P:S=jQ 0 ((x.drop j).take (n+1)) s)(H:S.2=0):
    S.1.length=n+1/\dG S.1/\val S.1=val ((x.drop j).take (n+1))-q*w/\0<=val S.1/\val ((dC x S.1 j).take p)=val (x.take p)-pw j*(q*w):=by
  have y:((x.drop j).take (n+1)).length=n+1:=by rw[gR,jK];omega
  obtain⟨g,m,T,l⟩:=pR ((x.drop j).take (n+1)) s 0 O (dS (fR F j) _) c O O;have i:=qu ((x.drop j).take (n+1)) s 0;rw[<-P]at g m T l i;rw[H,mN]at g;have R:S.1.length=n+1:=O;have C:=(ez _ i).1;have Q:=kS (x:=x) (r:=S.1) (j:=j) (a:=p) O f;rw[R]at Q;refine⟨R,i,O,C,?_⟩;rw[Q,(O:val S.1-val ((x.drop j).take (n+1))= -(q*w)),G9];omega
def aau{s:List Int}(hu:dG x)(hv:dG L)(ac:n<=L.length)(hY:dG s)(hK:j+n+1<=p)(f:p<=x.length)(lY:s.length=n+1)(d:val s=q*val (L.take n)){S:List Int×Int}:letI a:List Int:=(x.drop j).take (n+1);letI b:=dC x S.1 j;letI c:=L.take n;∀(hS:S=jQ 0 a s)(hb:S.2≠0)(hq:(q-1)*val c<=val a){R:List Int×Int}(hA:R=gP 0 ((b.drop j).take n) c){W:List Int}(u:W=(dC b R.1 j).set (j+n) (U.u64.wrap ((dC b R.1 j).getD (j+n) 0+R.2))),S.1.length=n+1/\R.1.length=n/\dG S.1/\dG R.1/\dG W/\W.length=x.length/\val a<q*val c/\val (W.take p)=val (x.take p)-pw j*((q-1)*val c):=by
  intro hS hb hq R hA W u;have lA:((x.drop j).take (n+1)).length=n+1:=by rw[gR,jK];omega
  obtain⟨g,s2,s3,s4⟩:=pR ((x.drop j).take (n+1)) s 0 O (dS (fR hu j) _) hY O O;have i:=qu ((x.drop j).take (n+1)) s 0;rw[<-hS]at g s2 s3 s4 i;have z:S.2=1:=O;rw[z,jT,lA]at g;have k:S.1.length=n+1:=O;have lv:(L.take n).length=n:=rK;have w:dG (dC x S.1 j):=eS hu i;have v:(dC x S.1 j).length=x.length:=by rw[fE,k];omega
  have lB:(((dC x S.1 j).drop j).take n).length=n:=by rw[gR,jK,v];omega
  obtain⟨a1,y⟩:=Jt (((dC x S.1 j).drop j).take n) (L.take n) 0 O;obtain⟨a3,a4⟩:=BI (((dC x S.1 j).drop j).take n) (L.take n) 0 (dS (fR w j) _) (dS hv n) O O;have Q:=Hv (((dC x S.1 j).drop j).take n) (L.take n) 0;rw[<-hA]at a1 y a3 a4 Q;rw[lB]at a1 y;have P:dG (dC (dC x S.1 j) R.1 j):=eS w Q;have F:(dC (dC x S.1 j) R.1 j).length=x.length:=by rw[fE,y,v];omega
  have ht:(dC (dC x S.1 j) R.1 j).getD (j+n) 0=(dC x S.1 j).getD (j+n) 0:=Cr O O
  have aa:val S.1=val (((dC x S.1 j).drop j).take n)+pw n*(dC x S.1 j).getD (j+n) 0:=by
    have e:=wL (x:=x) (r:=S.1) (j:=j) O;rw[k]at e;have e2:=eL ((dC x S.1 j).drop j) n;rw[e]at e2;rw[e2]
    congr 2
    rw[ie,jY,<-ie]
  have l:gn ((dC x S.1 j).getD (j+n) 0):=eg w _;rw[ht]at u;generalize hT:(dC x S.1 j).getD (j+n) 0=t at*;have t0:=l.1;have t1:=l.2;have C:=(ez _ Q).2;rw[y]at C;have hp:=gH n;have ad:pw (n+1)=18446744073709551616*pw n:=gV n;rw[d]at g;have m:(q-1)*val (L.take n)=q*val (L.take n)-val (L.take n):=by rw[ui,jT]
  have ab:18446744073709551616<=t+R.2:=by
    rcases k9 (t+R.2) 18446744073709551616 with h|h
    .exfalso;have h1:pw n*(t+R.2)<=pw n*18446744073709551615:=gF O O;rw[fh,eD (pw n) R.2]at h1;omega
    .exact h
  have hw:U.u64.wrap (t+R.2)=t+R.2-18446744073709551616:=by rw[kq];omega
  rw[hw]at u;have H:gn (t+R.2-18446744073709551616):=⟨O,O⟩
  have lW:W.length=x.length:=by rw[u,gU,F]
  have v3:val (W.take p)=val ((dC (dC x S.1 j) R.1 j).take p)+pw (j+n)*(R.2-18446744073709551616):=by
    rw[u,KO O,kS gp O]
    have e:val (((dC (dC x S.1 j) R.1 j).drop (j+n)).take [t+R.2-18446744073709551616].length)=t:=by show val (((dC (dC x S.1 j) R.1 j).drop (j+n)).take (0+1))=t;rw[eL,ie,jY,<-ie,j3,ht];simp[val,pw]
    rw[e]
    congr 2
    simp only[val];omega
  have M:=kS (x:=dC x S.1 j) (r:=R.1) (j:=j) (a:=p) O O;have T:=kS (x:=x) (r:=S.1) (j:=j) (a:=p) O f;rw[y]at M;rw[k]at T;have o:=(ez _ i).2;rw[k]at o;refine⟨k,y,i,Q,by rw[u];exact gu P H,lW,O,?_⟩
  have e:val S.1-val ((x.drop j).take (n+1))+(val R.1-val (((dC x S.1 j).drop j).take n)+pw n*(R.2-18446744073709551616))= -((q-1)*val (L.take n)):=by rw[pU,m];have:pw n*R.2=R.2*pw n:=eD _ _;omega
  rw[v3,M,T,uq,fO,wO,wO,<-fh,<-fh,e,G9];omega
theorem qT{o:Nat}(h:o+r.length<=p)(e:p<=l.length):(dC l r o).drop p=l.drop p:=by
  unfold dC;rw[s6,sV gp,sP,lR]
  congr 1
  simp;omega
theorem set_drop(h:i<p):(l.set i v).drop p=l.drop p:=by apply AP;intro j;rw[jY,jY,lI O]
theorem YU{l:Nat}(h:l=n+1)(H:j<M):j+l<=M+n:=O
theorem adm{l:Nat}(h:l=n)(H:j<M):j+l<=M+n:=O
theorem aOp(H:j<M):j+n<M+n:=O
theorem aaa{a:Nat}(h:a=b)(H:p<=b):p<=a:=O
theorem ayb{ch w s m k:Nat}(x:j<M)(S:n+1<=ch)(l:2<=n)(u:M+n<1048576)(v:M+n<=cu)(C:M+n<=s)(t:n<=m)(p:n+1<=k)(o:M<=w):letI a:=((j+n:Nat):Int);letI b:Int:=((j+n+1:Nat):Int);letI c:=(j:Int);letI d:=((M+n:Nat):Int);letI e:Int:=((n+1:Nat):Int);letI f:=(cu:Int);letI g:Nat:=4294967296;letI h:Int:=((j+n-1:Nat):Int);letI i:=(n:Int);j<w/\
    (0<=c/\c<(M:Int))/\
     ¬(
      j:Int)=(M:Int)/\
      j
       +n-1<s/\
       (0<=h/\h<d)/\
        j
         +n<s/\
         (0<=a/\a<d)/\
          j
           +n<s/\
           (0<=a/\a<d)/\
            i<e/\
             (n<g/\j+n<=s/\j+n<=s/\0+n<=m)/\
              ((
               0<=a/\a<=f)/\0<=c/\c<=a)/\
               ((
                0<=a/\a<=f)/\0<=c/\c<=a)/\
                (n+1<g/\
                 j+(n+1)<=s/\j+(n+1)<=s/\0+(n+1)<=k)/\
                 (0<=e/\e<=(ch:Int))/\
                  ((
                   0<=b/\b<=f)/\0<=c/\c<=b)/\
                   ((
                    0<=b/\b<=f)/\0<=c/\c<=b)/\
                    ¬(
                     (j+n+1:Nat):Int)>d/\
                     n
                      <k/\
                      (0<=i/\i<e)/\
                       n<g/\0+n<=k/\0+n<=m:=by
  repeat' apply eU
  all_goals omega
section
variable{M n cq cu cv ch j b:Nat}{y r q:Int}{qs us vs hs:List Int}{tq tu tv th:es}{sb:dI}{rest:dE}{ds:Ds}{Q:V->dE->Prop}
  (hds:jv (⟨.ws .u64 qs,tq⟩::sb::⟨.ws .u64 us,tu⟩::⟨.ws .u64 vs,tv⟩::⟨.ws .u64 hs,th⟩::rest).length ds=G)(hsb:mZ (rest.length+1+1+1+1+1) sb.c=G)(hrest:ek (rest.length+1+1+1+1+1) rest=G)
  (hn:n+1<=ch)(hn2:2<=n)(hsz:M+n<1048576)(hcu:M+n<=cu)(hul:M+n<=us.length)(hvl:n<=vs.length)(hhl:n+1<=hs.length)(hql:M<=qs.length)
  (hu:dG us)(hv:dG vs)(hh:dG hs)(hqw:gn q)
include hds hsb hrest hn hn2 hsz hcu hul hvl hhl hql hu hv hh hqw
theorem ahl(hj:j<M):letI a:List Int:=(us.drop j).take (n+1);letI c:=vs.take n;letI d:V:= .s (E (4,0)) (n+1) ch;letI e:V:= .s (E (3,0)) n cv;letI f:U:= .u64;letI g:V:= .i .i64 (n:Int);letI h:=M+n;letI k:dI:=⟨.ws f vs,tv⟩;∀(i:(jQ 0 a (((dC hs (jX q 0 c).1 0).set n (jX q 0 c).2).take (n+1))).2=0)(ab:(q-1)*val c<=val a)(o:val a<(q+1)*val c)(hk: ∀(s:Int)(l w:List Int),l.length=us.length->w.length=hs.length->dG l->dG w->gn s->s*val c<=val a->val a<(s+1)*val c->
      val (l.take h)=val (us.take h)-pw j*(s*val c)->l.drop h=us.drop h->
      Ev B CD 157 201 b ds TO [(0,.s (E (0,0)) M cq),(1,.p (E (1,0))),(2,.s (E (2,0)) h cu),(3,e),(8,g),(9,.i .i64 (M:Int)),(10,d),(11,.i f y),(12,.i f r),(13,.i f (l.getD (j+n-1) 0)),(14,.i .i64 ((j:Int)-1))] (⟨.ws f (qs.set j s),tq⟩::sb::⟨.ws f l,tu⟩::k::⟨.ws f w,th⟩::rest) Q),Ev B CD 157 201 b ds TT [(0,.s (E (0,0)) M cq),(1,.p (E (1,0))),(2,.s (E (2,0)) h cu),(3,e),(8,g),(9,.i .i64 (M:Int)),(10,d),(11,.i f y),(12,.i f r),(14,.i .i64 (j:Int)),(15,.i f q),(105,d),(106,g),(109,.s (E (4,0)) n ch),(110,e),(111,.i f q)] (⟨.ws f qs,tq⟩::sb::⟨.ws f us,tu⟩::k::⟨.ws f hs,th⟩::rest) Q:=by
  intro i ab o hk;have i1:U.i64.wrap ((j:Int)+((n+1:Nat):Int))=((j+n+1:Nat):Int):=jw;have i3:U.i64.wrap ((j:Int)+(n:Int))=((j+n:Nat):Int):=jw;have i2:U.i64.wrap (((j+n:Nat):Int)-1)=((j+n-1:Nat):Int):=jw;have i4:U.i64.wrap ((j:Int)-1)=(j:Int)-1:=iy O;have v:Nat.beq 2 4=A:=K;have L:Nat.beq 2 2=G:=K;have t:Nat.beq 2 3=A:=K;have F:Nat.beq 4 3=A:=K;have T:=hsb;unfold mZ at T;have m:eO 0 cu j 1=j:=by rw[kE O];omega
  have d1:j+n+1-j=n+1:=O;have d2:j+n-j=n:=O;obtain⟨H,u⟩: ∃H,H=(dC hs (jX q 0 (vs.take n)).1 0).set n (jX q 0 (vs.take n)).2:=⟨_,K⟩
  obtain⟨x,C,ac⟩:=K4 hv hh hqw hvl hhl u;obtain⟨S,P⟩: ∃S,S=jQ 0 ((us.drop j).take (n+1)) (H.take (n+1)):=⟨_,K⟩
  have hb:=i;rw[<-u,<-P]at hb;have lY:(H.take (n+1)).length=n+1:=rK;have p:=(uc q (vs.take n) 0).2;have z:(vs.take n).length=n:=rK;rw[z]at p;have X0:=(ez _ (dS (fR hu j) (n+1))).1;have V0:=(ez _ (dS hv n)).1;have q0:=hqw.1;have q1:=hqw.2;have c1: ¬(((j+n+1:Nat):Int)>((M+n:Nat):Int)):=O;obtain⟨R,sw,sv,s0,hW⟩:=YA (p:=M+n) hu (dS C _) O hul lY ac P hb;have aa:(dC us S.1 j).length=us.length:=by rw[fE,R];omega
  have lhs:(dC hs (jX q 0 (vs.take n)).1 0).length=hs.length:=by rw[fE,p];omega
  refine fa (eB QG) (atg M n cq cu cv ch j y r q qs us vs hs tq tu tv th sb rest) ?_ hds ?_
  .simp only[i1,i2,i3,i4,m,dU,d1,d2,gh,jo,<-u,<-P,hb];simp only[aa,lhs,x];simp only[dK,dJ,eu,ew,Nat.reduceAdd,Nat.reduceLT,hsb,hrest,hu,hv,C,hqw,se,R,p,x,gR,jK];clear hk;simp+decide only[T,v,L,t,F,gq,gr,iO,Dd,BH,eG,eT,fV,im];omega
  .simp only[i1,i2,i3,i4,m,dU,d1,d2,gh,jo,<-u,<-P];exact hk q (dC us S.1 j) H (by rw[fE,R];omega) x (eS hu sw) C hqw O o hW (qT (YU R hj) hul)
theorem apg(o:j<M):letI a:List Int:=(us.drop j).take (n+1);letI c:=vs.take n;letI d:V:= .s (E (4,0)) (n+1) ch;letI e:V:= .s (E (3,0)) n cv;letI f:U:= .u64;letI g:V:= .i .i64 (n:Int);letI h:=M+n;letI k:dI:=⟨.ws f vs,tv⟩;∀(i: ¬(jQ 0 a (((dC hs (jX q 0 c).1 0).set n (jX q 0 c).2).take (n+1))).2=0)(t:(q-1)*val c<=val a)(ag:val a<(q+1)*val c)(hk: ∀(s:Int)(l w:List Int),l.length=us.length->w.length=hs.length->dG l->dG w->gn s->s*val c<=val a->val a<(s+1)*val c->
      val (l.take h)=val (us.take h)-pw j*(s*val c)->l.drop h=us.drop h->
      Ev B CD 157 201 b ds TO [(0,.s (E (0,0)) M cq),(1,.p (E (1,0))),(2,.s (E (2,0)) h cu),(3,e),(8,g),(9,.i .i64 (M:Int)),(10,d),(11,.i f y),(12,.i f r),(13,.i f (l.getD (j+n-1) 0)),(14,.i .i64 ((j:Int)-1))] (⟨.ws f (qs.set j s),tq⟩::sb::⟨.ws f l,tu⟩::k::⟨.ws f w,th⟩::rest) Q),Ev B CD 157 201 b ds TT [(0,.s (E (0,0)) M cq),(1,.p (E (1,0))),(2,.s (E (2,0)) h cu),(3,e),(8,g),(9,.i .i64 (M:Int)),(10,d),(11,.i f y),(12,.i f r),(14,.i .i64 (j:Int)),(15,.i f q),(105,d),(106,g),(109,.s (E (4,0)) n ch),(110,e),(111,.i f q)] (⟨.ws f qs,tq⟩::sb::⟨.ws f us,tu⟩::k::⟨.ws f hs,th⟩::rest) Q:=by
  intro i t ag hk;have i1:U.i64.wrap ((j:Int)+((n+1:Nat):Int))=((j+n+1:Nat):Int):=jw;have i3:U.i64.wrap ((j:Int)+(n:Int))=((j+n:Nat):Int):=jw;have i2:U.i64.wrap (((j+n:Nat):Int)-1)=((j+n-1:Nat):Int):=jw;have i4:U.i64.wrap ((j:Int)-1)=(j:Int)-1:=iy O;have ab:Nat.beq 2 4=A:=K;have ad:Nat.beq 2 2=G:=K;have ac:Nat.beq 2 3=A:=K;have aa:Nat.beq 4 3=A:=K;have T:=hsb;unfold mZ at T;have m:eO 0 cu j 1=j:=by rw[kE O];omega
  have d1:j+n+1-j=n+1:=O;have d2:j+n-j=n:=O;obtain⟨H,F⟩: ∃H,H=(dC hs (jX q 0 (vs.take n)).1 0).set n (jX q 0 (vs.take n)).2:=⟨_,K⟩
  obtain⟨x,C,aj⟩:=K4 hv hh hqw hvl hhl F;obtain⟨S,P⟩: ∃S,S=jQ 0 ((us.drop j).take (n+1)) (H.take (n+1)):=⟨_,K⟩
  have p:=i;rw[<-F,<-P]at p;have lY:(H.take (n+1)).length=n+1:=rK;have m2:=(uc q (vs.take n) 0).2;have ae:(vs.take n).length=n:=rK;rw[ae]at m2;have X0:=(ez _ (dS (fR hu j) (n+1))).1;have V0:=(ez _ (dS hv n)).1;have q0:=hqw.1;have q1:=hqw.2;have c1: ¬(((j+n+1:Nat):Int)>((M+n:Nat):Int)):=O;obtain⟨R,hA⟩: ∃R,R=gP 0 (((dC us S.1 j).drop j).take n) (vs.take n):=⟨_,K⟩
  obtain⟨W,u⟩: ∃W,W=(dC (dC us S.1 j) R.1 j).set (j+n) (U.u64.wrap ((dC (dC us S.1 j) R.1 j).getD (j+n) 0+R.2)):=⟨_,K⟩
  obtain⟨l1,l2,sw,aw,wW,lW,z,ah⟩:=aau (p:=M+n) hu hv hvl (dS C _) O hul lY aj P p t hA u
  have ak:1<=q:=by
    rcases k9 q 1 with hz|hz
    .have:q=0:=O;rw[this,mN]at z;omega
    .exact hz
  have v:(dC us S.1 j).length=us.length:=by rw[fE,l1];omega
  have af:(dC (dC us S.1 j) R.1 j).length=us.length:=by rw[fE,l2,v];omega
  have lhs:(dC hs (jX q 0 (vs.take n)).1 0).length=hs.length:=by rw[fE,m2];omega
  have wq:U.u64.wrap (q-1)=q-1:=mP O;have L:dG (dC us S.1 j):=eS hu sw;refine fa (eB QG) (aLx M n cq cu cv ch j y r q qs us vs hs tq tu tv th sb rest) ?_ hds ?_
  .simp only[i1,i2,i3,i4,m,dU,d1,d2,gh,jo,<-F,<-P,<-hA,<-u];simp only[v,af,lhs,x,lW];simp only[dK,dJ,eu,ew,Nat.reduceAdd,Nat.reduceLT,hsb,hrest,hu,hv,C,hqw,se,l1,l2,m2,x,lW,L,p,gR,jK];clear hk;simp+decide only[T,ab,ad,ac,aa,gq,gr,iO,Dd,BH,eG,eT,fV,im,p];exact ayb o hn hn2 hsz hcu hul hvl hhl hql
  .simp only[i1,i2,i3,i4,m,dU,d1,d2,gh,jo,<-F,<-P,<-hA,<-u,wq];exact hk (q-1) W H lW x wW C ⟨O,O⟩ t (by rw[(O:q-1+1=q)];exact z) ah (by rw[u,set_drop (aOp o),qT (adm l2 o) (aaa v hul),qT (YU l1 o) hul])
theorem Qd(i:j<M):letI a:Int:=val ((us.drop j).take (n+1));letI c:=val (vs.take n);letI d:V:= .s (E (4,0)) (n+1) ch;letI e:V:= .s (E (3,0)) n cv;letI f:U:= .u64;letI g:V:= .i .i64 (n:Int);letI h:=M+n;letI k:dI:=⟨.ws f vs,tv⟩;∀(t:(q-1)*c<=a)(o:a<(q+1)*c)(R: ∀(s:Int)(l w:List Int),l.length=us.length->w.length=hs.length->dG l->dG w->gn s->s*c<=a->a<(s+1)*c->
      val (l.take h)=val (us.take h)-pw j*(s*c)->l.drop h=us.drop h->
      Ev B CD 157 201 b ds TO [(0,.s (E (0,0)) M cq),(1,.p (E (1,0))),(2,.s (E (2,0)) h cu),(3,e),(8,g),(9,.i .i64 (M:Int)),(10,d),(11,.i f y),(12,.i f r),(13,.i f (l.getD (j+n-1) 0)),(14,.i .i64 ((j:Int)-1))] (⟨.ws f (qs.set j s),tq⟩::sb::⟨.ws f l,tu⟩::k::⟨.ws f w,th⟩::rest) Q),Ev B CD 157 201 b ds TT [(0,.s (E (0,0)) M cq),(1,.p (E (1,0))),(2,.s (E (2,0)) h cu),(3,e),(8,g),(9,.i .i64 (M:Int)),(10,d),(11,.i f y),(12,.i f r),(14,.i .i64 (j:Int)),(15,.i f q),(105,d),(106,g),(109,.s (E (4,0)) n ch),(110,e),(111,.i f q)] (⟨.ws f qs,tq⟩::sb::⟨.ws f us,tu⟩::k::⟨.ws f hs,th⟩::rest) Q:=by
  intro t o R;by_cases H:(jQ 0 ((us.drop j).take (n+1)) (((dC hs (jX q 0 (vs.take n)).1 0).set n (jX q 0 (vs.take n)).2).take (n+1))).2=0
  .exact ahl hds hsb hrest hn hn2 hsz hcu hul hvl hhl hql hu hv hh hqw i H t o R
  .exact apg hds hsb hrest hn hn2 hsz hcu hul hvl hhl hql hu hv hh hqw i H t o R
end
def pF(l:List Int)(j i:Nat):(l.drop j).getD i 0=l.getD (j+i) 0:=by rw[ie,jY,<-ie]
def aRa(l:List Int)(k:Nat):letI a:Int:=18446744073709551616;val (l.take (k+2+1))=val (l.take k)+pw k*(l.getD k 0+a*(l.getD (k+1) 0+a*l.getD (k+2) 0)):=by
  rw[eL,eL,eL,gV (k+1),gV k,fh,fh];have T:pw k*(18446744073709551616*l.getD (k+1) 0)=18446744073709551616*pw k*l.getD (k+1) 0:=by rw[<-fO,eD (pw k)]
  have f:pw k*(18446744073709551616*(18446744073709551616*l.getD (k+2) 0))=18446744073709551616*(18446744073709551616*pw k)*l.getD (k+2) 0:=by rw[<-fO,<-fO,eD (pw k),fO 18446744073709551616 (pw k),eD (pw k) 18446744073709551616]
  rw[fh,T,f];omega
def aDu(l:List Int)(k:Nat):val (l.take (k+1+1))=val (l.take k)+pw k*(l.getD k 0+18446744073709551616*l.getD (k+1) 0):=by
  rw[eL,eL,gV,fh];have T:pw k*(18446744073709551616*l.getD (k+1) 0)=18446744073709551616*pw k*l.getD (k+1) 0:=by rw[<-fO,eD (pw k)]
  rw[T];omega
def Kx(F:dG x)(e:j+n+1<=p)(f:p<=x.length)(H:w<pw n)(u:val (x.take p)<w*pw (j+1)):letI a:Int:=val ((x.drop j).take (n+1));pw j*a<=val (x.take p)/\val (x.take p)<pw j*(a+1)/\a<18446744073709551616*w:=by
  obtain⟨d,rfl⟩: ∃d,p=j+(n+1+d):=⟨p-(j+(n+1)),O⟩
  have g:=gH j;have Q:=ya x j (n+1+d) O;have z:=ya (x.drop j) (n+1) d (by rw[jK];omega);have i:=(ez _ (dS F j))
  have C:(x.take j).length=j:=rK;rw[C]at i;have L:=(ez _ (dS (fR (fR F j) (n+1)) d)).1;have b:=(ez _ (dS (fR F j) (n+1))).1
  have o:val ((x.drop j).take (n+1+d))<18446744073709551616*w:=by
    have M:pw j*val ((x.drop j).take (n+1+d))<pw j*(18446744073709551616*w):=by
      have:w*pw (j+1)=pw j*(18446744073709551616*w):=by rw[gV];ac_rfl
      omega
    exact Le M O
  have y:val (((x.drop j).drop (n+1)).take d)=0:=by
    rcases k9 (val (((x.drop j).drop (n+1)).take d)) 1 with h|h
    .omega
    .exfalso;have M:pw (n+1)*1<=pw (n+1)*val (((x.drop j).drop (n+1)).take d):=gF h (gA (gH _));rw[jU,gV]at M;rw[gV]at z;omega
  rw[y,o4,jP]at z;rw[z]at Q o;refine⟨O,?_,o⟩;rw[fh,jU];omega
def agj{X p y u i:Int}(g:0<p)(m:0<=q)(j:i<p)(T:X=q+18446744073709551616*p*u)(H:w=i+p*y)(h:X<18446744073709551616*w):u<=y:=by
  rcases k9 y u with s|s
  .exfalso;have M:p*(y+1)<=p*u:=gF O O;rw[fh,jU]at M;rw[fO]at T;omega
  .exact s
def Ks{W i X:Int}(M:W<pw j*(X+1))(S:X<(q+1)*w)(l:i=W-pw j*(q*w)):i<w*pw j:=by
  have g:=gH j;have e:(q+1)*w=q*w+w:=by rw[jN,jT]
  have u:pw j*(X+1)<=pw j*(q*w+w):=gF O O;rw[fh (pw j) (q*w),eD (pw j) w]at u;omega
section
variable{M n cq cu cv ch b:Nat}{y:Int}{vs:List Int}{tq tu tv th:es}{sb:dI}{rest:dE}{ds:Ds}{Q:V->dE->Prop}
  (hds:jv (rest.length+1+1+1+1+1) ds=G)(hsb:mZ (rest.length+1+1+1+1+1) sb.c=G)(hrest:ek (rest.length+1+1+1+1+1) rest=G)
  (hn:n+1<=ch)(hn2:2<=n)(hsz:M+n<1048576)(hcu:M+n<=cu)(hvl:n<=vs.length)(hv:dG vs)(ey:vs.getD (n-1) 0=y)(hy:9223372036854775808<=y)
include hds hsb hrest hn hn2 hsz hcu hvl hv ey hy
theorem T5{C v:List Int}(H:M+n<=x.length)(h:n+1<=v.length)(k:M<=C.length)(F:dG x)(hh:dG v)(hj:j<M):letI a:=M+n;letI c:U:= .u64;letI d:=val (vs.take n);letI e:V:= .s (E (4,0)) (n+1) ch;letI f:dI:=⟨.ws c vs,tv⟩;∀(hW:val (x.take a)<d*pw (j+1))(hk: ∀(s:Int)(l w:List Int),l.length=x.length->w.length=v.length->dG l->dG w->gn s->val (l.take a)<d*pw j->
      val (l.take a)=val (x.take a)-pw j*(s*d)->l.drop a=x.drop a->
      Ev B CD 157 201 b ds TO [(0,.s (E (0,0)) M cq),(1,.p (E (1,0))),(2,.s (E (2,0)) a cu),(3,.s (E (3,0)) n cv),(8,.i .i64 (n:Int)),(9,.i .i64 (M:Int)),(10,e),(11,.i c y),(12,.i c (iA (At y))),(13,.i c (l.getD (j+n-1) 0)),(14,.i .i64 ((j:Int)-1))] (⟨.ws c (C.set j s),tq⟩::sb::⟨.ws c l,tu⟩::f::⟨.ws c w,th⟩::rest) Q),Ev B CD 157 201 b ds TO [(0,.s (E (0,0)) M cq),(1,.p (E (1,0))),(2,.s (E (2,0)) a cu),(3,.s (E (3,0)) n cv),(8,.i .i64 (n:Int)),(9,.i .i64 (M:Int)),(10,e),(11,.i c y),(12,.i c (iA (At y))),(13,.i c (x.getD (j+n) 0)),(14,.i .i64 (j:Int))] (⟨.ws c C,tq⟩::sb::⟨.ws c x,tu⟩::f::⟨.ws c v,th⟩::rest) Q:=by
  intro hW hk;obtain⟨i,rfl⟩: ∃i,n=i+2:=⟨n-2,O⟩
  have S:val (vs.take (i+2))=val (vs.take i)+pw i*(vs.getD i 0+18446744073709551616*y):=by rw[<-ey];exact aDu vs i
  have u:val ((x.drop j).take (i+2+1))=val ((x.drop j).take i)+pw i*(x.getD (j+i) 0+18446744073709551616*(x.getD (j+(i+1)) 0+18446744073709551616*x.getD (j+(i+2)) 0)):=by rw[aRa,pF,pF,pF]
  have T:=ez _ (dS hv (i+2));have m:=ez _ (dS hv i);have L:=ez _ (dS (fR F j) i);have l1:(vs.take (i+2)).length=i+2:=rK;have l2:(vs.take i).length=i:=rK;have l3:((x.drop j).take i).length=i:=by rw[gR,jK];omega
  rw[l1]at T;rw[l2]at m;rw[l3]at L;have g:gn y:=by rw[<-ey];exact eg hv _
  have hp:=gH i;obtain⟨r1,r2,r3⟩:=Kx (p:=M+(i+2)) F O H T.2 hW;have R:gn (x.getD (j+(i+2)) 0):=eg F _
  have P:x.getD (j+(i+2)) 0<=y:=by
    have p:val ((x.drop j).take (i+2+1))=val ((x.drop j).take (i+2))+18446744073709551616*pw (i+1)*x.getD (j+(i+2)) 0:=by rw[eL,pF,gV]
    have z:val (vs.take (i+2))=val (vs.take (i+1))+pw (i+1)*y:=by rw[<-ey];exact eL vs (i+1)
    have v1:=(ez _ (dS hv (i+1))).2;rw[show(vs.take (i+1)).length=i+1 by rw[gR];omega]at v1;exact agj (gH (i+1)) (ez _ (dS (fR F j) (i+2))).1 v1 p z r3
  refine Ns (Qb (r:=iA (At y)) (u0:=x.getD (j+i) 0) (u1:=x.getD (j+(i+1)) 0) (v2:=vs.getD i 0) hds O hp m.1 m.2 L.1 L.2 hy g.2 (eg hv _) (eg F _) (eg F _) R.1 ?_ hn2 O H hvl O K P K K K (by rw[<-u,<-S];exact r3));intro q q0 q1 t o;rw[<-u,<-S]at t o;refine Qd hds hsb hrest hn hn2 hsz hcu H hvl h k F hv hh ⟨q0,q1⟩ hj t o ?_;intro s l w a1 a2 a3 a4 a5 a6 a7 a8 a9;exact hk s l w a1 a2 a3 a4 a5 (Ks r2 a7 a8) a8 a9
theorem Vg:letI a:=M+n;letI c:U:= .u64;letI d:=val (vs.take n);letI e:V:= .s (E (4,0)) (n+1) ch;letI f:dI:=⟨.ws c vs,tv⟩;∀(k:Nat)(C x v:List Int),k<=M->M+n<=x.length->n+1<=v.length->M<=C.length->dG x->dG v->dG C->val (x.take a)<d*pw k->
    (∀(o l w:List Int),l.length=x.length->w.length=v.length->o.length=C.length->dG l->dG w->dG o->val (l.take a)<d->o.drop k=C.drop k->
     val (x.take a)=val (l.take a)+d*val (o.take k)->l.drop a=x.drop a->
     Ev B CD 157 201 b ds TO [(0,.s (E (0,0)) M cq),(1,.p (E (1,0))),(2,.s (E (2,0)) a cu),(3,.s (E (3,0)) n cv),(8,.i .i64 (n:Int)),(9,.i .i64 (M:Int)),(10,e),(11,.i c y),(12,.i c (iA (At y))),(13,.i c (l.getD (n-1) 0)),(14,.i .i64 (-1))] (⟨.ws c o,tq⟩::sb::⟨.ws c l,tu⟩::f::⟨.ws c w,th⟩::rest) Q)->
    Ev B CD 157 201 b ds TO [(0,.s (E (0,0)) M cq),(1,.p (E (1,0))),(2,.s (E (2,0)) a cu),(3,.s (E (3,0)) n cv),(8,.i .i64 (n:Int)),(9,.i .i64 (M:Int)),(10,e),(11,.i c y),(12,.i c (iA (At y))),(13,.i c (x.getD (k+n-1) 0)),(14,.i .i64 ((k:Int)-1))] (⟨.ws c C,tq⟩::sb::⟨.ws c x,tu⟩::f::⟨.ws c v,th⟩::rest) Q:=by
  intro k
  induction k with
  |zero=>
   intro C x v _ H h q F P z u R;have:=R C x v K K K F P z (by simpa[pw]using u) K (by simp[val]) K;rw[ir];exact this
  |succ k L=>
   intro C x v T H h q F P z u R;have e1:k+1+n-1=k+n:=O;have e2:((k+1:Nat):Int)-1=(k:Int):=O;rw[e1,e2];refine T5 hds hsb hrest hn hn2 hsz hcu hvl hv ey hy H h q F P O u ?_;intro s j p a1 a2 a3 a4 a5 a6 a7 a8;refine L (C.set k s) j p O O O (by rw[gU];omega) a3 a4 (gu z a5) a6 ?_;intro S r m b1 b2 b3 b4 b5 b6 b7 t b9 i;rw[gU]at b3
   have hd:S.getD k 0=s:=by
     have g:S.getD k 0=(S.drop k).getD 0 0:=by rw[pF];rfl
     rw[g,t,pF,j3,ie,qj O];rfl
   refine R S r m O O O b4 b5 b6 b7 ?_ ?_ (i.trans a8)
   .have g:=kC (kw 1) t;rw[lR,lR]at g;rw[g,B9 O]
   .rw [eL,hd,fh,<-wO,<-b9,a7];have:(val (vs.take n))*(pw k*s)=pw k*(s*(val (vs.take n))):=by rw[um,eD (val (vs.take n)) s]
    omega
end
def Ev.aHh{H:Ds}(h:Ev B CD 157 n b H t e m Q):Ev B CE 157 n b H t e m Q:=h
def Qg{cq c cv ch b:Nat}{y:Int}{qs v:List Int}{tq R tv z:es}{P:dI}{F:dE}{ds:Ds}{Q:V->dE->Prop}(j:jv (F.length+1+1+1+1+1) ds=G)(u:mZ (F.length+1+1+1+1+1) P.c=G)(q:ek (F.length+1+1+1+1+1) F=G)(hn:n+1<=ch)(am:2<=n)(al:M+n<1048576)(an:M+n<=c)(ah:n<=L.length)(hv:dG L)(hy:9223372036854775808<=y)(ag:y<18446744073709551616)(t:M+n<=x.length)(ak:n+1<=v.length)(i:dG x)(hh:dG v)(ht:x.getD (M+n-1) 0<y):letI a:V:= .i .i64 (M:Int);letI d:U:= .u64;letI e:=M+n;letI f:V:= .s (E (4,0)) (n+1) ch;letI g:dI:=⟨.ws d qs,tq⟩;letI h:dI:=⟨.ws d L,tv⟩;∀(hk: ∀(l w:List Int),l.length=x.length->w.length=v.length->dG l->dG w->val (l.take e)=val (x.take e)->l.drop e=x.drop e->
     Ev B CD 157 201 b ds TO [(0,.s (E (0,0)) M cq),(1,.p (E (1,0))),(2,.s (E (2,0)) e c),(3,.s (E (3,0)) n cv),(8,.i .i64 (n:Int)),(9,a),(10,f),(11,.i d y),(12,.i d (iA (At y))),(13,.i d (l.getD (M+n-1) 0)),(14,.i .i64 ((M:Int)-1))] (g::P::⟨.ws d l,R⟩::h::⟨.ws d w,z⟩::F) Q),Ev B CD 157 201 b ds TO [(0,.s (E (0,0)) M cq),(1,.p (E (1,0))),(2,.s (E (2,0)) e c),(3,.s (E (3,0)) n cv),(8,.i .i64 (n:Int)),(9,a),(10,f),(11,.i d y),(12,.i d (iA (At y))),(13,.i d 0),(14,a)] (g::P::⟨.ws d x,R⟩::h::⟨.ws d v,z⟩::F) Q:=by
  intro hk;have i1:U.i64.wrap ((M:Int)+((n+1:Nat):Int))=((M+n+1:Nat):Int):=jw;have i5:U.i64.wrap (((n+1:Nat):Int)-1)=(n:Int):=jw;have i3:U.i64.wrap ((M:Int)+(n:Int))=((M+n:Nat):Int):=jw;have i2:U.i64.wrap (((M+n:Nat):Int)-1)=((M+n-1:Nat):Int):=jw;have i6:U.i64.wrap (((M+n:Nat):Int)-2)=((M+n-2:Nat):Int):=jw;have i7:U.i64.wrap ((n:Int)-2)=((n-2:Nat):Int):=jw;have i4:U.i64.wrap ((M:Int)-1)=(M:Int)-1:=iy O;have k:eO 0 c M 1=M:=by rw[kE O];omega
  have d2:M+n-M=n:=O;have uw:gn (x.getD (M+n-1) 0):=eg i _;have vw:gn (L.getD (n-2) 0):=eg hv _;have o:x.getD (M+n-1) 0/y=0:=CL uw.1 ht;have r:x.getD (M+n-1) 0%y=x.getD (M+n-1) 0:=og uw.1 ht
  have o1:DL [0,x.getD (M+n-1) 0,y,iA (At y)]=G:=by simp only[DL,eG];exact⟨O,O,uw,ag,dD⟩
  have o2:m6 [0,L.getD (n-2) 0]=G:=by simp only[m6,eG];exact⟨se,vw⟩
  have aj:((0:Int)!=y)=G:=gp;refine Ns (fa (eB yE) (Zm M n cq c cv ch M y (iA (At y)) 0 qs x L v tq R tv z P F) ?_ j ?_)
  .simp only[i3,i2,i6,i7,dU,mN,mO,o,r,o1,o2,aj];simp only[dK,dJ,eu,ew,Nat.reduceAdd,Nat.reduceLT];omega
  simp only[i3,i2,i6,i7,dU,mN,mO,o,r,Int.zero_ediv,Int.zero_emod];refine fa (eB yE) (Gr M n cq c cv ch M y (iA (At y)) 0 (x.getD (M+n-1) 0) (L.getD (n-2) 0) 0 0 (x.getD (M+n-2) 0) qs x L v tq R tv z P F) ?_ j ?_
  .have:=(eg i (M+n-2)).1;have:=uw.1;simp only[dK,dJ,eu,ew,Nat.reduceAdd,Nat.reduceLT];omega
  obtain⟨H,hH⟩: ∃H,H=(dC v (jX 0 0 (L.take n)).1 0).set n (jX 0 0 (L.take n)).2:=⟨_,K⟩
  obtain⟨ab,C,aa⟩:=K4 hv hh se ah ak hH;obtain⟨S,hS⟩: ∃S,S=jQ 0 ((x.drop M).take n) (H.take n):=⟨_,K⟩
  have m2:=(uc 0 (L.take n) 0).2;rw[show(L.take n).length=n by rw[gR];omega]at m2;have lhs:(dC v (jX 0 0 (L.take n)).1 0).length=v.length:=by rw[fE,m2];omega
  rw[eL,mN]at aa;have h1:=(ez _ (dS C n)).1;have h2:=(eg C n).1
  have h3:H.getD n 0=0:=by
    rcases k9 (H.getD n 0) 1 with h|h
    .omega
    .have:=gF h (gA (gH n));have:=gH n;omega
  rw[h3,o4,jP]at aa;have lA:((x.drop M).take n).length=n:=by rw[gR,jK];omega
  have lY:(H.take n).length=n:=rK;obtain⟨s1,m,s3,s4⟩:=pR ((x.drop M).take n) (H.take n) 0 O (dS (fR i M) _) (dS C _) O O;have sw:=qu ((x.drop M).take n) (H.take n) 0;rw[<-hS]at s1 m s3 s4 sw;rw[lA]at s1 m;have a0:=(ez _ (dS (fR i M) n)).1;have s5:=(ez _ sw).2;rw[m]at s5
  have hb:S.2=0:=by
    rcases k9 S.2 1 with h|h
    .omega
    .have:S.2=1:=O;rw[this,jT]at s1;omega
  rw[hb,mN]at s1;have p:(dC x S.1 M).length=x.length:=by rw[fE,m];omega
  have s:val ((dC x S.1 M).take (M+n))=val (x.take (M+n)):=by rw[kS O t,m,(O:val S.1-val ((x.drop M).take n)=0),o4,jP]
  have ad:Nat.beq 2 4=A:=K;have af:Nat.beq 2 2=G:=K;have ae:Nat.beq 2 3=A:=K;have ac:Nat.beq 4 3=A:=K;have T:=u;unfold mZ at T;refine Ev.aHh (fa (eB QG) (aEz M n cq c cv ch M y (iA (At y)) 0 qs x L v tq R tv z P F) ?_ j ?_)
  .simp only[i1,i3,i5,i2,i4,k,dU,d2,gh,jo,<-hH,<-hS,hb];simp only[p,lhs,ab,h3];simp only[dK,dJ,eu,ew,Nat.reduceAdd,Nat.reduceLT,u,q,i,hv,C,se,m,m2,gR,jK];clear hk;simp+decide only[T,ad,af,ae,ac,gq,gr,iO,Dd,BH,eG,eT,fV,im];omega
  .simp only[i1,i3,i5,i2,i4,k,dU,d2,gh,jo,<-hH,<-hS];exact hk _ H p ab (eS i sw) C s (qT O t)
noncomputable abbrev Gq:List (Nat×jB):=(154,inl g0 LV LQ f154 [G])::LV
abbrev G1:List (Nat×QF):=(175,ace)::LQ
noncomputable abbrev TB1:List Item:=dF 3 4 (dB f157) []
def xZ:fl g0 Gq:=yF (uJ g0) 154 f154 [G] I I I
def xO(R:Nat->Option Nat):gf R G1:=⟨⟨ga f175,Mv R⟩,jF R⟩
def aFg(M n p Q k:Nat)(C x L:List Int)(e y R S:es):letI a:dE:=[⟨.ws .u64 C,e⟩,⟨.lit [.p N],y⟩,⟨.ws .u64 x,R⟩,⟨.ws .u64 L,S⟩];letI b:V:= .p (E (1,0));letI c:V:= .s (E (2,0)) (M+n) Q;letI d:=ep g0 Gq G1;(match eC d f157.ntmps 200 [0,1,2,3,8,9,30,32] [.code (dB f157)] ⟨[(0,.s (E (0,0)) M p),(1,b),(2,c),(3,.s (E (3,0)) n k)],a,[],[]⟩with|(v,T,q,f)=>(pe d v T,iF v,T,q,f))=(E (153,[b,.i .i64 0]),dF 2 4 (dB f157) [],[(0,.s (E (0,0)) M p),(1,b),(2,c),(3,.s (E (3,0)) n k),(8,.i .i64 (n:Int)),(9,.i .i64 (U.i64.wrap ((↑(M+n):Int)-(n:Int)))),(30,b),(32,.i .i64 0)],a,[G,G,G]):=I
def aqq(M n p Q k:Nat)(C x L:List Int)(T y R S:es):letI a:dE:=[⟨.ws .u64 C,T⟩,⟨.lit [.p N],y⟩,⟨.ws .u64 x,R⟩,⟨.ws .u64 L,S⟩];letI b:V:= .i .i64 (U.i64.wrap ((n:Int)+1));letI c:V:= .p (E (1,0));letI d:V:= .s (E (2,0)) (M+n) Q;letI e:=ep g0 Gq G1;(mW e (eC e f157.ntmps 200 [0,1,2,3,8,9,33,35] (dF 2 4 (dB f157) []) ⟨[(0,.s (E (0,0)) M p),(1,c),(2,d),(3,.s (E (3,0)) n k),(8,.i .i64 (n:Int)),(9,.i .i64 (M:Int))],a,[],[]⟩))=(E (156,([c,b],E 36)),TB1,[(0,.s (E (0,0)) M p),(1,c),(2,d),(3,.s (E (3,0)) n k),(8,.i .i64 (n:Int)),(9,.i .i64 (M:Int)),(33,c),(35,b)],a,[]):=I
def aRo(M n p Q k s:Nat)(C x L v:List Int)(T R S z:es)(P:dI)(F:dE):letI f:=(n:Int);letI a:Int:=U.i64.wrap (f-1);letI b:dE:=⟨.ws .u64 C,T⟩::P::⟨.ws .u64 x,R⟩::⟨.ws .u64 L,S⟩::⟨.ws .u64 v,z⟩::F;letI c:Int:=L.getD a.toNat 0;letI d:V:= .s (E (2,0)) (M+n) Q;letI e:V:= .s (E (4,0)) (n+1) s;(oS (eC (ep g0 Gq G1) f157.ntmps 200 [0,1,2,3,8,9,10,11,12,13,14] TB1 ⟨[(0,.s (E (0,0)) M p),(1,.p (E (1,0))),(2,d),(3,.s (E (3,0)) n k),(8,.i .i64 (n:Int)),(9,.i .i64 (M:Int)),(36,e)],b,[],[]⟩))=(TO,[(0,.s (E (0,0)) M p),(1,.p (E (1,0))),(2,d),(3,.s (E (3,0)) n k),(8,.i .i64 f),(9,.i .i64 (M:Int)),(10,e),(11,.i .u64 c),(12,.i .u64 (iA (At c))),(13,.i .u64 0),(14,.i .i64 (M:Int))],b,[H4 [c],D (a.toNat<L.length),D (0<=a/\a<f)]):=I
def aiu(M n p Q k s:Nat)(y r u:Int)(C x L v:List Int)(T R S z:es)(P:dI)(F:dE):letI a:dE:=⟨.ws .u64 C,T⟩::P::⟨.ws .u64 x,R⟩::⟨.ws .u64 L,S⟩::⟨.ws .u64 v,z⟩::F;(oS (eC (ep g0 Gq G1) f157.ntmps 200 [] TO ⟨[(0,.s (E (0,0)) M p),(1,.p (E (1,0))),(2,.s (E (2,0)) (M+n) Q),(3,.s (E (3,0)) n k),(8,.i .i64 (n:Int)),(9,.i .i64 (M:Int)),(10,.s (E (4,0)) (n+1) s),(11,.i .u64 y),(12,.i .u64 r),(13,.i .u64 u),(14,.i .i64 (-1))],a,[A],[]⟩))=(([]:List Item),[],a,[G]):=I
def Ev.ofL{H:Ds}(h:Ev B CD 157 n b H t e m Q):Ev B (ep g0 Gq G1) 157 n b H t e m Q:=h
def Ev.aCr{H:Ds}(h:Ev B (ep g0 Gq G1) 157 n b H t e m Q):Ev B CD 157 n b H t e m Q:=h
def aje{c:List Int}(x:1<=n)(F:dG c)(Q:dG L)(H:M+n<=c.length)(r:c.getD (M+n-1) 0<L.getD (n-1) 0):val (c.take (M+n))<val (L.take n)*pw M:=by
  obtain⟨i,rfl⟩: ∃i,n=i+1:=⟨n-1,O⟩
  rw[<-uY]at r H⊢;simp only[oW]at r;rw[eL,eL];have a:=(ez _ (dS F (M+i))).2;have b:=(ez _ (dS Q i)).1;rw[show(c.take (M+i)).length=M+i by rw[gR];omega]at a;have d:pw (M+i)=pw i*pw M:=by rw[uq,eD]
  have S:=gF (O:c.getD (M+i) 0+1<=L.getD i 0) (gA (gH (M+i)));rw[fh,jU]at S;have l:=jL b (gA (gH M));rw[jN];have u:pw i*L.getD i 0*pw M=pw (M+i)*L.getD i 0:=by rw[d,fO,fO,eD (L.getD i 0)]
  omega
def Nc{cq t k s b:Nat}{C v:List Int}{T R y z:es}{P:dI}{F:dE}{ds:Ds}{Q:V->dE->Prop}(j:jv (F.length+1+1+1+1+1) ds=G)(h:mZ (F.length+1+1+1+1+1) P.c=G)(q:ek (F.length+1+1+1+1+1) F=G)(hn:n+1<=s)(f:2<=n)(c:M+n<1048576)(i:M+n<=t)(ae:n<=k)(g:n<=L.length)(H:M+n<=x.length)(ac:n+1<=v.length)(ab:M<=C.length)(hu:dG x)(p:dG L)(hh:dG v)(hq:dG C)(hy:9223372036854775808<=L.getD (n-1) 0)(ht:x.getD (M+n-1) 0<L.getD (n-1) 0):letI a:=M+n;letI d:dI:=⟨.ws .u64 L,y⟩;letI e:=ep g0 Gq G1;∀(hk: ∀(o l w:List Int),l.length=x.length->w.length=v.length->o.length=C.length->dG l->dG w->dG o->val (l.take a)<val (L.take n)->
      val (x.take a)=val (l.take a)+val (L.take n)*val (o.take M)->l.drop a=x.drop a->o.drop M=C.drop M->
      Ev B e 157 201 b ds [] [] (⟨.ws .u64 o,T⟩::P::⟨.ws .u64 l,R⟩::d::⟨.ws .u64 w,z⟩::F) Q),Ev B e 157 201 b ds TB1 [(0,.s (E (0,0)) M cq),(1,.p (E (1,0))),(2,.s (E (2,0)) a t),(3,.s (E (3,0)) n k),(8,.i .i64 (n:Int)),(9,.i .i64 (M:Int)),(36,.s (E (4,0)) (n+1) s)]
      (⟨.ws .u64 C,T⟩::P::⟨.ws .u64 x,R⟩::d::⟨.ws .u64 v,z⟩::F) Q:=by
  intro hk;have i1:U.i64.wrap ((n:Int)-1)=((n-1:Nat):Int):=jw;have vw:gn (L.getD (n-1) 0):=eg p _;refine fa (gK xZ (xO _)) (aRo M n cq t k s C x L v T R y z P F) ?_ j ?_
  .have o1:H4 [L.getD (n-1) 0]=G:=by simp only[H4,eG];exact⟨O,vw.2⟩
   simp only[i1,dU,o1];simp only[dK,dJ,eu,ew,Nat.reduceAdd,Nat.reduceLT];omega
  simp only[i1,dU];refine Ev.ofL (Qg j h q hn f c i g p hy vw.2 H ac hu hh ht ?_);intro u aa a1 a2 a3 a4 a5 a6;refine Vg j h q hn f c i g p K hy M C u aa (eT _) O O ab a3 a4 hq (by rw[a5];exact aje O hu p H ht) ?_;intro S r m b1 b2 b3 b4 b5 b6 b7 b8 b9 ad;refine Ev.aCr (fa (gK xZ (xO _)) (aiu M n cq t k s _ _ _ S r L m T R y z P F) K j ?_);exact hk S r m O O b3 b4 b5 b6 b7 (by rw[<-a5];exact b9) (ad.trans a6) b8
def nW:eo B 153:=ga f153
def aKt(y:es)(M n:Nat)(C x L:List Int)(T R S:es)(_r:V)(u:dE):Prop:=
  ∃
   o l P F,u=⟨.ws .u64 o,T⟩::P::⟨.ws .u64 l,R⟩::⟨.ws .u64 L,S⟩::F/\kX y P F 4/\o.length=C.length/\l.length=x.length/\dG o/\dG l/\
   val (l.take (M+n))<val (L.take n)/\val (x.take (M+n))=val (l.take (M+n))+val (L.take n)*val (o.take M)/\l.drop (M+n)=x.drop (M+n)/\o.drop M=C.drop M
def Bx{Q k:Nat}{C:List Int}{b y R S:es}(s:2<=n)(aa:n<=4)(c:M+n<1048576)(d:M+n<=Q)(t:n<=k)(g:n<=L.length)(H:M+n<=x.length)(q:M<=C.length)(hu:dG x)(hv:dG L)(hq:dG C)(hy:9223372036854775808<=L.getD (n-1) 0)(ht:x.getD (M+n-1) 0<L.getD (n-1) 0):
    eM B g0 157 [.s (E (0,0)) M p,.p (E (1,0)),.s (E (2,0)) (M+n) Q,.s (E (3,0)) n k] [⟨.ws .u64 C,b⟩,⟨.lit [.p N],y⟩,⟨.ws .u64 x,R⟩,⟨.ws .u64 L,S⟩] (aKt y M n C x L b R S):=by
  have i1:U.i64.wrap (((M+n:Nat):Int)-(n:Int))=(M:Int):=jw;have i2:U.i64.wrap ((n:Int)+1)=((n+1:Nat):Int):=jw;refine dL (ep g0 Gq G1) f157 ?_;refine nV (gK xZ (xO _)) 200 [] [0,1,2,3,8,9,30,32] _ (aFg M n p Q k C x L b y R S) K K ?_;rw[i1];refine Ev.fq [0,1,2,3,8,9] ?_;rcases ju n 4 with h4|h4
  .refine dY (gK xZ (xO _)) (aqq M n p Q k C x L b y R S) K K K sf
     (Q1:=λr u=> ∃T,n+1<=T/\r= .s (E (4,0)) (n+1) T/\u=[⟨.ws .u64 C,b⟩,⟨.lit [.p N],y⟩,⟨.ws .u64 x,R⟩,⟨.ws .u64 L,S⟩,⟨.ws .u64 ((lc T 0).set 0 11259375),137⟩]) ?_ K ?_
   .rw [i2];refine((pj y (n+1) O O).lift (gl:=g0) (m:=[⟨.ws .u64 C,b⟩,⟨.lit [.p N],y⟩,⟨.ws .u64 x,R⟩,⟨.ws .u64 L,S⟩]) [1] ⟨K,K,dD⟩ Y (λ_ _ h=>by cases h) K).mono ?_;rintro r u⟨r0,e,⟨T,f,rfl,rfl⟩,_,rfl,rfl⟩;exact⟨T,f,K,K⟩
   rintro r u⟨T,f,rfl,rfl⟩_;refine⟨_,K,?_⟩;refine Ev.fq [0,1,2,3,8,9,36] ?_;refine Nc (v:=(lc T 0).set 0 11259375) K K K f s c d t g H gp q hu hv (gu (dP _) ⟨O,O⟩) hq hy ht ?_;intro o l w b1 b2 b3 b4 b5 b6 P F z j;refine F2 (fn:=f157) (r:= .t []) I K nW K K (sZ (q:=[⟨.ws .u64 o,b⟩,⟨.lit [.p N],y⟩,⟨.ws .u64 l,R⟩,⟨.ws .u64 L,S⟩]) (F:=[⟨.ws .u64 w,137⟩]) (i:=1) K (.inl ⟨K,w,137,K⟩) K) ?_;rintro r1 m1⟨a,rfl,v,_⟩;exact⟨o,l,_,a,K,v,b3,b1,b6,b4,P,F,z,j⟩
  .obtain rfl:n=4:=O
   refine dY (gK xZ (xO _)) (aqq M 4 p Q k C x L b y R S) K K K sf
     (Q1:=λr u=> ∃T,8<=T/\r= .s (E (5,0)) 5 5/\u=[⟨.ws .u64 C,b⟩,⟨.lit [.p (E (4,0))],y⟩,⟨.ws .u64 x,R⟩,⟨.ws .u64 L,S⟩,⟨.lit [.s (E (5,0)) 8 T],219⟩,⟨.ws .u64 ((lc T 0).set 0 1043915),137⟩]) ?_ K ?_
   .rw [(J:U.i64.wrap (((4:Nat):Int)+1)=5)];refine((PN y).lift (gl:=g0) (m:=[⟨.ws .u64 C,b⟩,⟨.lit [.p N],y⟩,⟨.ws .u64 x,R⟩,⟨.ws .u64 L,S⟩]) [1] ⟨K,K,dD⟩ Y (λ_ _ h=>by cases h) K).mono ?_;rintro r u⟨r0,e,⟨T,f,rfl,rfl⟩,_,rfl,rfl⟩;exact⟨T,f,K,K⟩
   rintro r u⟨T,f,rfl,rfl⟩_;refine⟨_,K,?_⟩;refine Ev.fq [0,1,2,3,8,9,36] ?_
   refine kL [0,1,2,3,5,4] [(153,[.p (E (1,0)),.i .i64 0])] [(0,.s (E (0,0)) M p),(1,.p (E (1,0))),(2,.s (E (2,0)) (M+4) Q),(3,.s (E (3,0)) 4 k),(8,.i .i64 ((4:Nat):Int)),(9,.i .i64 (M:Int)),(36,.s (E (4,0)) (4+1) 5)]
     [⟨.ws .u64 C,b⟩,⟨.lit [.p (E (5,0))],y⟩,⟨.ws .u64 x,R⟩,⟨.ws .u64 L,S⟩,⟨.ws .u64 ((lc T 0).set 0 1043915),137⟩,⟨.lit [.s (E (4,0)) 8 T],219⟩]
     (λ_ _ h=>by cases h) K ⟨λ_=>rfl,λ_=>rfl,λ_=>rfl,λ_=>rfl,λ_=>rfl,λ_=>rfl,dD⟩ K (J:([0,1,2,3,5,4]:List Nat).Nodup) K K ?_
   refine Nc (v:=(lc T 0).set 0 1043915) (F:=[⟨.lit [.s (E (4,0)) 8 T],219⟩]) K K K O s c d t g H gp q hu hv (gu (dP _) ⟨O,O⟩) hq hy ht ?_;intro o l w b1 b2 b3 b4 b5 b6 P F z j;refine F2 (fn:=f157) (r:= .t []) I K nW K K (sZ (q:=[⟨.ws .u64 o,b⟩,⟨.lit [.p (E (5,0))],y⟩,⟨.ws .u64 l,R⟩,⟨.ws .u64 L,S⟩]) (F:=[⟨.ws .u64 w,137⟩,⟨.lit [.s (E (4,0)) 8 T],219⟩]) (i:=1) K (.inr ⟨K,w,137,8,T,219,K⟩) K) ?_;rintro r1 m1⟨a,rfl,v,_⟩;exact⟨o,l,_,a,K,v,b3,b1,b6,b4,P,F,z,j⟩
def pE{x:Int}(L:0<x)(d:gn x)(v:s=64-(bitLen x.toNat:Int)):0<=s/\s<64/\9223372036854775808<=x*pS s/\(0<s->x/qS s=0):=by
  obtain⟨n,rfl⟩:=fy (gA L);have b:n≠0:=by intro h;subst h;simp at L
  have M:=Nat.log2_self_le b;have S:=Nat.lt_log2_self (n:=n)
  have q:n.log2<64:=by
    rcases ju n.log2 64 with h|h
    .exact h
    .have:=zU (n:=2) O h;have:=d.2;omega
  have H:bitLen n=n.log2+1:=by simp[bitLen,b]
  rw[dU,H]at v;have a:s.toNat=63-n.log2:=O;refine⟨O,O,?_,λ_=>?_⟩
  .have e:pS s=((2^(63-n.log2):Nat):Int):=by rw[pS,a];simp
   rw[e];have l:2^n.log2*2^(63-n.log2)=9223372036854775808:=by rw[<-nu,(O:n.log2+(63-n.log2)=63)]
   have u:=Gm (2^(63-n.log2)) M;rw[l]at u;rw[<-lJ];exact Int.ofNat_le.2 u
  .have e:qS s=((2^(n.log2+1):Nat):Int):=by rw[qS,a,(O:64-(63-n.log2)=n.log2+1)];simp
   rw[e,<-xe,zC S];rfl
def MY(M:s<64):0<pS s/\pS s<=9223372036854775808:=by
  have e:pS s=((2^s.toNat:Nat):Int):=by simp[pS]
  rw[e];have S:=zU (n:=2) O (O:s.toNat<=63);have l:=Cl (n:=s.toNat) (O:0<2);exact⟨BJ.2 l,Int.ofNat_le.2 S⟩
def U8:pS 0=1:=rfl
def front{R:List Int}(_:R.length<=F.length):(dC F R 0).take R.length=R:=by rw[iz,jO rfl]
def rU(h:i<n):(l.take n).getD i 0=l.getD i 0:=by simp only[ie,nF,h,oH]
def Mp{p t:Int}(x:1<=n)(f:n<=l.length)(e:dG l)(Q:val (l.take n)=w*p)(g:0<p)(H:pw (n-1)*t<=w)(r:9223372036854775808<=t*p):9223372036854775808<=l.getD (n-1) 0:=by
  obtain⟨i,rfl⟩: ∃i,n=i+1:=⟨n-1,O⟩
  simp only[oW]at*;rw[eL]at Q;have a:=(ez _ (dS e i)).2;rw[show(l.take i).length=i by rw[gR];omega]at a;have b:=qg H (gA g);have c:=gF r (gA (gH i));rw[<-fO]at c;have d:pw i*9223372036854775808<pw i*(l.getD i 0+1):=by rw[fh];omega
  have:=Le d (gA (gH i));omega
def vh(x:1<=n)(d:dG l):pw (n-1)*l.getD (n-1) 0<=val (l.take n):=by
  obtain⟨i,rfl⟩: ∃i,n=i+1:=⟨n-1,O⟩
  simp only[oW];rw[eL];have:=(ez _ (dS d i)).1;omega
def MS(C:0<s)(M:s<64)(x:1<=n)(L:n<=H.length)(S:dG H):letI a:Int:=(jc s (λj=>H.getD (0+j) 0) n).2;letI b:List Int:=row (jc s (λj=>H.getD (0+j) 0) n).1 n;val b+a*pw n=val (H.take n)*pS s/\dG b/\
      a=H.getD (n-1) 0/qS s/\0<=a/\a<pS s:=by
  obtain⟨g,z,y⟩:=pq s C M;obtain⟨i,rfl⟩: ∃i,n=i+1:=⟨n-1,O⟩
  have d: ∀j,gn (H.getD (0+j) 0):=λj=>eg S _
  have h:=GR g z y (λj=>H.getD (0+j) 0) i;have e:H.take (i+1)=row (λj=>H.getD (0+j) 0) (i+1):=by simp only[ir];exact sn L
  have c:=E1 g z y (H.getD (0+i) 0) (d i);unfold jc;simp only[oW];exact⟨by rw[e];exact h,vG λj _=>Ng g z y _ d j,by rw[ir],c.1,c.2⟩
def ScV(p:Int)(n:Nat)(a L t:List Int):Prop:=t.length=L.length/\dG t/\val (t.take n)=val (a.take n)*p/\9223372036854775808<=t.getD (n-1) 0
def ZA{p:List Int}(C:0<s)(x:1<=n)(Q:n<=L.length)(b:n<=p.length)(q:dG L)(a:dG p)(r:0<p.getD (n-1) 0)(v:s=64-(bitLen (p.getD (n-1) 0).toNat:Int)):
    ScV (pS s) n p L (dC L (row (jc s (λj=>p.getD (0+j) 0) n).1 n) 0):=by
  obtain⟨F,y,H,M⟩:=pE r (eg a _) v;obtain⟨P,d,c,_⟩:=MS C y x b a;have f:=front (F:=L) (R:=row (jc s (λj=>p.getD (0+j) 0) n).1 n) (by rw[fD];exact Q);rw[fD]at f;rw[c,M C,mN,jP]at P;have l:(dC L (row (jc s (λj=>p.getD (0+j) 0) n).1 n) 0).length=L.length:=fP (by rw[fD];omega);have w:=eS q d (o:=0);refine⟨l,w,by rw[f,P],Mp x O w (by rw[f,P]) (MY y).1 (vh x a) H⟩
def PQ{p:List Int}(x:1<=n)(Q:n<=L.length)(a:n<=p.length)(q:dG L)(j:dG p)(r:0<p.getD (n-1) 0)(v:(0:Int)=64-(bitLen (p.getD (n-1) 0).toNat:Int)):
    ScV 1 n p L (dC L (jp n (kw 0 p)) 0):=by
  obtain⟨F,y,H,_⟩:=pE r (eg j _) v;rw[U8]at H;rw[gh];have C:(p.take n).length=n:=rK;have f:=front (F:=L) (R:=p.take n) (by rw[C];exact Q);rw[C]at f;have l:(dC L (p.take n) 0).length=L.length:=fP (by rw[C];omega);have w:=eS q (dS j n) (o:=0);refine⟨l,w,by rw[f,jU],Mp x O w (by rw[f,jU]) J (vh x j) H⟩
def iW{o:Nat}(h:o+r.length<=p)(e:p<=l.length):(dC l r o).drop p=l.drop p:=by
  unfold dC;rw[s6,sV gp,sP,lR]
  congr 1
  simp;omega
def Bi(h:i<p):(l.set i v).drop p=l.drop p:=by apply AP;intro j;rw[jY,jY,lI O]
def ScU(p:Int)(a:Nat)(H F T:List Int):Prop:=T.length=F.length/\dG T/\val (T.take (a+1))=val (H.take a)*p/\T.getD a 0<9223372036854775808/\T.drop (a+1)=F.drop (a+1)
def EY{R:List Int}{c:Int}(h:R.length<F.length):((dC F R 0).set R.length c).take (R.length+1)=R++[c]:=by
  rw[iz,wT _ _ (eT _),wZ];rw[JQ,sQ O,(O:R.length+1-R.length=1)]
  obtain⟨a,l,f⟩: ∃a l,F.drop R.length=a::l:=by
    cases z:F.drop R.length with
    |nil=>have:=kC List.length z;simp at this;omega
    |cons a l=>exact⟨a,l,K⟩
  rw[f];rfl
def Zo(C:0<s)(M:s<64)(e:1<=p)(o:p<F.length)(L:p<=H.length)(a:dG F)(S:dG H):
    ScU (pS s) p H F ((dC F (row (jc s (λj=>H.getD (0+j) 0) p).1 p) 0).set p (jc s (λj=>H.getD (0+j) 0) p).2):=by
  obtain⟨P,b,d,b4,u⟩:=MS C M e L S;have g:=MY M;generalize jc s (λj=>H.getD (0+j) 0) p=v at*;have f:=EY (F:=F) (R:=row v.1 p) (c:=v.2) (by rw[fD];exact o);rw[fD]at f;have l:(dC F (row v.1 p) 0).length=F.length:=fP (by rw[fD];omega);refine⟨by rw[gU,l],gu (eS a b) ⟨b4,O⟩,?_,?_,by rw[Bi O,iW (by rw[fD];omega) O]⟩
  .rw [f,gb,fD];simp only[val,o4,jP];rw[eD (pw p)];exact P
  .rw [ie,qj (by rw[l];exact o)];simp only[CN];omega
def P1(o:p<F.length)(L:p<=H.length)(u:dG F)(S:dG H):
    ScU 1 p H F ((dC F (jp p (kw 0 H)) 0).set p 0):=by
  rw[gh];have C:(H.take p).length=p:=rK;have f:=EY (F:=F) (R:=H.take p) (c:=0) (by rw[C];exact o);rw[C]at f;have l:(dC F (H.take p) 0).length=F.length:=fP (by rw[C];omega);refine⟨by rw[gU,l],gu (eS u (dS S p)) ⟨O,O⟩,?_,?_,by rw[Bi O,iW (by rw[C];omega) O]⟩
  .rw [f,gb,C];simp only[val,o4,jP,jU]
  .rw [ie,qj (by rw[l];exact o)];simp only[CN];omega
def yD{W p R Q:Int}(g:0<p)(h:W*p=R+w*p*Q)(C:0<=R)(M:R<w*p):R/p=W%w/\0<w/\Q=W/w:=by
  have e:R=p*(W-w*Q):=by rw[pU,eD p W,<-fO,eD p w];omega
  have S:R/p=W-w*Q:=by rw[e,QY _ (xk g)]
  have l:0<=W-w*Q:=by rw[<-S];exact n9 C (gA g)
  have u:W-w*Q<w:=by rw[e,eD p]at M;exact Int.lt_of_mul_lt_mul_right M (gA g)
  have y:W%w=W-w*Q:=by have:W=(W-w*Q)+w*Q:=O;rw[this,pM,og l u];omega
  refine⟨by rw[S,y],O,?_⟩;have:W=(W-w*Q)+w*Q:=O;rw[this,P9 _ _ O,CL l u,mO]
def QV(C:0<s)(M:s<64)(F:p+1<=x.length)(w:dG x):letI b:Nat:=p+1;letI a:List Int:=dC x (row (zS s (λj=>x.getD (0+j) 0) b).1 b) 0;val (a.take b)=val (x.take b)/pS s/\
      dG a/\a.length=x.length/\
      a.drop b=x.drop b:=by
  obtain⟨g,z,y⟩:=pq s C M;have d: ∀j,gn (x.getD (0+j) 0):=λj=>eg w _
  have e:x.take (p+1)=row (λj=>x.getD (0+j) 0) (p+1):=by simp only[ir];exact sn F
  have h:=Nj g z y (λj=>x.getD (0+j) 0) p;unfold zS;simp only[oW];have f:=front (F:=x) (R:=row (AX (pS s) (qS s) (λj=>x.getD (0+j) 0) p) (p+1)) (by rw[fD];exact F);rw[fD]at f;refine⟨by rw[f,e];exact h,eS w (vG λj _=>NB g z y _ d p j),fP (by rw[fD];omega),iW (by rw[fD];omega) F⟩
def iM:Nat->Int->List Int
  |0,_=>[]
  |k+1,v=>v%18446744073709551616::iM k (v/18446744073709551616)
def kR: ∀(k:Nat)(v:Int),(iM k v).length=k
  |0,_=>rfl
  |k+1,v=>by simp[iM,kR k]
def mT: ∀(k:Nat)(v:Int),dG (iM k v)
  |0,_=>λx L=>by cases L
  |k+1,v=>λx L=>by
   simp only[iM,kh]at L;rcases L with rfl|L
   .exact⟨j7 _ J,j6 _ J⟩
   .exact mT k _ x L
def xz: ∀(l:List Int),dG l->iM l.length (val l)=l
  |[],_=>rfl
  |x::l,h=>by
   have L:=h x (jt ..);have f:dG l:=λy Q=>h y (jh _ Q)
   have M:(x+18446744073709551616*val l)%18446744073709551616=x:=by rw[pM];exact og L.1 L.2
   have S:(x+18446744073709551616*val l)/18446744073709551616=val l:=by rw[P9 _ _ J,CL L.1 L.2,mO]
   simp only[eI,iM,val,M,S,xz l f]
def nL: ∀(k:Nat)(v:Int),0<=v->v<pw k->val (iM k v)=v
  |0,v,C,M=>by simp only[pw,Gp]at M;simp only[iM,val];omega
  |k+1,v,C,M=>by rw[gV]at M;simp only[iM,val];rw[nL k _ (n9 C J) (rD J (by rw[eD];exact M))];exact JS v 18446744073709551616
def gJ(p:Nat)(v:Int)(F:List Int):List Int:=iM p v++F.drop p
def ib(l:List Int)(n:Nat):Nat:=gm (λj=>l.getD j 0) n
def lD(h:p<=F.length):(gJ p v F).length=F.length:=by simp[gJ,kR];omega
def H7(h:dG F):dG (gJ p v F):=iR.2 ⟨mT p v,fR h p⟩
def TQ(C:0<=v)(M:v<pw p):val ((gJ p v F).take p)=v:=by unfold gJ;rw[jO (kR p v),nL p v C M]
def lg(f:p<=l.length)(d:dG l)(Q:val (l.take p)=v)(z:l.drop p=F.drop p):l=gJ p v F:=by have h:=xz (l.take p) (dS d p);rw[gR,qk f,Q]at h;unfold gJ;rw[h,<-z,Ae]
def yK(h:p<=F.length)(s:F.length<=9223372036854775807)(d:dG F)(C:0<=v)(M:v<pw p):fX A (gJ p v F) (ib (gJ p v F) p) v:=by have:=kO (a:=A) (n:=p) (by rw[lD h];exact h) (by rw[lD h];exact s) (H7 d) (TQ (F:=F) C M) (λh=>by cases h);exact this
def rQ:eo B 157:=ga f157
def zJ:eo B 135:=ga f135
def kr(m H:dE):ft m [] H=m:=by cases H<;>rfl
def mU{P:Program}{C s:fw}{f:FuncId}{H:Ds}(T:C.mw=s.mw)(h:Ev P C f n b H t e m Q):Ev P s f n b H t e m Q:=by unfold Ev Gl at*;rw[<-T];exact h
def DT{m lz cz:Nat}{p:List Int}{t y ty k S:es}{Q:V->dE->Prop}(ae:2<=n)(ad:n<=4)(aj:m+n<100000)(am:m+n<=cu)(al:n<=cv)(hx:m+n<=H.length)(hy:n<=p.length)(wx:dG H)(wy:dG p)(ht:0<p.getD (n-1) 0)(ak:cz<m+n+1)(hG:n<=T)(ac:n<=L.length)(wv:dG L)(hs:(0:Int)=64-(bitLen (p.getD (n-1) 0).toNat:Int))(ah:(n:Int)<z):letI f:Nat:=m+n+1;letI g:=val (H.take (m+n));letI a:List Int:=gJ f (g%val (p.take n)) (lc (dM f) 0);letI b:List Int:=gJ (m+1) (g/val (p.take n)) (lc (dM (m+1)) 0);letI c:dI:=⟨.lit [.i .i64 z],k⟩;letI d:dI:=⟨.ws .u64 H,t⟩;letI e:dI:=⟨.ws .u64 p,ty⟩;∀(hQ: ∀(aa:List Int)(P:dI)(F:dE),kX y P F 7->Q (.t [.s (E (6,0)) (ib b (m+1)) (dM (m+1)),.s (E (5,0)) (ib a f) (dM f)]) (d::P::e::c::⟨.ws .u64 aa,S⟩::⟨.ws .u64 a,137⟩::⟨.ws .u64 b,137⟩::F)),Ev B (ep (gd 3) (P2 (gd 3) oK) A8) 135 101 4 [(153,[.p (E (1,0)),.i .i64 0])] (dF 5 3 (dB f135) [])
      [(0,.s N 0 0),(1,.p (E (1,0))),(2,.s (E (0,0)) lz cz),(3,.s (E (0,0)) (m+n) cu),(4,.s (E (2,0)) n cv),(12,.i .i64 (n:Int)),(13,.i .i64 (m:Int)),(14,.i .u64 0),(33,.s (E (4,0)) n T)]
      [d,⟨.lit [.p N],y⟩,e,c,⟨.ws .u64 L,S⟩] Q:=by
  intro hQ;have i1:U.i64.wrap ((m:Int)+1)=((m+1:Nat):Int):=jw;have i2:U.i64.wrap (((m+n:Nat):Int)+1)=((m+n+1:Nat):Int):=jw;have mm: ∀a:Nat,Nat.min a a=a:=mo;obtain⟨c1,c2⟩:=gL (m+1);obtain⟨c3,c4⟩:=gL (m+n+1);obtain⟨z0,z1,_,_⟩:=pE ht (eg wy _) hs;have e:=JO m n cu cv lz cz T H p L t y ty k S z;unfold wj at e;simp only[i1,i2,dU,jo,mm]at e;have j:ScV 1 n p L (dC L (jp n (kw 0 p)) 0):=PQ O ac hy wv wy ht hs;have u:ScU 1 (m+n) H (lc (dM (m+n+1)) 0) ((dC (lc (dM (m+n+1)) 0) (jp (m+n) (kw 0 H)) 0).set (m+n) 0):=P1 (by rw[fJ];omega) hx (dP _) wx;have lv:(dC L (jp n (kw 0 p)) 0).length=L.length:=j.1
  have ab:(dC (lc (dM (m+n+1)) 0) (jp (m+n) (kw 0 H)) 0).length=dM (m+n+1):=by have:=u.1;rw[gU]at this;rw[this];exact fJ
  generalize dC L (jp n (kw 0 p)) 0=w at*
  refine dY (gK (o7 (DP _)) (mq _)) e ?_ K K rQ
    (Q1:=λ_ m'=> ∃o l P F,m'=⟨.ws .u64 H,t⟩::P::⟨.ws .u64 p,ty⟩::⟨.lit [.i .i64 z],k⟩::⟨.ws .u64 w,S⟩::⟨.ws .u64 l,137⟩::⟨.ws .u64 o,137⟩::F/\kX y P F 7/\o.length=dM (m+1)/\l.length=dM (m+n+1)/\dG l/\
      val (l.take (m+n+1))<val (w.take n)/\val (H.take (m+n))*1=val (l.take (m+n+1))+val (w.take n)*val (o.take (m+1))/\dG o/\l.drop (m+n+1)=(lc (dM (m+n+1)) 0).drop (m+n+1)/\o.drop (m+1)=(lc (dM (m+1)) 0).drop (m+1)) ?_ K ?_
  .simp only[ab,fJ];simp only[dK,dJ,ek,mZ,nd,V.wf,tQ,ew,Nat.reduceAdd,Nat.reduceLT,wx,wy];omega
  .have ag:((dC (lc (dM (m+n+1)) 0) (jp (m+n) (kw 0 H)) 0).set (m+n) 0).length=dM (m+n+1):=by rw[u.1,fJ]
   generalize(dC (lc (dM (m+n+1)) 0) (jp (m+n) (kw 0 H)) 0).set (m+n) 0=q at*;have lq:((lc (dM (m+1)) (0:Int)):List Int).length=dM (m+1):=fJ;have wq:dG (lc (dM (m+1)) (0:Int)):=dP _;generalize(lc (dM (m+1)) (0:Int))=Q0 at*;have em:m+1+n=m+n+1:=O
   have hc:=Bx (M:=m+1) (n:=n) (p:=dM (m+1)) (Q:=(dM (m+n+1))) (k:=T) (C:=Q0) (x:=q) (L:=w) (b:=137) (y:=y) (R:=137) (S:=S) ae ad O O hG O O O u.2.1 j.2.1 wq j.2.2.2
     (by have:=u.2.2.2.1;have:=j.2.2.2;rw[(O:m+1+n-1=m+n)];omega)
   rw[em]at hc;refine(hc.lift (gl:=gd 3) (m:=[⟨.ws .u64 H,t⟩,⟨.lit [.p N],y⟩,⟨.ws .u64 p,ty⟩,⟨.lit [.i .i64 z],k⟩,⟨.ws .u64 w,S⟩,⟨.ws .u64 q,137⟩,⟨.ws .u64 Q0,137⟩]) [6,1,5,4] ⟨K,K,K,K,K,K,K,K,dD⟩ J (λ_ _ h=>by cases h) K).mono ?_;rintro r m'⟨r0,af,⟨o,l,P,F,rfl,v,b1,b2,b3,b4,b5,R,b7,b8⟩,_,rfl,rfl⟩;rw[em]at b5 R b7;refine⟨o,l,dI.iU (sg [6,1,5,4] 7) P,iC (sg [6,1,5,4] 7) F,(by simp only[fW,iC,ft,kr,kw,eI,fb];rfl),v.iU (σ:=[6,1,5,4]) K 7,O,O,b4,b5,?_,b3,b7.trans u.2.2.2.2,b8⟩;rw[<-u.2.2.1];exact R
  rintro r m'⟨o,l,P,F,rfl,v,b1,b2,b4,b5,R,b3,b7,b8⟩_;refine⟨_,K,?_⟩;refine Ev.fq [1,2,10,14] ?_;obtain⟨k1,k2,_⟩:=v.wf;have pp:0<(1:Int):=J;have r0:=(ez _ (dS b4 (m+n+1))).1;rw[j.2.2.1]at b5 R;obtain⟨d1,_,d3⟩:=yD pp R r0 b5;have eQ:=lg O b3 d3 b8;rw[FH]at d1;have f3:l.length=l.length:=K;have eR:=lg O b4 d1 b7;have e2:=Ko m n (dM (m+n+1)) (dM (m+1)) H p w l o t ty k S 137 137 z P F;unfold wu at e2;simp only[ir]at e2;refine mU (C:=ep (gd 3) (P2 (gd 3) qG) A8) K ?_
  refine oN (gK (o7 (Nq _)) (mq _)) e2 ?_ K nW K
    (sZ (y:=y) (P:=P) (q:=[⟨.ws .u64 H,t⟩,P,⟨.ws .u64 p,ty⟩,⟨.lit [.i .i64 z],k⟩,⟨.ws .u64 w,S⟩,⟨.ws .u64 l,137⟩,⟨.ws .u64 o,137⟩]) (F:=F) (i:=1) K v (by simpa[ek,mZ,nd,V.wf,mE]using k1)) ?_
  .rw [(O:7+F.length=F.length+1+1+1+1+1+1+1)]at k1 k2;simp only[mZ]at k1;simp only[dK,dJ,ek,mZ,nd,V.wf,tQ,ew,Nat.reduceAdd,Nat.reduceLT,k1,k2,b4]
   first|omega|(refine⟨?_,?_⟩<;>omega)
  .rintro r1 m1⟨x,rfl,s,_⟩;rw[eR,eQ];exact hQ w P x s
def DC{m lz cz:Nat}{p:List Int}{t y ty k S:es}{Q:V->dE->Prop}(af:2<=n)(ae:n<=4)(ak:m+n<100000)(an:m+n<=cu)(am:n<=cv)(hx:m+n<=H.length)(hy:n<=p.length)(wx:dG H)(wy:dG p)(ht:0<p.getD (n-1) 0)(al:cz<m+n+1)(hG:n<=T)(ad:n<=L.length)(wv:dG L)(hs:s=64-(bitLen (p.getD (n-1) 0).toNat:Int))(s0:0<s)(aj:(n:Int)<z):letI f:Nat:=m+n+1;letI g:=val (H.take (m+n));letI a:List Int:=gJ f (g%val (p.take n)) (lc (dM f) 0);letI b:List Int:=gJ (m+1) (g/val (p.take n)) (lc (dM (m+1)) 0);letI c:dI:=⟨.lit [.i .i64 z],k⟩;letI d:dI:=⟨.ws .u64 H,t⟩;letI e:dI:=⟨.ws .u64 p,ty⟩;∀(hQ: ∀(ab:List Int)(P:dI)(F:dE),kX y P F 7->Q (.t [.s (E (6,0)) (ib b (m+1)) (dM (m+1)),.s (E (5,0)) (ib a f) (dM f)]) (d::P::e::c::⟨.ws .u64 ab,S⟩::⟨.ws .u64 a,137⟩::⟨.ws .u64 b,137⟩::F)),Ev B (ep (gd 3) (P2 (gd 3) oK) A8) 135 101 4 [(153,[.p (E (1,0)),.i .i64 0])] (dF 5 3 (dB f135) [])
      [(0,.s N 0 0),(1,.p (E (1,0))),(2,.s (E (0,0)) lz cz),(3,.s (E (0,0)) (m+n) cu),(4,.s (E (2,0)) n cv),(12,.i .i64 (n:Int)),(13,.i .i64 (m:Int)),(14,.i .u64 s),(33,.s (E (4,0)) n T)]
      [d,⟨.lit [.p N],y⟩,e,c,⟨.ws .u64 L,S⟩] Q:=by
  intro hQ;have i1:U.i64.wrap ((m:Int)+1)=((m+1:Nat):Int):=jw;have i2:U.i64.wrap (((m+n:Nat):Int)+1)=((m+n+1:Nat):Int):=jw;have mm: ∀a:Nat,Nat.min a a=a:=mo;obtain⟨c1,c2⟩:=gL (m+1);obtain⟨c3,c4⟩:=gL (m+n+1);obtain⟨z0,z1,_,_⟩:=pE ht (eg wy _) hs;have e:=JX m n cu cv lz cz T s H p L t y ty k S z;unfold wj at e;simp only[i1,i2,dU,jo,mm]at e;have sv:ScV (pS s) n p L (dC L (row (jc s (λj=>p.getD (0+j) 0) n).1 n) 0):=ZA s0 O ad hy wv wy ht hs;have u:ScU (pS s) (m+n) H (lc (dM (m+n+1)) 0) ((dC (lc (dM (m+n+1)) 0) (row (jc s (λj=>H.getD (0+j) 0) (m+n)).1 (m+n)) 0).set (m+n) (jc s (λj=>H.getD (0+j) 0) (m+n)).2):=Zo s0 z1 O (by rw[fJ];omega) hx (dP _) wx;have lv:(dC L (row (jc s (λj=>p.getD (0+j) 0) n).1 n) 0).length=L.length:=sv.1
  have ac:(dC (lc (dM (m+n+1)) 0) (row (jc s (λj=>H.getD (0+j) 0) (m+n)).1 (m+n)) 0).length=dM (m+n+1):=by have:=u.1;rw[gU]at this;rw[this];exact fJ
  generalize dC L (row (jc s (λj=>p.getD (0+j) 0) n).1 n) 0=w at*
  refine dY (gK (o7 (DP _)) (mq _)) e ?_ K K rQ
    (Q1:=λ_ m'=> ∃o l P F,m'=⟨.ws .u64 H,t⟩::P::⟨.ws .u64 p,ty⟩::⟨.lit [.i .i64 z],k⟩::⟨.ws .u64 w,S⟩::⟨.ws .u64 l,137⟩::⟨.ws .u64 o,137⟩::F/\kX y P F 7/\o.length=dM (m+1)/\l.length=dM (m+n+1)/\dG l/\
      val (l.take (m+n+1))<val (w.take n)/\val (H.take (m+n))*(pS s)=val (l.take (m+n+1))+val (w.take n)*val (o.take (m+1))/\dG o/\l.drop (m+n+1)=(lc (dM (m+n+1)) 0).drop (m+n+1)/\o.drop (m+1)=(lc (dM (m+1)) 0).drop (m+1)) ?_ K ?_
  .simp only[ac,fJ];simp only[dK,dJ,ek,mZ,nd,V.wf,tQ,ew,Nat.reduceAdd,Nat.reduceLT,wx,wy];omega
  .have ah:((dC (lc (dM (m+n+1)) 0) (row (jc s (λj=>H.getD (0+j) 0) (m+n)).1 (m+n)) 0).set (m+n) (jc s (λj=>H.getD (0+j) 0) (m+n)).2).length=dM (m+n+1):=by rw[u.1,fJ]
   generalize(dC (lc (dM (m+n+1)) 0) (row (jc s (λj=>H.getD (0+j) 0) (m+n)).1 (m+n)) 0).set (m+n) (jc s (λj=>H.getD (0+j) 0) (m+n)).2=q at*;have lq:((lc (dM (m+1)) (0:Int)):List Int).length=dM (m+1):=fJ;have wq:dG (lc (dM (m+1)) (0:Int)):=dP _;generalize(lc (dM (m+1)) (0:Int))=Q0 at*;have em:m+1+n=m+n+1:=O
   have hc:=Bx (M:=m+1) (n:=n) (p:=dM (m+1)) (Q:=(dM (m+n+1))) (k:=T) (C:=Q0) (x:=q) (L:=w) (b:=137) (y:=y) (R:=137) (S:=S) af ae O O hG O O O u.2.1 sv.2.1 wq sv.2.2.2
     (by have:=u.2.2.2.1;have:=sv.2.2.2;rw[(O:m+1+n-1=m+n)];omega)
   rw[em]at hc;refine(hc.lift (gl:=gd 3) (m:=[⟨.ws .u64 H,t⟩,⟨.lit [.p N],y⟩,⟨.ws .u64 p,ty⟩,⟨.lit [.i .i64 z],k⟩,⟨.ws .u64 w,S⟩,⟨.ws .u64 q,137⟩,⟨.ws .u64 Q0,137⟩]) [6,1,5,4] ⟨K,K,K,K,K,K,K,K,dD⟩ J (λ_ _ h=>by cases h) K).mono ?_;rintro r m'⟨r0,ag,⟨o,l,P,F,rfl,v,b1,b2,b3,b4,b5,b6,b7,b8⟩,_,rfl,rfl⟩;rw[em]at b5 b6 b7;refine⟨o,l,dI.iU (sg [6,1,5,4] 7) P,iC (sg [6,1,5,4] 7) F,(by simp only[fW,iC,ft,kr,kw,eI,fb];rfl),v.iU (σ:=[6,1,5,4]) K 7,O,O,b4,b5,?_,b3,b7.trans u.2.2.2.2,b8⟩;rw[<-u.2.2.1];exact b6
  rintro r m'⟨o,l,P,F,rfl,v,b1,b2,b4,b5,b6,b3,b7,b8⟩_;refine⟨_,K,?_⟩;refine Ev.fq [1,2,10,14] ?_;obtain⟨k1,k2,_⟩:=v.wf;have pp:0<pS s:=(MY z1).1;have r0:=(ez _ (dS b4 (m+n+1))).1;rw[sv.2.2.1]at b5 b6;obtain⟨d1,_,d3⟩:=yD pp b6 r0 b5;have eQ:=lg O b3 d3 b8;obtain⟨f1,f2,f3,f4⟩:=QV s0 z1 (p:=m+n) O b4;have eR:=lg (by rw[f3];omega) f2 (f1.trans d1) (f4.trans b7);have e2:=Kz m n (dM (m+n+1)) (dM (m+1)) s H p w l o t ty k S 137 137 z P F;unfold wE at e2;generalize dC l (row (zS s (λj=>l.getD (0+j) 0) (m+n+1)).1 (m+n+1)) 0=R at*;simp only[ir]at e2;refine mU (C:=ep (gd 3) (P2 (gd 3) qG) A8) K ?_
  refine oN (gK (o7 (Nq _)) (mq _)) e2 ?_ K nW K
    (sZ (y:=y) (P:=P) (q:=[⟨.ws .u64 H,t⟩,P,⟨.ws .u64 p,ty⟩,⟨.lit [.i .i64 z],k⟩,⟨.ws .u64 w,S⟩,⟨.ws .u64 R,137⟩,⟨.ws .u64 o,137⟩]) (F:=F) (i:=1) K v (by simpa[ek,mZ,nd,V.wf,mE]using k1)) ?_
  .rw [(O:7+F.length=F.length+1+1+1+1+1+1+1)]at k1 k2;simp only[mZ]at k1;simp only[dK,dJ,ek,mZ,nd,V.wf,tQ,ew,Nat.reduceAdd,Nat.reduceLT,k1,k2,b4]
   first|omega|(refine⟨?_,?_⟩<;>omega)
  .rintro r1 m1⟨x,rfl,aa,_⟩;rw[eR,eQ];exact hQ w P x aa
def DQ{m lz:Nat}{p:List Int}{t y ty g S:es}{Q:V->dE->Prop}(ae:2<=n)(ad:n<=4)(ak:m+n<100000)(an:m+n<=cu)(am:n<=cv)(hx:m+n<=H.length)(hy:n<=p.length)(wx:dG H)(wy:dG p)(ht:0<p.getD (n-1) 0)(al:m+n+1<=H.length)(ah:H.length<=9223372036854775807)(hG:n<=T)(ac:n<=L.length)(wv:dG L)(hs:(0:Int)=64-(bitLen (p.getD (n-1) 0).toNat:Int))(aj:(n:Int)<z):letI e:=val (H.take (m+n));letI a:List Int:=gJ (m+1) (e/val (p.take n)) (lc (dM (m+1)) 0);letI b:List Int:=gJ (m+n+1) (e%val (p.take n)) H;letI c:dI:=⟨.lit [.i .i64 z],g⟩;letI d:dI:=⟨.ws .u64 p,ty⟩;∀(hQ: ∀(aa:List Int)(P:dI)(F:dE),kX y P F 6->Q (.t [.s (E (5,0)) (ib a (m+1)) (dM (m+1)),.s (E (0,0)) (ib b (m+n+1)) H.length]) (⟨.ws .u64 b,t⟩::P::d::c::⟨.ws .u64 aa,S⟩::⟨.ws .u64 a,137⟩::F)),Ev B (ep (gd 3) (P2 (gd 3) qG) A8) 135 101 4 [(153,[.p (E (1,0)),.i .i64 0])] (dF 5 3 (dB f135) [])
      [(0,.s N 0 0),(1,.p (E (1,0))),(2,.s (E (0,0)) lz H.length),(3,.s (E (0,0)) (m+n) cu),(4,.s (E (2,0)) n cv),(12,.i .i64 (n:Int)),(13,.i .i64 (m:Int)),(14,.i .u64 0),(33,.s (E (4,0)) n T)]
      [⟨.ws .u64 H,t⟩,⟨.lit [.p N],y⟩,d,c,⟨.ws .u64 L,S⟩] Q:=by
  intro hQ;have i1:U.i64.wrap ((m:Int)+1)=((m+1:Nat):Int):=jw;have i2:U.i64.wrap (((m+n:Nat):Int)+1)=((m+n+1:Nat):Int):=jw;have mm: ∀a:Nat,Nat.min a a=a:=mo;obtain⟨c1,c2⟩:=gL (m+1);obtain⟨c3,c4⟩:=gL (m+n+1);obtain⟨z0,z1,_,_⟩:=pE ht (eg wy _) hs;have e:=Lk m n cu cv lz H.length T H p L t y ty g S z;unfold wD at e;simp only[i1,i2,dU,jo,mm]at e;have j:ScV 1 n p L (dC L (jp n (kw 0 p)) 0):=PQ O ac hy wv wy ht hs;have u:ScU 1 (m+n) H H ((dC H (jp (m+n) (kw 0 H)) 0).set (m+n) 0):=P1 O hx wx wx;have lv:(dC L (jp n (kw 0 p)) 0).length=L.length:=j.1
  have ab:(dC H (jp (m+n) (kw 0 H)) 0).length=H.length:=by have:=u.1;rw[gU]at this;rw[this]
  generalize dC L (jp n (kw 0 p)) 0=w at*
  refine dY (gK (o7 (Nq _)) (mq _)) e ?_ K K rQ
    (Q1:=λ_ m'=> ∃o l P F,m'=⟨.ws .u64 l,t⟩::P::⟨.ws .u64 p,ty⟩::⟨.lit [.i .i64 z],g⟩::⟨.ws .u64 w,S⟩::⟨.ws .u64 o,137⟩::F/\kX y P F 6/\o.length=dM (m+1)/\l.length=H.length/\dG l/\
      val (l.take (m+n+1))<val (w.take n)/\val (H.take (m+n))*1=val (l.take (m+n+1))+val (w.take n)*val (o.take (m+1))/\dG o/\l.drop (m+n+1)=H.drop (m+n+1)/\o.drop (m+1)=(lc (dM (m+1)) 0).drop (m+1)) ?_ K ?_
  .simp only[ab,fJ];simp only[dK,dJ,ek,mZ,nd,V.wf,tQ,ew,Nat.reduceAdd,Nat.reduceLT,wx,wy];omega
  .have ag:((dC H (jp (m+n) (kw 0 H)) 0).set (m+n) 0).length=H.length:=by rw[u.1]
   generalize(dC H (jp (m+n) (kw 0 H)) 0).set (m+n) 0=q at*;have lq:((lc (dM (m+1)) (0:Int)):List Int).length=dM (m+1):=fJ;have wq:dG (lc (dM (m+1)) (0:Int)):=dP _;generalize(lc (dM (m+1)) (0:Int))=Q0 at*;have em:m+1+n=m+n+1:=O
   have hc:=Bx (M:=m+1) (n:=n) (p:=dM (m+1)) (Q:=H.length) (k:=T) (C:=Q0) (x:=q) (L:=w) (b:=137) (y:=y) (R:=t) (S:=S) ae ad O O hG O O O u.2.1 j.2.1 wq j.2.2.2
     (by have:=u.2.2.2.1;have:=j.2.2.2;rw[(O:m+1+n-1=m+n)];omega)
   rw[em]at hc;refine(hc.lift (gl:=gd 3) (m:=[⟨.ws .u64 q,t⟩,⟨.lit [.p N],y⟩,⟨.ws .u64 p,ty⟩,⟨.lit [.i .i64 z],g⟩,⟨.ws .u64 w,S⟩,⟨.ws .u64 Q0,137⟩]) [5,1,0,4] ⟨K,K,K,K,K,K,K,K,dD⟩ J (λ_ _ h=>by cases h) K).mono ?_;rintro r m'⟨r0,af,⟨o,l,P,F,rfl,v,b1,b2,b3,b4,k,f,b7,b8⟩,_,rfl,rfl⟩;rw[em]at k f b7;refine⟨o,l,dI.iU (sg [5,1,0,4] 6) P,iC (sg [5,1,0,4] 6) F,(by simp only[fW,iC,ft,kr,kw,eI,fb];rfl),v.iU (σ:=[5,1,0,4]) K 6,O,O,b4,k,?_,b3,b7.trans u.2.2.2.2,b8⟩;rw[<-u.2.2.1];exact f
  rintro r m'⟨o,l,P,F,rfl,v,b1,b2,b4,k,f,b3,b7,b8⟩_;refine⟨_,K,?_⟩;refine Ev.fq [1,2,10,14] ?_;obtain⟨R,k2,_⟩:=v.wf;have pp:0<(1:Int):=J;have r0:=(ez _ (dS b4 (m+n+1))).1;rw[j.2.2.1]at k f;obtain⟨d1,_,d3⟩:=yD pp f r0 k;have eQ:=lg O b3 d3 b8;rw[FH]at d1;have f3:l.length=l.length:=K;have eR:=lg O b4 d1 b7;have e2:=JL m n H.length (dM (m+1)) p w l o ty g S t 137 z P F;unfold wu at e2;simp only[ir]at e2;refine mU (C:=ep (gd 3) (P2 (gd 3) qG) A8) K ?_
  refine oN (gK (o7 (Nq _)) (mq _)) e2 ?_ K nW K
    (sZ (y:=y) (P:=P) (q:=[⟨.ws .u64 l,t⟩,P,⟨.ws .u64 p,ty⟩,⟨.lit [.i .i64 z],g⟩,⟨.ws .u64 w,S⟩,⟨.ws .u64 o,137⟩]) (F:=F) (i:=1) K v (by simpa[ek,mZ,nd,V.wf,mE]using R)) ?_
  .rw [(O:6+F.length=F.length+1+1+1+1+1+1)]at R k2;simp only[mZ]at R;simp only[dK,dJ,ek,mZ,nd,V.wf,tQ,ew,Nat.reduceAdd,Nat.reduceLT,R,k2,b4]
   first|omega|(refine⟨?_,?_⟩<;>omega)
  .rintro r1 m1⟨x,rfl,s,_⟩;rw[eR,eQ];exact hQ w P x s
def DB{m lz:Nat}{p:List Int}{t y ty f S:es}{Q:V->dE->Prop}(ae:2<=n)(ad:n<=4)(ak:m+n<100000)(an:m+n<=cu)(am:n<=cv)(hx:m+n<=H.length)(hy:n<=p.length)(wx:dG H)(wy:dG p)(ht:0<p.getD (n-1) 0)(al:m+n+1<=H.length)(ah:H.length<=9223372036854775807)(hG:n<=T)(ac:n<=L.length)(wv:dG L)(hs:s=64-(bitLen (p.getD (n-1) 0).toNat:Int))(s0:0<s)(aj:(n:Int)<z):letI e:=val (H.take (m+n));letI a:List Int:=gJ (m+1) (e/val (p.take n)) (lc (dM (m+1)) 0);letI b:List Int:=gJ (m+n+1) (e%val (p.take n)) H;letI c:dI:=⟨.lit [.i .i64 z],f⟩;letI d:dI:=⟨.ws .u64 p,ty⟩;∀(hQ: ∀(aa:List Int)(P:dI)(F:dE),kX y P F 6->Q (.t [.s (E (5,0)) (ib a (m+1)) (dM (m+1)),.s (E (0,0)) (ib b (m+n+1)) H.length]) (⟨.ws .u64 b,t⟩::P::d::c::⟨.ws .u64 aa,S⟩::⟨.ws .u64 a,137⟩::F)),Ev B (ep (gd 3) (P2 (gd 3) qG) A8) 135 101 4 [(153,[.p (E (1,0)),.i .i64 0])] (dF 5 3 (dB f135) [])
      [(0,.s N 0 0),(1,.p (E (1,0))),(2,.s (E (0,0)) lz H.length),(3,.s (E (0,0)) (m+n) cu),(4,.s (E (2,0)) n cv),(12,.i .i64 (n:Int)),(13,.i .i64 (m:Int)),(14,.i .u64 s),(33,.s (E (4,0)) n T)]
      [⟨.ws .u64 H,t⟩,⟨.lit [.p N],y⟩,d,c,⟨.ws .u64 L,S⟩] Q:=by
  intro hQ;have i1:U.i64.wrap ((m:Int)+1)=((m+1:Nat):Int):=jw;have i2:U.i64.wrap (((m+n:Nat):Int)+1)=((m+n+1:Nat):Int):=jw;have mm: ∀a:Nat,Nat.min a a=a:=mo;obtain⟨c1,c2⟩:=gL (m+1);obtain⟨c3,c4⟩:=gL (m+n+1);obtain⟨z0,z1,_,_⟩:=pE ht (eg wy _) hs;have e:=Lf m n cu cv lz H.length T s H p L t y ty f S z;unfold wD at e;simp only[i1,i2,dU,jo,mm]at e;have g:ScV (pS s) n p L (dC L (row (jc s (λj=>p.getD (0+j) 0) n).1 n) 0):=ZA s0 O ac hy wv wy ht hs;have u:ScU (pS s) (m+n) H H ((dC H (row (jc s (λj=>H.getD (0+j) 0) (m+n)).1 (m+n)) 0).set (m+n) (jc s (λj=>H.getD (0+j) 0) (m+n)).2):=Zo s0 z1 O O hx wx wx;have lv:(dC L (row (jc s (λj=>p.getD (0+j) 0) n).1 n) 0).length=L.length:=g.1
  have ab:(dC H (row (jc s (λj=>H.getD (0+j) 0) (m+n)).1 (m+n)) 0).length=H.length:=by have:=u.1;rw[gU]at this;rw[this]
  generalize dC L (row (jc s (λj=>p.getD (0+j) 0) n).1 n) 0=w at*
  refine dY (gK (o7 (Nq _)) (mq _)) e ?_ K K rQ
    (Q1:=λ_ m'=> ∃o l P F,m'=⟨.ws .u64 l,t⟩::P::⟨.ws .u64 p,ty⟩::⟨.lit [.i .i64 z],f⟩::⟨.ws .u64 w,S⟩::⟨.ws .u64 o,137⟩::F/\kX y P F 6/\o.length=dM (m+1)/\l.length=H.length/\dG l/\
      val (l.take (m+n+1))<val (w.take n)/\val (H.take (m+n))*(pS s)=val (l.take (m+n+1))+val (w.take n)*val (o.take (m+1))/\dG o/\l.drop (m+n+1)=H.drop (m+n+1)/\o.drop (m+1)=(lc (dM (m+1)) 0).drop (m+1)) ?_ K ?_
  .simp only[ab,fJ];simp only[dK,dJ,ek,mZ,nd,V.wf,tQ,ew,Nat.reduceAdd,Nat.reduceLT,wx,wy];omega
  .have ag:((dC H (row (jc s (λj=>H.getD (0+j) 0) (m+n)).1 (m+n)) 0).set (m+n) (jc s (λj=>H.getD (0+j) 0) (m+n)).2).length=H.length:=by rw[u.1]
   generalize(dC H (row (jc s (λj=>H.getD (0+j) 0) (m+n)).1 (m+n)) 0).set (m+n) (jc s (λj=>H.getD (0+j) 0) (m+n)).2=q at*;have lq:((lc (dM (m+1)) (0:Int)):List Int).length=dM (m+1):=fJ;have wq:dG (lc (dM (m+1)) (0:Int)):=dP _;generalize(lc (dM (m+1)) (0:Int))=Q0 at*;have em:m+1+n=m+n+1:=O
   have hc:=Bx (M:=m+1) (n:=n) (p:=dM (m+1)) (Q:=H.length) (k:=T) (C:=Q0) (x:=q) (L:=w) (b:=137) (y:=y) (R:=t) (S:=S) ae ad O O hG O O O u.2.1 g.2.1 wq g.2.2.2
     (by have:=u.2.2.2.1;have:=g.2.2.2;rw[(O:m+1+n-1=m+n)];omega)
   rw[em]at hc;refine(hc.lift (gl:=gd 3) (m:=[⟨.ws .u64 q,t⟩,⟨.lit [.p N],y⟩,⟨.ws .u64 p,ty⟩,⟨.lit [.i .i64 z],f⟩,⟨.ws .u64 w,S⟩,⟨.ws .u64 Q0,137⟩]) [5,1,0,4] ⟨K,K,K,K,K,K,K,K,dD⟩ J (λ_ _ h=>by cases h) K).mono ?_;rintro r m'⟨r0,af,⟨o,l,P,F,rfl,v,b1,b2,b3,b4,b5,b6,b7,b8⟩,_,rfl,rfl⟩;rw[em]at b5 b6 b7;refine⟨o,l,dI.iU (sg [5,1,0,4] 6) P,iC (sg [5,1,0,4] 6) F,(by simp only[fW,iC,ft,kr,kw,eI,fb];rfl),v.iU (σ:=[5,1,0,4]) K 6,O,O,b4,b5,?_,b3,b7.trans u.2.2.2.2,b8⟩;rw[<-u.2.2.1];exact b6
  rintro r m'⟨o,l,P,F,rfl,v,b1,b2,b4,b5,b6,b3,b7,b8⟩_;refine⟨_,K,?_⟩;refine Ev.fq [1,2,10,14] ?_;obtain⟨k1,k2,_⟩:=v.wf;have pp:0<pS s:=(MY z1).1;have r0:=(ez _ (dS b4 (m+n+1))).1;rw[g.2.2.1]at b5 b6;obtain⟨d1,_,d3⟩:=yD pp b6 r0 b5;have eQ:=lg O b3 d3 b8;obtain⟨f1,f2,f3,f4⟩:=QV s0 z1 (p:=m+n) O b4;have eR:=lg (by rw[f3];omega) f2 (f1.trans d1) (f4.trans b7);have e2:=KD m n H.length (dM (m+1)) s p w l o ty f S t 137 z P F;unfold wE at e2;generalize dC l (row (zS s (λj=>l.getD (0+j) 0) (m+n+1)).1 (m+n+1)) 0=R at*;simp only[ir]at e2;refine mU (C:=ep (gd 3) (P2 (gd 3) qG) A8) K ?_
  refine oN (gK (o7 (Nq _)) (mq _)) e2 ?_ K nW K
    (sZ (y:=y) (P:=P) (q:=[⟨.ws .u64 R,t⟩,P,⟨.ws .u64 p,ty⟩,⟨.lit [.i .i64 z],f⟩,⟨.ws .u64 w,S⟩,⟨.ws .u64 o,137⟩]) (F:=F) (i:=1) K v (by simpa[ek,mZ,nd,V.wf,mE]using k1)) ?_
  .rw [(O:6+F.length=F.length+1+1+1+1+1+1)]at k1 k2;simp only[mZ]at k1;simp only[dK,dJ,ek,mZ,nd,V.wf,tQ,ew,Nat.reduceAdd,Nat.reduceLT,k1,k2,b4]
   first|omega|(refine⟨?_,?_⟩<;>omega)
  .rintro r1 m1⟨x,rfl,k,_⟩;rw[eR,eQ];exact hQ w P x k
end Go.Proofs.YtiggidfngfkanaaGreatDoor
