/- FnPacked, part 5. No condition. -/
import Derived.Test.YtiggidfngfkanaaGreatDoorW4
namespace Go.Proofs.YtiggidfngfkanaaGreatDoor
open Go Go.Proofs.Tryz
set_option maxRecDepth 100000
set_option maxHeartbeats 4000000
set_option linter.all false
open Bool renaming false->A, true->G
open Decidable renaming decide->D
open Go renaming IntKind->U, TypeId->es
open Go.Proofs.Tryz renaming prog->B
open List renaming drop->kw, replicate->lc, take->jp
open Option renaming none->N, some->E
variable{n:Bool}{v:Int}{L W Z l p:List Int}{T f k o:Nat}{R:Nat->Option Nat}{P:Prop}
def DE(p q:Int)(x:Nat->Int):Nat->Int
  |0=>(x 0%q)*p
  |i+1=>(x (i+1)%q)*p+x i/q
def Js(p q:Int)(x:Nat->Int)(i:Nat):Int:=x i/p+(x (i+1)%p)*q
def AX(p q:Int)(x:Nat->Int)(k i:Nat):Int:=if i<k then Js p q x i else x i/p
theorem vT{f g:Nat->Int}{n:Nat}(h: ∀i,i<n->f i=g i):row f n=row g n:=by unfold row;refine JW λi a=>h i (by simpa using a)
theorem vG{f:Nat->Int}{n:Nat}(h: ∀i,i<n->gn (f i)):dG (row f n):=by intro x L;simp only[row,Mc,AA]at L;obtain⟨i,g,rfl⟩:=L;exact h i g
theorem gX(f:Nat->Int)(n:Nat):val (row f (n+1))=val (row f n)+pw n*f n:=by rw[yg,gb,fD];simp[val]
section
variable{p q:Int}(hp:0<p)(hq:0<q)(hpq:p*q=18446744073709551616)
include hp hq hpq
theorem GR(x:Nat->Int): ∀n,val (row (DE p q x) (n+1))+(x n/q)*pw (n+1)=val (row x (n+1))*p
  |0=>by
   simp only[gX,DE];have h:=tH (x 0) q;have e:val (row (DE p q x) 0)=0:=K;have y:val (row x 0)=0:=K;rw[e,y,gV,<-hpq];simp only[pw,Gp,jU,jT,mO];have S:x 0*p=(q*(x 0/q)+x 0%q)*p:=by rw[h]
   rw[S,jN]
   have:x 0/q*(p*q)=q*(x 0/q)*p:=by rw[eD p q,<-fO,eD (x 0/q) q]
   omega
  |n+1=>by
   have v:=GR x n;rw[gX,gX x];have h:=tH (x (n+1)) q;simp only[DE];rw[gV (n+1),<-hpq,jN]
   have S:pw (n+1)*x (n+1)*p=pw (n+1)*((x (n+1)%q)*p)+x (n+1)/q*(p*q*pw (n+1)):=by
     have l:x (n+1)*p=(x (n+1)%q)*p+(x (n+1)/q)*(p*q):=by
       have:x (n+1)*p=(q*(x (n+1)/q)+x (n+1)%q)*p:=by rw[h]
       rw[this,jN]
       have:x (n+1)/q*(p*q)=q*(x (n+1)/q)*p:=by rw[eD p q,<-fO,eD (x (n+1)/q) q]
       omega
     rw[fO,l,fh];congr 1;ac_rfl
   rw[S,fh];have u:pw (n+1)*(x n/q)=x n/q*pw (n+1):=eD _ _;omega
theorem Ng(x:Nat->Int)(L: ∀i,gn (x i)): ∀i,gn (DE p q x i):=by
  have b: ∀a,0<=(a%q)*p/\(a%q)*p<=18446744073709551616-p:=λa=>by have M:=j7 a (xk hq);have S:=j6 a hq;refine⟨jL M O,?_⟩;have l:(a%q)*p<=(q-1)*p:=qg O O;rw[ui,eD q p,hpq]at l;omega
  intro i;cases i with
  |zero=>have:=b (x 0);simp only[DE];exact⟨this.1,O⟩
  |succ i=>
   have M:=b (x (i+1));have S:0<=x i/q:=n9 (L i).1 O;have l:x i/q<p:=rD hq (by rw[hpq];exact(L i).2);simp only[DE];exact⟨O,O⟩
theorem E1(x:Int)(L:gn x):0<=x/q/\x/q<p:=⟨n9 L.1 O,rD hq (by rw[hpq];exact L.2)⟩
theorem Ji(x:Nat->Int): ∀n,val (row (Js p q x) n)*p+x 0%p=val (row x n)+(x n%p)*pw n
  |0=>by simp[row,val,pw]
  |n+1=>by
   have v:=Ji x n;rw[gX,gX x,gV,<-hpq];have h:=tH (x n) p
   have S:pw n*Js p q x n*p=pw n*(x n-x n%p)+x (n+1)%p*(p*q*pw n):=by
     unfold Js
     have e:(x n/p+x (n+1)%p*q)*p=(x n-x n%p)+x (n+1)%p*(p*q):=by rw[jN,fO,eD q p,eD (x n/p) p];omega
     rw[fO,e,fh];congr 1;ac_rfl
   rw[jN,S,pU];have u:pw n*(x n%p)=x n%p*pw n:=eD _ _;omega
theorem Nj(x:Nat->Int)(k:Nat):val (row (AX p q x k) (k+1))=val (row x (k+1))/p:=by
  have M:=Ji hp hq hpq x k
  have e:row (AX p q x k) (k+1)=row (Js p q x) k++[x k/p]:=by
    rw[yg]
    congr 1
    .exact vT λi g=>by simp[AX,g]
    .simp [AX]
  have S:val (row (AX p q x k) (k+1))*p+x 0%p=val (row x (k+1)):=by
    rw[e,gb,fD,gX x];have h:=tH (x k) p;simp only[val,o4,jP]
    have l:pw k*(x k/p)*p=pw k*(x k-x k%p):=by rw[fO,eD (x k/p) p];congr 1;omega
    rw[jN,l,pU,eD (pw k) (x k%p)];omega
  have y:=j7 (x 0) (xk hp);have C:=j6 (x 0) hp;have:val (row x (k+1))=x 0%p+val (row (AX p q x k) (k+1))*p:=O;rw[this,P5 _ _ (xk hp),CL y C,mO]
theorem NB(x:Nat->Int)(L: ∀i,gn (x i))(k i:Nat):gn (AX p q x k i):=by
  have M:0<=x i/p:=n9 (L i).1 O;have S:x i/p<q:=rD hp (by rw[eD q p,hpq];exact(L i).2)
  have w:q<=18446744073709551616:=by have:1*q<=p*q:=qg O O;omega
  unfold AX;split
  .unfold Js;have l:=j7 (x (i+1)) (xk hp);have u:=j6 (x (i+1)) hp;have y:0<=x (i+1)%p*q:=jL l O;have C:x (i+1)%p*q<=(p-1)*q:=qg O O;rw[ui,hpq]at C;exact⟨O,O⟩
  .exact⟨O,O⟩
end
def pS(s:Int):Int:=2^s.toNat
def qS(s:Int):Int:=2^(64-s.toNat)
theorem pq(s:Int)(C:0<s)(M:s<64):0<pS s/\0<qS s/\pS s*qS s=18446744073709551616:=by refine⟨xm O,xm O,?_⟩;unfold pS qS;rw[<-Dc,(O:s.toNat+(64-s.toNat)=64)];rfl
theorem xU(s:Int)(C:0<=s)(M:s<64):su s=s:=by obtain⟨k,rfl⟩:=fy C;have:=pT .u64 64 6 k K K O O;unfold su;rw[show((63:Int))=(((2^6-1:Nat)):Int)from K,this];omega
theorem vf(s:Int)(C:0<s)(M:s<64):j4 s=64-s:=by have e:=xU s O M;unfold su at e;unfold j4;rw[e,kq,(O:(64-s)%18446744073709551616=64-s)];exact xU (64-s) O O
theorem tW(s:Nat)(v:0<s)(w:s<64)(a:Int)(t:0<=a):U.u64.wrap (a*2^min (s:Int).toNat U.u64.bits)=(a%qS s)*pS s:=by obtain⟨M,S,l⟩:=pq s O O;rw[kq,show min (s:Int).toNat U.u64.bits=s by simp[U.bits];omega,<-l];unfold pS;rw[dU,eD a,Int.mul_emod_mul_of_pos _ _ (xm O),eD]
theorem vi(s:Nat)(v:s<64)(a:Int):a.fdiv (2^min (s:Int).toNat U.u64.bits)=a/pS s:=by rw[show min (s:Int).toNat U.u64.bits=s by simp[U.bits];omega,kB _ (gA (xm O))];rfl
theorem Iy(s:Nat)(v:0<s)(w:s<64)(a b:Int)(t:gn a)(H:gn b):letI c:=(a%qS s)*pS s;eA .or .u64 c (b/qS s)=c+b/qS s:=by
  obtain⟨M,S,l⟩:=pq s O O;obtain⟨a,rfl⟩:=fy t.1;obtain⟨b,rfl⟩:=fy H.1;have:=H2 s v w a b (by have:=H.2;omega)
  have T:((a:Int)%qS s)*pS s=((a*2^s%2^64:Nat):Int):=by rw[<-tW s v w a O,kq,show min (s:Int).toNat U.u64.bits=s by simp[U.bits];omega];rw[uC,lJ,Fu];rfl
  have f:(b:Int)/qS s=((b/2^(64-s):Nat):Int):=by unfold qS;rw[dU,xe,Fu];rfl
  rw[T,f,this,rJ]
theorem Mm(s:Int)(C:0<s)(M:s<64)(H:List Int)(o:Nat)(L: ∀i,gn (H.getD i 0))(i:Nat):AR (su s) (j4 s) H o i=DE (pS s) (qS s) (λj=>H.getD (o+j) 0) i:=by
  rw[xU s O M,vf s C M];obtain⟨s,rfl⟩:=fy (gA C);have v:0<s:=O;have w:s<64:=O
  have e: ∀b:Int,b.fdiv (2^min ((64:Int)-(s:Nat)).toNat U.u64.bits)=b/qS s:=λb=>by have:=vi (64-s) O b;rw[(O:((64:Int)-(s:Nat))=(((64-s:Nat)):Int)),this];unfold pS qS;rfl
  cases i with
  |zero=>exact tW s v w _ (L _).1
  |succ i=>
   simp only[AR,DE];rw[tW s v w _ (L _).1,e,Iy s v w _ _ (L _) (L _)]
theorem Xi(s:Int)(C:0<s)(M:s<64)(H:List Int)(o:Nat)(L: ∀i,gn (H.getD i 0))(i:Nat):DK (su s) (j4 s) H o i=Js (pS s) (qS s) (λj=>H.getD (o+j) 0) i:=by
  rw[xU s O M,vf s C M];obtain⟨s,rfl⟩:=fy (gA C);have v:0<s:=O;have w:s<64:=O;have T:qS ((64-s:Nat):Int)=pS s:=by unfold pS qS;rw[dU,dU];congr 1;omega
  have f:pS ((64-s:Nat):Int)=qS s:=by unfold pS qS;rw[dU,dU]
  simp only[DK,Js];rw[vi s w,(O:((64:Int)-(s:Nat))=(((64-s:Nat)):Int)),tW (64-s) O O _ (L _).1,T,f];have:=Iy (64-s) O O (H.getD (o+(i+1)) 0) (H.getD (o+i) 0) (L _) (L _);rw[T,f]at this;have c: ∀a b:Int,eA .or .u64 a b=eA .or .u64 b a:=λa b=>by simp only[eA,BitVec.or_comm]
  rw[c,this];omega
theorem WU(s:Int)(C:0<s)(M:s<64)(H:List Int)(o i:Nat):BM (su s) H o i=H.getD (o+i) 0/pS s:=by rw[xU s O M];obtain⟨s,rfl⟩:=fy (gA C);exact vi s O _
theorem DV{j:Nat}(h:j<l.length):(l.set j v).drop j=v::l.drop (j+1):=by rw[uX (by simpa using h)];simp[B9]
theorem s8(w:Nat->Int)(o:Nat): ∀(k:Nat)(F:List Int),o+(k+1)<=F.length->qQ w o k F=dC F (row w (k+1)) o
  |0,F,h=>by simp only[qQ,dC,row];rw[s9 F o _ O];simp
  |k+1,F,h=>by have:=s8 w o k (F.set (o+(k+1)) (w (k+1))) gp;simp only[qQ];rw[this,yg w (k+1)];simp only[dC,gw,fD,eI,fb];rw[JZ O,DV O];simp[uY]
theorem sL(w:Nat->Int)(v:Int)(o:Nat): ∀(k i:Nat)(F:List Int),o+i+(k+1)<=F.length->pW w v o k i F=dC F (row (λj=>if j<k then w (i+j)else v) (k+1)) (o+i)
  |0,i,F,h=>by simp only[pW,dC,row];rw[s9 F (o+i) _ O];simp
  |k+1,i,F,h=>by
   simp only[pW];rw[sL w v o k (i+1) _ gp,(O:o+(i+1)=o+i+1),qw _ _ _ _ O]
   congr 1
   have: ∀n,row (λj=>if j<k+1 then w (i+j)else v) (n+1)=w i::row (λj=>if j<k then w (i+1+j)else v) n:=λn=>by
     unfold row;rw[List.range_succ_eq_map,nA,Ro]
     congr 1
     refine JW λj _=>?_
     simp only[Function.comp];rw[(O:i+(j+1)=i+1+j)];by_cases H:j<k
     .simp [H]
     .simp [H]
   rw[this]
def eg(h:dG l)(i:Nat):gn (l.getD i 0):=by
  rw[ie];cases g:l[i]? with
  |none=>exact⟨Y,Y⟩
  |some v=>exact h _ (BC g)
def oU(m:dE)(z x:Nat×Nat):Bool:=bif Nat.beq z.1 x.1 then ed (D (z.2=x.2)) (ek m.length m)else ek m.length m
def Gy(w:Int->(Nat->Int)->Nat->(Nat->Int)×Int):jB:=λargs m=>
  match args with
  |[.s (E z) n _,.s (E x) l _,.i .u64 s]=>match m[z.1]?,m[x.1]? with
   |some ⟨.ws .u64 F,P⟩,E ⟨.ws .u64 H,_⟩=>
    E (.i .u64 (w s (λj=>H.getD (x.2+j) 0) n).2,m.set z.1 ⟨.ws .u64 (dC F (row (w s (λj=>H.getD (x.2+j) 0) n).1 n) z.2),P⟩,
      ed (D (l=n/\0<n/\n<4294967295/\0<s/\s<64/\z.2+n<=F.length/\x.2+n<=H.length/\dG H)) (oU m z x))
   |_,_=>N
  |_=>N
def jc(s:Int)(x:Nat->Int)(n:Nat):(Nat->Int)×Int:=(DE (pS s) (qS s) x,x (n-1)/qS s)
def zS(s:Int)(x:Nat->Int)(n:Nat):(Nat->Int)×Int:=(AX (pS s) (qS s) x (n-1),(x 0%pS s)*qS s)
abbrev alv:jB:=Gy jc
abbrev alb:jB:=Gy zS
def Ex{w:Int->(Nat->Int)->Nat->(Nat->Int)×Int}(hA: ∀(a p n C q:Nat)(F H:List Int)(s:Int)(P t:es),0<n->n<4294967295->0<s->s<64->a+n<=F.length->p+n<=H.length->dG H->
      eM B (λ_=>N) f [.s (E (0,a)) n C,.s (E (1,p)) n q,.i .u64 s] [⟨.ws .u64 F,P⟩,⟨.ws .u64 H,t⟩]
       (λr u=>r= .i .u64 (w s (λj=>H.getD (p+j) 0) n).2/\u=[⟨.ws .u64 (dC F (row (w s (λj=>H.getD (p+j) 0) n).1 n) a),P⟩,⟨.ws .u64 H,t⟩]))(hI: ∀(a n C q:Nat)(F:List Int)(s:Int)(P:es),0<n->n<4294967295->0<s->s<64->a+n<=F.length->dG F->
      eM B (λ_=>N) f [.s (E (0,a)) n C,.s (E (0,a)) n q,.i .u64 s] [⟨.ws .u64 F,P⟩]
       (λr u=>r= .i .u64 (w s (λj=>F.getD (a+j) 0) n).2/\u=[⟨.ws .u64 (dC F (row (w s (λj=>F.getD (a+j) 0) n).1 n) a),P⟩]))(gl:Nat->Option Nat):qI B gl f (Gy w):=by
  refine mD λargs m r u T=>?_
  unfold Gy at T;split at T
  .rename_i z n C x l q s;split at T
   .rename_i F P H t o L;simp only[eJ,ef]at T;obtain⟨rfl,rfl,ho⟩:=T;obtain⟨k,c⟩:=dN ho;simp only[eG]at k;obtain⟨rfl,R,y,Q,g,v,lx,S⟩:=k;unfold oU at c;cases b:Nat.beq z.1 x.1 with
    |true=>
     rw[b]at c;obtain⟨M,h2⟩:=dN c;have M:=fU M;have i:=iB b;have ex:z=x:=yw i M;subst ex;have e:E (⟨.ws .u64 F,P⟩:dI)=E ⟨.ws .u64 H,t⟩:=by rw[<-o,<-L]
     cases e;refine⟨λ_=>N,[z.1],_,_,_,_,hI z.2 l C q F s P R y Q g v S,⟨o,K,dD⟩,Y,(λ_ _ h=>by cases h),h2,K,K,?_⟩;simp only[fW,iC,ft,kw,eI,fb,jx];rfl
    |false=>
     rw[b]at c;have d:=gW b;refine⟨λ_=>N,[z.1,x.1],_,_,_,_,hA z.2 x.2 l C q F H s P t R y Q g v lx S,⟨o,K,L,K,dD⟩,by simp[d],(λ_ _ h=>by cases h),c,K,K,?_⟩;simp only[fW,iC,ft,kw,eI,fb,jx];exact(fu (by rw[lI d];exact L)).symm
   .cases T
  .cases T
def W3(R:Nat->Option Nat):qI B R 161 alv:=by
  refine Ex ?_ ?_ R
  .intro m j n C q F H s P t a x Q g w b S;obtain⟨k,rfl⟩: ∃k,n=k+1:=⟨n-1,O⟩
   refine(adp (λ_=>N) m j k C q F H s P t O w b O).mono λr u z=>?_
   have L:=λi=>eg S i
   rw[z.1,z.2,s8 _ _ _ _ w,vT (λi _=>Mm s Q g H j L i)];refine⟨?_,K⟩;rw[vf s Q g];obtain⟨s,rfl⟩:=fy (gA Q);have:=vi (64-s) O (H.getD (j+k) 0);rw[(O:((64:Int)-(s:Nat))=(((64-s:Nat)):Int)),this];simp only[jc,oW,pS,qS,dU]
  .intro m n C q F s P a x Q g w S;obtain⟨k,rfl⟩: ∃k,n=k+1:=⟨n-1,O⟩
   refine(Xt (λ_=>N) m k C q F s P O w O).mono λr u z=>?_
   have L:=λi=>eg S i
   rw[z.1,z.2,s8 _ _ _ _ w,vT (λi _=>Mm s Q g F m L i)];refine⟨?_,K⟩;rw[vf s Q g];obtain⟨s,rfl⟩:=fy (gA Q);have:=vi (64-s) O (F.getD (m+k) 0);rw[(O:((64:Int)-(s:Nat))=(((64-s:Nat)):Int)),this];simp only[jc,oW,pS,qS,dU]
def Nv(s:Int)(Q:0<s)(b:s<64)(H:List Int)(a k:Nat)(L: ∀i,gn (H.getD i 0)):
    row (λj=>if j<k then DK (su s) (j4 s) H a (0+j)else BM (su s) H a k) (k+1)=row (AX (pS s) (qS s) (λj=>H.getD (a+j) 0) k) (k+1):=by
  refine vT λi g=>?_
  unfold AX;by_cases h:i<k
  .simp only[h,oH,ir];exact Xi s Q b H a L i
  .have:i=k:=O;subst this;simp only[h,kT];exact WU s Q b H a i
def EP(s:Int)(Q:0<s)(g:s<64)(a:Int)(t:gn a):U.u64.wrap (a*2^min (j4 s).toNat U.u64.bits)=(a%pS s)*qS s:=by
  rw[vf s Q g];obtain⟨s,rfl⟩:=fy (gA Q);have:=tW (64-s) O O a t.1;have T:qS ((64-s:Nat):Int)=pS s:=by unfold pS qS;rw[dU,dU];congr 1;omega
  have f:pS ((64-s:Nat):Int)=qS s:=by unfold pS qS;rw[dU,dU]
  rw[T,f]at this;rw[(O:((64:Int)-(s:Nat))=(((64-s:Nat)):Int)),this]
def WX(R:Nat->Option Nat):qI B R 162 alb:=by
  refine Ex ?_ ?_ R
  .intro m j n C q F H s P t a x Q g w b S;obtain⟨k,rfl⟩: ∃k,n=k+1:=⟨n-1,O⟩
   refine(aby (λ_=>N) m j k C q F H s P t x w b O).mono λr u z=>?_
   have L:=λi=>eg S i
   rw[z.1,z.2,sL _ _ _ _ _ _ (by simpa using w),Nv s Q g H j k L,EP s Q g _ (L _)];exact⟨K,K⟩
  .intro m n C q F s P a x Q g w S;obtain⟨k,rfl⟩: ∃k,n=k+1:=⟨n-1,O⟩
   refine(Yq (λ_=>N) m k C q F s P x w O).mono λr u z=>?_
   have L:=λi=>eg S i
   rw[z.1,z.2,sL _ _ _ _ _ _ (by simpa using w),Nv s Q g F m k L,EP s Q g _ (L _)];exact⟨K,K⟩
def KG(R:Nat->Option Nat)(z:Nat×Nat)(l c n:Nat)(m:dE)(x:n<=c):
    eM B R 102 [.s (E z) l c,.i .i64 (n:Nat)] m (λr u=>r= .s (E z) n c/\u=m):=by
  refine dL (C3 R) f102 ?_;refine Ev.done (fn:=f102) (eB (j9 R)) (j:=100) (z:=[G]) (s:=[ed (D ((0:Int)<=(n:Nat)/\(n:Int)<=(c:Nat))) (D (0<=n)),D ((n:Int)<=(c:Nat))==G,G]) (r:= .s (E (z.1,z.2)) n c) (u:=m) I ?_ ?_
  .have F:(n:Int)<=(c:Nat):=O;have y:(0:Int)<=(n:Nat):=O;simp[eb,ed,F,y,x]
  .refine⟨?_,K⟩;rfl
def KF(R:Nat->Option Nat)(a:Option (Nat×Nat))(l c n:Nat)(m:dE)(x:c<n)(M:n≠1)(v:n<=1048000):
    eM B R 102 [.s a l c,.i .i64 (n:Nat)] m (λr u=>r= .s (E (m.length,0)) n (n+4)/\u=m++[⟨.ws .u64 (lc (n+4) 0),137⟩]):=by
  have d:U.i64.wrap ((n:Int)+4)=((n+4:Nat):Int):=by rw[qd];omega
  refine dL (C3 R) f102 ?_;refine Ev.done (fn:=f102) (eB (j9 R)) (j:=100) (z:=[A,A]) (s:=[D ((0:Int)<=(n:Nat)/\(n:Int)<=U.i64.wrap ((n:Int)+4)/\0<U.i64.wrap ((n:Int)+4)/\U.i64.wrap ((n:Int)+4)<=1048576),((n:Int)==1)==A,D ((n:Int)<=(c:Nat))==A,G]) (r:= .s (E (m.length,0)) n (U.i64.wrap ((n:Int)+4)).toNat) (u:=m++[⟨.ws .u64 (lc (U.i64.wrap ((n:Int)+4)).toNat 0),137⟩]) I ?_ ?_
  .rw [d];have F: ¬(n:Int)<=(c:Nat):=O;have y:((n:Int)==1)=A:=by rw[kZ];omega
   simp only[dX,eG,y,nB F];exact⟨⟨O,O,O,O⟩,by simp[eb]⟩
  .rw [d,dU];exact⟨K,K⟩
def JB(R:Nat->Option Nat)(a:Option (Nat×Nat))(l:Nat)(m:dE):
    eM B R 102 [.s a l 0,.i .i64 1] m (λr u=>r= .s (E (m.length,0)) 1 1/\u=m++[⟨.ws .u64 [0],137⟩]):=by
  refine dL (C3 R) f102 ?_;exact Ev.done (fn:=f102) (eB (j9 R)) (j:=100) (z:=[]) (s:=[G,G]) (r:= .s (E (m.length,0)) 1 1) (u:=m++[⟨.ws .u64 [0],137⟩]) I K ⟨K,K⟩
def W1(R:Nat->Option Nat):qI B R 183 Sa:=by
  refine jR λargs m r u T=>?_
  have h:=T;unfold Sa at T;split at T
  .rename_i z n C x l q y a;split at T
   .rename_i F P H t o L;have w:=nS o;have b:=nS L;refine dL (C3 R) f183 ?_
    refine Ev.call (Q1:=λv M=>v=r/\M=u) (eB (j9 R)) 100 [] [9,10,11,12] [] (g:=199) (vs:=[.s (E z) n C,.s (E x) l q,.i .u64 y,.i .u64 a]) (d:=E 13)
      (T:=[(9,.s (E z) n C),(10,.s (E x) l q),(11,.i .u64 y),(12,.i .u64 a)]) (q:=m) I K K K (ga f199) (qI.Zb (Xh R) h)
      (by simp[fZ,V.wf,tQ,w,b]) ?_
    rintro v M⟨rfl,rfl⟩_;exact⟨_,K,Ev.done (fn:=f183) (eB (j9 R)) (j:=100) (z:=[]) (s:=[]) (r:=v) (u:=M) I K ⟨K,K⟩⟩
   .cases T
  .cases T
def Wq(R:Nat->Option Nat):qI B R 189 Ud:=by
  refine jR λargs m r u T=>?_
  have h:=T;unfold Ud at T;split at T
  .rename_i z n C x l q y i s c a;split at T
   .rename_i F P p j o Q;simp only[eJ,ef]at T;obtain⟨_,_,f⟩:=T;obtain⟨e,_⟩:=dN f;simp only[eG]at e;have k:z=x:=yw e.2.2.1 e.2.2.2.1;subst k;have w:=nS o;have b:=nS Q;refine dL (C3 R) f189 ?_
    refine Ev.call (Q1:=λv M=>v=r/\M=u) (eB (j9 R)) 100 [] [11,12,13,14,15] [] (g:=202) (vs:=[.s (E z) n C,.s (E z) l q,.s (E y) i s,.i .u64 c,.i .u64 a]) (d:=E 16)
      (T:=[(11,.s (E z) n C),(12,.s (E z) l q),(13,.s (E y) i s),(14,.i .u64 c),(15,.i .u64 a)]) (q:=m) I K K K (ga f202) (qI.Zb (Yj R) h)
      (by simp[fZ,V.wf,tQ,w,b]) ?_
    rintro v M⟨rfl,rfl⟩_;exact⟨_,K,Ev.done (fn:=f189) (eB (j9 R)) (j:=100) (z:=[]) (s:=[]) (r:=v) (u:=M) I K ⟨K,K⟩⟩
   .cases T
  .cases T
noncomputable def inl(R:Nat->Option Nat)(l:List (Nat×jB))(q:List (Nat×QF))(fn:Func)(z:List Bool):jB:=λargs m=>
  match qW (ep R l q) fn.ntmps N 1000 (dB fn) fn.results.toList args m z with
  |some (r,u,s)=>E (r,u,eb s)
  |none=>N
def mV{l:List (Nat×jB)}{q:List (Nat×QF)}(b:fl R l)(a:gf R q){fn:Func}(t:B.funcs[f]?=E fn)(H:fn.body=E (dB fn))(z:List Bool):qI B R f (inl R l q fn z):=by
  refine afv b a t H 1000 λargs m r u T=>?_
  unfold inl at T;split at T
  .rename_i k c s h;simp only[eJ,ef]at T;obtain⟨rfl,rfl,F⟩:=T;exact⟨z,s,h,F⟩
  .cases T
noncomputable def aic(R:Nat->Option Nat)(l:List (Nat×jB))(q:List (Nat×QF))(fn:Func)(i:List Nat)(j:Nat)(z:List Bool):jB:=λargs m=>
  match qW (ep R l q) fn.ntmps (E i) j (dB fn) fn.results.toList args m z with
  |some (r,u,s)=>E (r,u,eb s)
  |none=>N
def U0{l:List (Nat×jB)}{q:List (Nat×QF)}(b:fl R l)(a:gf R q){fn:Func}(t:B.funcs[f]?=E fn)(H:fn.body=E (dB fn))(i:List Nat)(j:Nat)(z:List Bool):qI B R f (aic R l q fn i j z):=by
  intro c m w args r u T y p;unfold aic at T;split at T
  .rename_i k d s h;simp only[eJ,ef]at T;obtain⟨rfl,rfl,F⟩:=T;exact JK (gK b a) t H y p h F
  .cases T
abbrev LV:List (Nat×jB):=[(106,Z6),(108,aim),(161,alv),(162,alb),(183,Sa),(189,Ud)]
abbrev LQ:List (Nat×QF):=(104,PR)::L3
def jF(R:Nat->Option Nat):gf R LQ:=⟨⟨ga f104,NV R⟩,ZK R⟩
def uJ(R:Nat->Option Nat):fl R LV:=
  ⟨⟨
   ga f106,XX R⟩,⟨ga f108,Vb R⟩,
   ⟨ga f161,W3 R⟩,⟨ga f162,WX R⟩,
   ⟨ga f183,W1 R⟩,⟨ga f189,Wq R⟩,dD⟩
def yF{L:List (Nat×jB)}(q:fl R L)(f:Nat)(fn:Func)(z:List Bool)(t:B.funcs[f]?=E fn)(H:fn.body=E (dB fn))(s:((fn.name== "runtime.NumGoroutine") ||fn.body.isNone)=A):
    fl R ((f,inl R L LQ fn z)::L):=⟨⟨od t s,mV q (jF R) t H z⟩,q⟩
noncomputable abbrev LM(R:Nat->Option Nat)(z:List Bool):List (Nat×jB):=(102,inl R LV LQ f102 z)::LV
def avy(R:Nat->Option Nat)(z:List Bool):fl R (LM R z):=yF (uJ R) 102 f102 z I I I
noncomputable abbrev LS(R:Nat->Option Nat)(z:List Bool):List (Nat×jB):=(140,inl R (LM R z) LQ f140 [])::LM R z
def apx(R:Nat->Option Nat)(z:List Bool):fl R (LS R z):=yF (avy R z) 140 f140 [] I I I
def fP(h:o+L.length<=l.length):(dC l L o).length=l.length:=by simp[dC];omega
def It(m:dE)(z:Nat×Nat):oU m z z=ek m.length m:=by simp[oU,ed];split<;>simp_all
def OO(m:dE)(i j o c:Nat)(h:Nat.beq i j=A):oU m (i,o) (j,c)=ek m.length m:=by simp[oU,h]
def fE(l L:List Int)(o:Nat):(dC l L o).length=min o l.length+L.length+(l.length-(o+L.length)):=by simp[dC];omega
def iR{a b:List Int}:dG (a++b)↔dG a/\dG b:=by simp only[dG,List.mem_append];exact⟨λh=>⟨λx L=>h x (.inl L),λx L=>h x (.inr L)⟩,λh x L=>L.elim (h.1 x) (h.2 x)⟩
def dS{a:List Int}(h:dG a)(n:Nat):dG (a.take n):=λx L=>h x (List.mem_of_mem_take L)
def fR{a:List Int}(h:dG a)(n:Nat):dG (a.drop n):=λx L=>h x (Gv L)
def eS(f:dG l)(Q:dG L):dG (dC l L o):=by unfold dC;exact iR.2 ⟨iR.2 ⟨dS f _,Q⟩,fR f _⟩
def dP(n:Nat):dG (lc n 0):=λx L=>by have:=K8 L;subst this;exact⟨O,O⟩
def se:gn 0:=⟨O,O⟩
def kv(n:Nat):val (lc n 0)=0:=by
  induction n with
  |zero=>rfl
  |succ n v=>simp[CI,val,v]
def iz:dC l L 0=L++l.drop L.length:=by simp[dC]
def uq(a b:Nat):pw (a+b)=pw a*pw b:=by simp[pw,Dc]
def gH(n:Nat):0<pw n:=xm O
def kO{a:Bool}{n:Nat}{w:Int}(x:n<=W.length)(s:W.length<=9223372036854775807)(u:dG W)(H:val (W.take n)=w)(i:a=G->w≠0):
    fX a W (gm (λj=>W.getD j 0) n) (if a=G then-w else w):=by
  have b:=Iw (λj=>W.getD j 0) n
  have e:W.take (gm (λj=>W.getD j 0) n)=row (λj=>W.getD j 0) (gm (λj=>W.getD j 0) n):=by have:=xM W 0 (gm (λj=>W.getD j 0) n) O;simpa using this
  have f:W.take n=row (λj=>W.getD j 0) n:=by have:=xM W 0 n O;simpa using this
  have Q:val (W.take (gm (λj=>W.getD j 0) n))=w:=by rw[e,Eu,<-f,H]
  refine⟨O,s,u,E3 _ n,λh C=>i h ?_,by rw[Q]⟩;rw[<-Q,C];rfl
def ic(h:fX n p T v):letI a:=val (p.take T);a=v.natAbs/\a<pw T/\(T≠0->pw (T-1)<=a)/\(n=G->v<0)/\(n=A->0<=v):=by
  have M:=ez (p.take T) (dS h.mM T);have f:(p.take T).length=T:=by have:=h.le;simp;omega
  rw[f]at M
  have S:T≠0->pw (T-1)<=val (p.take T):=λC=>by
    have r:p.getD (T-1) 0≠0:=by
      rcases h.top with h|h
      .exact absurd h C
      .exact h
    have l:p.take T=p.take (T-1)++[p.getD (T-1) 0]:=by
      have z:T-1<p.length:=by have:=h.le;omega
      have:=Ry z;rw[(O:T-1+1=T)]at this;rw[this];simp[ie,jr z]
    rw[l,gb];have u:=ez (p.take (T-1)) (dS h.mM _);have y:(p.take (T-1)).length=T-1:=by simp;have:=h.le;omega
    have d:=eg h.mM (T-1);have c:1<=p.getD (T-1) 0:=by have:=d.1;omega
    simp only[val,o4,jP,y];have:pw (T-1)*1<=pw (T-1)*p.getD (T-1) 0:=gF c (gA (gH _));omega
  have Q:=h.val;have b:=h.sign;refine⟨?_,M.2,S,λx=>?_,λx=>?_⟩
  .split at Q<;>omega
  .rw [x]at Q;simp only[oH]at Q;have:=S (b x);have:=gH (T-1);omega
  .rw [x]at Q;simp only[oP,kT]at Q;omega
def gI(h:fX n p T v):T=0↔v=0:=by
  have M:=ic h;constructor
  .intro C;subst C;have:val (p.take 0)=0:=K;omega
  .intro C;cases np T with
   |inl h=>exact h
   |inr g=>
    have:=M.2.2.1 O;have:=gH (T-1);omega
def jk{a b:Nat}(h:a<=b):pw a<=pw b:=by
  obtain⟨d,rfl⟩: ∃d,b=a+d:=⟨b-a,O⟩
  rw[uq];have M:=gH a;have S:=gH d;have:pw a*1<=pw a*pw d:=gF O O;omega
def fm(h:fX n p T v)(Q:(v.natAbs:Int)<pw k):T<=k:=by
  have M:=ic h;rcases ju k T with S|S
  .have:=M.2.2.1 O;have:=jk (O:k<=T-1);omega
  .exact S
def l8(h:fX n p T v)(Q:pw k<=(v.natAbs:Int)):k<T:=by
  have M:=ic h;rcases ju k T with S|S
  .exact S
  .have:=jk S;omega
def sn{n:Nat}(h:n<=p.length):p.take n=row (λj=>p.getD j 0) n:=by have:=xM p 0 n O;simpa using this
def NX{R:List Int}{n:Nat}{c:Int}(a:n+k+1<=Z.length)(L:R.length=n):
    (dC ((dC Z R k).set (n+k) c) (lc k 0) 0).take (n+k+1)=lc k 0++R++[c]:=by
  have M:(dC Z R k).set (n+k) c=Z.take k++R++([c]++Z.drop (n+k+1)):=by
    rw[s9 _ _ _ (by rw[fP O];omega)];unfold dC
    have T:(Z.take k++R++Z.drop (k+R.length)).take (n+k)=Z.take k++R:=by rw[jO gp]
    have f:(Z.take k++R++Z.drop (k+R.length)).drop (n+k+1)=Z.drop (n+k+1):=by
      rw[s6,sV gp,sP,lR]
      congr 1
      simp;omega
    rw[T,f,qx]
  rw[M,iz,fJ]
  have Q:(Z.take k++R++([c]++Z.drop (n+k+1))).drop k=R++([c]++Z.drop (n+k+1)):=by rw[qx,List.drop_left' gp]
  rw[Q,<-qx,<-qx,jO gp]
def Fw{s:Int}(h:fX n p T v)(C:T≠0)(c:0<s)(b:s<64)(R:T+k+1<=Z.length)(S:Z.length<=9223372036854775807)(H:dG Z)(u:W=dC ((dC Z (row (jc s (λj=>p.getD j 0) T).1 T) k).set (T+k) (jc s (λj=>p.getD j 0) T).2) (lc k 0) 0):
    fX n W (gm (λj=>W.getD j 0) (T+k+1)) (v*2^(64*k+s.toNat))/\W.length=Z.length:=by
  obtain⟨g,z,y⟩:=pq s c b;have L:=λi=>eg h.mM i
  have f:W.length=Z.length:=by rw[u,fP (by rw[gU,fP (by rw[fD];omega)];simp;omega),gU,fP (by rw[fD];omega)]
  refine⟨?_,f⟩
  have Q:val (W.take (T+k+1))=val (p.take T)*pS s*pw k:=by
    rw[u,NX R (fD _ _),qx,gb,gb,fD,fJ,kv];obtain⟨m,d⟩: ∃m,T=m+1:=⟨T-1,O⟩
    have:=GR g z y (λj=>p.getD j 0) m;rw[sn h.le,d];simp only[val,o4,jP,mO,jc,oW];rw[<-this,eD (pw (m+1)),eD]
  have a:dG W:=by
    rw[u];have r:=E1 g z y (p.getD (T-1) 0) (L _)
    have o:pS s<=18446744073709551616:=by have:pS s*1<=pS s*qS s:=gF O O;omega
    exact eS (gu (eS H (vG λi _=>Ng g z y _ L i)) ⟨r.1,by show p.getD (T-1) 0/qS s<18446744073709551616;omega⟩) (dP _)
  have t:=ic h;have q:0<pS s*pw k:=BF g (gH _)
  have F:v*2^(64*k+s.toNat)=if n=G then-(val (p.take T)*pS s*pw k)else val (p.take T)*pS s*pw k:=by
    have e:(2:Int)^(64*k+s.toNat)=pS s*pw k:=by rw[Dc,eD];unfold pS pw;rw[Int.pow_mul];rfl
    have w:=h.val;rw[e,w];split
    .rw [Gj,<-fO]
    .rw [<-fO]
  rw[F];refine kO O O a Q λx M=>?_
  have P:=t.2.2.1 C;have l:=gH (T-1);have:0<val (p.take T)*(pS s*pw k):=BF O q;rw[<-fO]at this;omega
def ew:=eU @nD<|eU @eI.{0}<|eU @fb.{0}<|eU @It<|eU @OO<|eU @fE<|eU @gU.{0}<|eU @fJ.{0}<|eU @fD<|eU @dX<|eU @fM<|eU @bT<|eU @bF<|eU @eG<|eU @rF<|eU @nY.{0}<|eU @kZ.{0}<|eU @kY.{0}<|eU @uH.{0}<|eU @ne_eq.{1}<|eU @iO<|eU @iv<|eU @qd<|eU @eE<|eU @jq<|eU @dU<|eU @fV @im
def iK:=eU @V8<|eU @iy<|eU @mP<|eU @Int.toNat_add<|eU @dU<|eU @lj<|eU @kE<|eU @wO<|eU @oW<|eU @GC<|eU @jo<|eU @ir<|eU @j3<|eU @jP<|eU @mO<|eU @Int.sub_zero<|eU @Int.sub_self<|eU @wZ<|eU @fE<|eU @gU.{0}<|eU @fJ.{0}<|eU @fD @mo
def eu:=eU @ek.eq_1<|eU @ek.eq_2<|eU @mZ.eq_1<|eU @mZ.eq_2<|eU @nd.eq_1<|eU @nd.eq_2<|eU @V.wf.eq_1<|eU @V.wf.eq_2<|eU @V.wf.eq_3<|eU @V.wf.eq_4<|eU @V.wf.eq_5<|eU @V.wf.eq_6<|eU @V.wf.eq_7<|eU @V.wf.eq_8<|eU @V.wf.eq_9<|eU @tQ.eq_1 @tQ.eq_2
def jw(h:P:=by rw[iy O];omega):P:=h
def aLq(h:P:=by rw[eE];omega):P:=h
def rK(h:P:=by rw[gR];omega):P:=h
def kt(h:P:=by decide+kernel):P:=h
def rG(h:P:=by(try simp(disch:=omega)only[iK,Int.reduceToNat,Int.reduceAdd,Int.reduceSub]);(try simp+decide only[dK,dJ,eu,ew,Nat.reduceAdd,Nat.reduceLT]);(try omega)):P:=h
def qc{f:FuncId}{args a:List V}{m H:dE}{r:V}(o:List Nat)(s:eM B (λ_=>N) f a H (λk q=>k=r/\q=H))(L:sJ m (sg o m.length) o H)(x:o.Nodup)(d:ek m.length m=G)(t:args=ml (sg o m.length) a)(e:r.iU (sg o m.length)=r):eM B R f args m (λk q=>k=r/\q=m):=by
  subst t;refine(s.lift (gl:=R) o L x (λ_ _ h=>by cases h) d).mono ?_;rintro Q j⟨g,l,⟨rfl,rfl⟩,_,rfl,rfl⟩;refine⟨e,?_⟩;have w:=uy L;unfold fW;rw[sV O,uW];show ft m o _++[]=m;rw[jx]
  have b: ∀(c:List Nat)(p M:dE),sJ M (sg o m.length) c p->ft M c (p.map (dI.iU (sg o m.length)))=M:=by
    intro c
    induction c with
    |nil=>intro p M h;cases p<;>rfl
    |cons i c v=>
     intro p M h;cases p with
     |nil=>exact h.elim
     |cons y p=>
      simp only[nA,ft];rw[fu h.1];exact v p M h.2.2
  exact b o l m L
def F80:QF:=λargs m=>
  match args with
  |[.s N _ c,.s _ _ _]=>E (.b A,D (c=0))
  |[.s (E z) _ c,.s N _ y]=>E (.b A,D (y=0))
  |[.s (E z) _ c,.s (E x) _ y]=>match m[z.1]?,m[x.1]? with
   |some ⟨.ws .u64 _,_⟩,E ⟨.ws .u64 _,_⟩=>bif Nat.beq z.1 x.1 then E (.b G,ed (D (z.2=x.2/\c=y/\0<c/\c<=9223372036854775807)) (ek m.length m))else E (.b A,ed (D (c<=9223372036854775807/\y<=9223372036854775807)) (ek m.length m))
   |_,_=>N
  |_=>N
abbrev pk(m:dE)(z x:Option (Nat×Nat))(w:List ResultVar)(S u3 u4 o i:Nat)(u:Func)(v F:List Bool):Prop:=(gi w (et (ep (λ_=>N) [] []) S N 200 [.code (dB u)] ⟨fo 0 [.s z u3 u4,.s x o i],m,v,[]⟩))=(G,E (.b A),m,F)
def WG(m:dE)(z x:Option (Nat×Nat))(l i y:Nat):pk m z x f80.results.toList f80.ntmps l 0 i y f80 [] [G]:=dR
def Rp(m:dE)(z x:Option (Nat×Nat))(l i c:Nat):pk m z x f80.results.toList f80.ntmps l (c+1) i 0 f80 [G,A] [G,G,D ((↑(c+1):Int)>0)==G,G]:=dR
abbrev Ay(q l i c:Nat)(w S u:Nat)(u3:List dI)(u4:(List Bool->List Bool))(o:Bool):Prop:=letI a:Int:=(↑(u+1):Int);letI d:Int:=(↑(c+1):Int);(gi f80.results.toList (et (ep (λ_=>N) [] []) f80.ntmps N 200 [.code (dB f80)] ⟨fo 0 [.s (E (0,q)) l (c+1),.s (E (w,S)) i (u+1)],u3,(u4 [G,G]),[]⟩))=(G,E (.b o),u3,[D (0<=U.i64.wrap (a-1)/\U.i64.wrap (a-1)<(↑(a.toNat-0):Int)),G,D (0<=a/\a<=a),G,D (0<=U.i64.wrap (d-1)/\U.i64.wrap (d-1)<(↑(d.toNat-0):Int)),G,D (0<=d/\d<=d),G,D (a>0)==G,G,D (d>0)==G,G])
def adh(F H:List Int)(P t:es)(q s:Nat)(l i c y:Nat):Ay q l i c 1 s y [⟨.ws .u64 F,P⟩,⟨.ws .u64 H,t⟩] (λS=>S) A:=dR
def ajd(F:List Int)(P:es)(q:Nat)(l i c:Nat):letI a:Nat:=dH q (U.i64.wrap ((↑(c+1):Int)-1)).toNat 1;Ay q l i c 0 q c [⟨.ws .u64 F,P⟩] (λS=>G::S) (Nat.beq 0 0&&a.beq a):=dR
def aji(R:Nat->Option Nat):oR B R 80 F80:=by
  have j: ∀(R:Nat->Option Nat)(m:dE)(z x:Option (Nat×Nat))(l i y:Nat),eM B R 80 [.s z l 0,.s x i y] m (λv u=>v= .b A/\u=m):=λR m z x l i y=>by refine dL (ep R [] []) f80 ?_;refine Ev.done (fn:=f80) lP (j:=200) (z:=[]) (WG m z x l i y) K ⟨K,K⟩
  have k: ∀(R:Nat->Option Nat)(m:dE)(z x:Option (Nat×Nat))(l i c:Nat),eM B R 80 [.s z l c,.s x i 0] m (λv u=>v= .b A/\u=m):=λR m z x l i c=>by
    cases c with
    |zero=>exact j R m z x l i 0
    |succ c=>
     refine dL (ep R [] []) f80 ?_;refine Ev.done (fn:=f80) lP (j:=200) (z:=[G,A]) (Rp m z x l i c) (by simp only[eu,ew,Nat.reduceAdd,Nat.reduceLT];omega) ⟨K,K⟩
  refine gD λargs m r a=>?_
  unfold F80 at a;split at a
  .rename_i l c x i y;simp only[eJ,ef,eG]at a;obtain⟨rfl,rfl⟩:=a;exact j R m N x l i y
  .rename_i z l c i y;simp only[eJ,ef,eG]at a;obtain⟨rfl,rfl⟩:=a;exact k R m _ N l i c
  .rename_i z l c x i y;split at a
   .rename_i F P H t o L;cases Q:Nat.beq z.1 x.1 with
    |true=>
     rw[Q]at a;simp only[gq,eJ,ef]at a;obtain⟨rfl,e⟩:=a;obtain⟨M,S⟩:=dN e;simp only[eG]at M;obtain⟨T,rfl,C,s⟩:=M;have f:=iB Q;have g:z=x:=yw f T;subst g;obtain⟨d,rfl⟩: ∃d,c=d+1:=⟨c-1,O⟩
     refine qc (r:= .b G) (H:=[⟨.ws .u64 F,P⟩]) [z.1] ?_ ⟨o,K,dD⟩ Y S (a:=[.s (E (0,z.2)) l (d+1),.s (E (0,z.2)) i (d+1)]) K K;refine dL (ep _ [] []) f80 ?_;refine Ev.done (fn:=f80) lP (j:=200) (z:=[G,G,G]) (ajd F P z.2 l i d) (by simp only[eu,ew,Nat.reduceAdd,Nat.reduceLT];simp(disch:=omega)only[iK,Int.reduceToNat,Int.reduceAdd,Int.reduceSub];simp;omega) ⟨Y,K⟩
    |false=>
     rw[Q]at a;simp only[gr,eJ,ef]at a;obtain⟨rfl,e⟩:=a;obtain⟨M,S⟩:=dN e;simp only[eG]at M;have b:=gW Q;cases c with
     |zero=>exact j R m _ _ l i y
     |succ c=>
      cases y with
      |zero=>exact k R m _ _ l i _
      |succ y=>
       refine qc (r:= .b A) (H:=[⟨.ws .u64 F,P⟩,⟨.ws .u64 H,t⟩]) [z.1,x.1] ?_ ⟨o,K,L,K,dD⟩ (by simp[b]) S (a:=[.s (E (0,z.2)) l (c+1),.s (E (1,x.2)) i (y+1)]) K K;refine dL (ep _ [] []) f80 ?_;refine Ev.done (fn:=f80) lP (j:=200) (z:=[G,G]) (adh F H P t z.2 x.2 l i c y) (by simp only[eu,ew,Nat.reduceAdd,Nat.reduceLT];simp(disch:=omega)only[iK,Int.reduceToNat,Int.reduceAdd,Int.reduceSub];omega) ⟨K,K⟩
   .cases a
  .cases a
def ahs:QF:=λargs m=>
  match args with
  |[.s N l _,.s _ _ _]=>E (.b A,D (l=0))
  |[.s (E _) l _,.s N i _]=>E (.b A,D (i=0))
  |[.s (E z) l _,.s (E x) i _]=>match m[z.1]?,m[x.1]? with
   |some ⟨.ws .u64 _,_⟩,E ⟨.ws .u64 _,_⟩=>bif Nat.beq z.1 x.1 then N else E (.b A,ek m.length m)
   |_,_=>N
  |_=>N
def aio(m:dE)(z x:Option (Nat×Nat))(l i c y:Nat):pk m z x f139.results.toList f139.ntmps l c i y f139 [A,A] ((λS=>G::(((l:Int)==(i:Int))==A)::S) [G,G]):=dR
def Xz(m:dE)(z x:Option (Nat×Nat))(c y:Nat):pk m z x f139.results.toList f139.ntmps 0 c 0 y f139 [G,A] ((λS=>G::G::G::S) [G,G]):=dR
def ade(F H:List Int)(P t:es)(q s:Nat)(l c y:Nat):letI a:Int:=(↑(l+1):Int);letI d:dE:=[⟨.ws .u64 F,P⟩,⟨.ws .u64 H,t⟩];letI e:Prop:=(0:Int)<=0/\0<a;(gi f139.results.toList (et (ep (λ_=>N) [] []) f139.ntmps N 200 [.code (dB f139)] ⟨fo 0 [.s (E (0,q)) (l+1) c,.s (E (1,s)) (l+1) y],d,[G,G],[]⟩))=(G,E (.b A),d,[decide e,decide e,D (a>0)==G,G,(a==a)==G,G,G]):=I
def V5(R:Nat->Option Nat):oR B R 139 ahs:=by
  have j: ∀(R:Nat->Option Nat)(m:dE)(z x:Option (Nat×Nat))(l i c y:Nat),l≠i->eM B R 139 [.s z l c,.s x i y] m (λv u=>v= .b A/\u=m):=λR m z x l i c y h=>by refine dL (ep R [] []) f139 ?_;refine Ev.done (fn:=f139) lP (j:=200) (z:=[A,A]) (aio m z x l i c y) (by simp only[eu,ew,Nat.reduceAdd,Nat.reduceLT];omega) ⟨K,K⟩
  have k: ∀(R:Nat->Option Nat)(m:dE)(z x:Option (Nat×Nat))(c y:Nat),eM B R 139 [.s z 0 c,.s x 0 y] m (λv u=>v= .b A/\u=m):=λR m z x c y=>by refine dL (ep R [] []) f139 ?_;exact Ev.done (fn:=f139) lP (j:=200) (z:=[G,A]) (Xz m z x c y) K ⟨K,K⟩
  have a: ∀(R:Nat->Option Nat)(m:dE)(z x:Option (Nat×Nat))(l i c y:Nat),l=0∨i=0->eM B R 139 [.s z l c,.s x i y] m (λv u=>v= .b A/\u=m):=λR m z x l i c y h=>by
    by_cases f:l=i
    .subst f;have:l=0:=O;subst this;exact k R m z x c y
    .exact j R m z x l i c y f
  refine gD λargs m r T=>?_
  unfold ahs at T;split at T
  .rename_i l c x i y;simp only[eJ,ef,eG]at T;obtain⟨rfl,rfl⟩:=T;exact a R m N x 0 i c y (.inl K)
  .rename_i z l c i y;simp only[eJ,ef,eG]at T;obtain⟨rfl,rfl⟩:=T;exact a R m _ N l 0 c y (.inr K)
  .rename_i z l c x i y;split at T
   .rename_i F P H t o L;cases Q:Nat.beq z.1 x.1 with
    |true=>rw[Q]at T;cases T
    |false=>
     rw[Q]at T;simp only[gr,eJ,ef]at T;obtain⟨rfl,S⟩:=T;have d:=gW Q;by_cases f:l=i
     .subst f;cases l with
      |zero=>exact k R m _ _ c y
      |succ l=>
       refine qc (r:= .b A) (H:=[⟨.ws .u64 F,P⟩,⟨.ws .u64 H,t⟩]) [z.1,x.1] ?_ ⟨o,K,L,K,dD⟩ (by simp[d]) S (a:=[.s (E (0,z.2)) (l+1) c,.s (E (1,x.2)) (l+1) y]) K K;refine dL (ep _ [] []) f139 ?_;refine Ev.done (fn:=f139) lP (j:=200) (z:=[G,G]) (ade F H P t z.2 x.2 l c y) (by simp only[eu,ew,Nat.reduceAdd,Nat.reduceLT];omega) ⟨K,K⟩
     .exact j R m _ _ l i c y f
   .cases T
  .cases T
abbrev LR:List (Nat×QF):=(80,F80)::(139,ahs)::LQ
def eP(R:Nat->Option Nat):gf R LR:=
  ⟨⟨ga f80,aji R⟩,⟨ga f139,V5 R⟩,jF R⟩
noncomputable abbrev put(R:Nat->Option Nat)(L:List (Nat×jB))(f:Nat)(fn:Func)(z:List Bool):List (Nat×jB):=(f,inl R L LR fn z)::L
def ks{L:List (Nat×jB)}(q:fl R L){fn:Func}{z:List Bool}(t:B.funcs[f]?=E fn)(H:fn.body=E (dB fn))(s:((fn.name== "runtime.NumGoroutine") ||fn.body.isNone)=A):
    fl R (put R L f fn z):=⟨⟨od t s,mV q (eP R) t H z⟩,q⟩
def FV:B.funcs[102]?=E f102/\f102.body=E (dB f102)/\((f102.name== "runtime.NumGoroutine") ||f102.body.isNone)=A:=⟨I,I,I⟩
def N7:B.funcs[140]?=E f140/\f140.body=E (dB f140)/\((f140.name== "runtime.NumGoroutine") ||f140.body.isNone)=A:=⟨I,I,I⟩
def OW:B.funcs[141]?=E f141/\f141.body=E (dB f141)/\((f141.name== "runtime.NumGoroutine") ||f141.body.isNone)=A:=⟨I,I,I⟩
def O4:B.funcs[105]?=E f105/\f105.body=E (dB f105)/\((f105.name== "runtime.NumGoroutine") ||f105.body.isNone)=A:=⟨I,I,I⟩
def afm:B.funcs[117]?=E f117/\f117.body=E (dB f117)/\((f117.name== "runtime.NumGoroutine") ||f117.body.isNone)=A:=⟨I,I,I⟩
def NY:B.funcs[118]?=E f118/\f118.body=E (dB f118)/\((f118.name== "runtime.NumGoroutine") ||f118.body.isNone)=A:=⟨I,I,I⟩
def Z7:B.funcs[131]?=E f131/\f131.body=E (dB f131)/\((f131.name== "runtime.NumGoroutine") ||f131.body.isNone)=A:=⟨I,I,I⟩
def aix:B.funcs[110]?=E f110/\f110.body=E (dB f110)/\((f110.name== "runtime.NumGoroutine") ||f110.body.isNone)=A:=⟨I,I,I⟩
noncomputable abbrev M1(R:Nat->Option Nat)(q:List Bool):List (Nat×jB):=put R LV 102 f102 q
def aqv(R:Nat->Option Nat)(q:List Bool):fl R (M1 R q):=ks (uJ R) FV.1 FV.2.1 FV.2.2
noncomputable abbrev M2(R:Nat->Option Nat)(q:List Bool):List (Nat×jB):=put R (put R (put R (M1 R q) 140 f140 []) 141 f141 []) 105 f105 []
def YO(R:Nat->Option Nat)(q:List Bool):fl R (M2 R q):=ks (ks (ks (aqv R q) N7.1 N7.2.1 N7.2.2) OW.1 OW.2.1 OW.2.2) O4.1 O4.2.1 O4.2.2
noncomputable abbrev RZ(R:Nat->Option Nat)(q o:List Bool):=put R (M2 R q) 117 f117 o
def Bl(R:Nat->Option Nat)(q o:List Bool):fl R (RZ R q o):=ks (YO R q) afm.1 afm.2.1 afm.2.2
noncomputable abbrev abg(R:Nat->Option Nat)(q o:List Bool):=put R (M2 R q) 118 f118 o
def py(R:Nat->Option Nat)(q o:List Bool):fl R (abg R q o):=ks (YO R q) NY.1 NY.2.1 NY.2.2
def dM(n:Nat):Nat:=if n=1 then 1 else n+4
def gL(n:Nat):n<=dM n/\dM n<=n+4:=by unfold dM;split<;>omega
def oK:jB:=λargs m=>
  match args with
  |[.s _ _ c,.i .i64 n]=>E (.s (E (m.length,0)) n.toNat (dM n.toNat),m++[⟨.ws .u64 (lc (dM n.toNat) 0),137⟩],D ((c:Int)<n/\n<=1048000))
  |_=>N
def mG:jB:=λargs m=>
  match args with
  |[.s (E z) _ c,.i .i64 n]=>E (.s (E z) n.toNat c,m,D (0<=n/\n<=c))
  |_=>N
def Nh(R:Nat->Option Nat):qI B R 102 oK:=by
  refine jR λargs m r u T=>?_
  unfold oK at T;split at T
  .rename_i a l c n;simp only[eJ,ef,eG]at T;obtain⟨rfl,rfl,M,S⟩:=T;obtain⟨n,rfl⟩:=fy (O:0<=n);by_cases x:n=1
   .subst x;have:c=0:=O;subst this;exact JB R a l m
   .have:=KF R a l c n m O x O;have e:dM (Int.toNat (n:Nat))=n+4:=by simp[dM,x]
    rw[e];exact this
  .cases T
def MW(R:Nat->Option Nat):qI B R 102 mG:=by
  refine jR λargs m r u T=>?_
  unfold mG at T;split at T
  .rename_i z l c n;simp only[eJ,ef,eG]at T;obtain⟨rfl,rfl,M,S⟩:=T;obtain⟨n,rfl⟩:=fy M;exact KG R z l c n m O
  .cases T
abbrev N1(F:jB):List (Nat×jB):=(102,F)::LV
def DP(R:Nat->Option Nat):fl R (N1 oK):=⟨⟨od FV.1 FV.2.2,Nh R⟩,uJ R⟩
def wA(R:Nat->Option Nat):fl R (N1 mG):=⟨⟨od FV.1 FV.2.2,MW R⟩,uJ R⟩
noncomputable abbrev N2(R:Nat->Option Nat)(F:jB):List (Nat×jB):=put R (put R (put R (N1 F) 140 f140 []) 141 f141 []) 105 f105 []
def wG{F:jB}(h:fl R (N1 F)):fl R (N2 R F):=ks (ks (ks h N7.1 N7.2.1 N7.2.2) OW.1 OW.2.1 OW.2.2) O4.1 O4.2.1 O4.2.2
noncomputable abbrev Yv(R:Nat->Option Nat)(F:jB)(o:List Bool):=put R (N2 R F) 118 f118 o
def vn{F:jB}{o:List Bool}(h:fl R (N1 F)):fl R (Yv R F o):=ks (wG h) NY.1 NY.2.1 NY.2.2
noncomputable abbrev amj(R:Nat->Option Nat)(F:jB)(q o:List Bool):=put R (put R (N2 R F) 131 f131 q) 110 f110 o
def yO{F:jB}{q o:List Bool}(h:fl R (N1 F)):fl R (amj R F q o):=ks (ks (wG h) Z7.1 Z7.2.1 Z7.2.2) aix.1 aix.2.1 aix.2.2
noncomputable abbrev T77:List Item:=gQ (dB f77) 0 []
abbrev C00:fw:=ep (λ_=>N) [] []
abbrev tY(q s l c y:Nat)(F H:List Int)(P t:es)(w:List Bool)(S:Int)(u:(List Bool->List Bool))(u3:Bool):Prop:=letI a:dE:=[⟨.ws .u64 F,P⟩,⟨.ws .u64 H,t⟩];letI b:Prop:=(0:Int)<=0/\0<(l:Int);(gi f77.results.toList (et (C00) f77.ntmps N 200 T77 ⟨[(0,.s (E (0,q)) l c),(1,.s (E (1,s)) l y),(4,.i .i64 0),(7,.i .i64 0)],a,w,[]⟩))=(G,E (.i .i64 S),a,(u [D (F.getD (dH q 0 1) 0<H.getD (dH s 0 1) 0)==u3,D (dH s 0 1<H.length),decide b,D (dH q 0 1<F.length),decide b,G,G]))
def abv(q s l c y:Nat)(F H:List Int)(P t:es):tY q s l c y F H P t [A,A,G] ((-1:Int)) (λS=>S) G:=dR
def ajb(q s l c y:Nat)(F H:List Int)(P t:es):letI a:Prop:=(0:Int)<=0/\0<(l:Int);tY q s l c y F H P t [A,A,A,G] 1 (λS=>(D (F.getD (dH q 0 1) 0>H.getD (dH s 0 1) 0)==G)::D (dH s 0 1<H.length)::decide a::D (dH q 0 1<F.length)::decide a::S) A:=dR
def aaf(q s l c y:Nat)(F H:List Int)(P t:es):letI a:Prop:=(0:Int)<=0/\0<(l:Int);tY q s l c y F H P t [A,A,A,A] 0 (λS=>(D (F.getD (dH q 0 1) 0>H.getD (dH s 0 1) 0)==A)::D (dH s 0 1<H.length)::decide a::D (dH q 0 1<F.length)::decide a::S) A:=dR
abbrev AH(q s l c y i:Nat)(F H:List Int)(P t:es)(w u:(List Bool->List Bool))(S:Int)(u3:Bool):Prop:=letI a:Int:=(↑(i+1):Int);letI b:Bool:=D (0<=a/\a<(l:Int));letI d:=a.toNat;letI e:dE:=[⟨.ws .u64 F,P⟩,⟨.ws .u64 H,t⟩];letI f:Nat:=dH q d 1;letI g:Nat:=dH s d 1;letI h:=D (g<H.length);letI j:=D (f<F.length);(gi f77.results.toList (et (C00) f77.ntmps N 200 T77 ⟨[(0,.s (E (0,q)) l c),(1,.s (E (1,s)) l y),(4,.i .i64 0),(7,.i .i64 ((i+1:Nat):Int))],e,(w [A,G]),[]⟩))=(G,E (.i .i64 S),e,(u [D (F.getD f 0<H.getD g 0)==u3,h,b,j,b,(F.getD f 0==H.getD g 0)==A,h,b,j,b,D (a>0)==G]))
def abn(q s l c y i:Nat)(F H:List Int)(P t:es):AH q s l c y i F H P t (λS=>G::S) (λS=>S) ((-1:Int)) G:=dR
def aia(q s l c y i:Nat)(F H:List Int)(P t:es):letI a:Int:=(↑(i+1):Int);letI b:=a.toNat;letI d:Prop:=0<=a/\a<(l:Int);AH q s l c y i F H P t (λS=>G::A::S) (λS=>(D (F.getD (dH q b 1) 0>H.getD (dH s b 1) 0)==G)::D (dH s b 1<H.length)::decide d::D (dH q b 1<F.length)::decide d::S) 1 A:=dR
def afa(q s l c y i:Nat)(F H:List Int)(P t:es):letI a:Int:=(↑(i+1):Int);letI b:dE:=[⟨.ws .u64 F,P⟩,⟨.ws .u64 H,t⟩];letI d:=a.toNat;letI e:Prop:=0<=a/\a<(l:Int);letI f:V:= .s (E (1,s)) l y;(oS (eC (C00) f77.ntmps 200 [0,1,4,7] T77 ⟨[(0,.s (E (0,q)) l c),(1,f),(4,.i .i64 0),(7,.i .i64 ((i+1:Nat):Int))],b,[G,G],[]⟩))=(T77,[(0,.s (E (0,q)) l c),(1,f),(4,.i .i64 0),(7,.i .i64 (U.i64.wrap (a-1)))],b,[(F.getD (dH q d 1) 0==H.getD (dH s d 1) 0)==G,D (dH s d 1<H.length),decide e,D (dH q d 1<F.length),decide e,D (a>0)==G]):=I
def N0(q s l c y:Nat)(F H:List Int)(P t:es):letI a:dE:=[⟨.ws .u64 F,P⟩,⟨.ws .u64 H,t⟩];letI b:=(l:Int);letI d:V:= .s (E (1,s)) l y;(oS (eC (C00) f77.ntmps 200 [0,1,4,7] [.code (dB f77)] ⟨fo 0 [.s (E (0,q)) l c,d],a,[A,A],[]⟩))=(T77,[(0,.s (E (0,q)) l c),(1,d),(4,.i .i64 0),(7,.i .i64 (U.i64.wrap (b-1)))],a,[(b==0)==A,(b !=b)==A,G,G]):=I
abbrev uB(z x:Option (Nat×Nat))(c y:Nat)(m:dE)(w S:Nat)(u:List Bool)(u3:Int)(u4:(List Bool->List Bool)):Prop:=(gi f77.results.toList (et (C00) f77.ntmps N 200 [.code (dB f77)] ⟨fo 0 [.s z w c,.s x S y],m,u,[]⟩))=(G,E (.i .i64 u3),m,(u4 [G,G]))
def aap(z x:Option (Nat×Nat))(l i c y:Nat)(m:dE):uB z x c y m l i [G,G,G] ((-1:Int)) (λS=>(D ((l:Int)<(i:Int))==G)::G::(((l:Int)!=(i:Int))==G)::S):=dR
def aih(z x:Option (Nat×Nat))(l i c y:Nat)(m:dE):letI a:=(i:Int);letI b:=(l:Int);uB z x c y m l i [G,G,A,G] 1 (λS=>(D (b>a)==G)::(D (b<a)==A)::G::((b !=a)==G)::S):=dR
def X5(z x:Option (Nat×Nat))(c y:Nat)(m:dE):uB z x c y m 0 0 [A,G,A,A] 0 (λS=>(G)::(G)::G::(G)::S):=dR
def vA(a b:Int):Int:=if a<b then-1 else if b<a then 1 else 0
def SS{x y:Nat->Int}(L: ∀i,gn (x i))(Q: ∀i,gn (y i)){i:Nat}(h:x i<y i):val (row x (i+1))<val (row y (i+1)):=by
  rw[gX,gX];have M:=ez (row x i) (vG λj _=>L j);have S:=ez (row y i) (vG λj _=>Q j);rw[fD]at M S
  have l:pw i*x i+pw i<=pw i*y i:=by have:pw i*(x i+1)<=pw i*y i:=gF O (gA (gH i));rw[fh,jU]at this;exact this
  omega
def Tm(q s l c n:Nat)(F H:List Int)(P t:es)(f:l<4294967296)(o:q+l<=F.length)(L:s+l<=H.length)(p:dG F)(S:dG H):letI a:dE:=[⟨.ws .u64 F,P⟩,⟨.ws .u64 H,t⟩];∀
      i:Nat,i<l->Ev B C00 77 64 2 [] T77 [(0,.s (E (0,q)) l c),(1,.s (E (1,s)) l n),(4,.i .i64 0),(7,.i .i64 (i:Nat))] a
      (λr u=>r= .i .i64 (vA (val (row (λj=>F.getD (q+j) 0) (i+1))) (val (row (λj=>H.getD (s+j) 0) (i+1))))/\u=a):=by
  have Q: ∀i,gn (F.getD (q+i) 0):=λi=>eg p _
  have k: ∀i,gn (H.getD (s+i) 0):=λi=>eg S _
  have m: ∀i,F.getD (q+i) 0<H.getD (s+i) 0->vA (val (row (λj=>F.getD (q+j) 0) (i+1))) (val (row (λj=>H.getD (s+j) 0) (i+1)))= -1:=λi h=>by have:=SS (x:=λj=>F.getD (q+j) 0) (y:=λj=>H.getD (s+j) 0) Q k h;unfold vA;rw[if_pos this]
  have w: ∀i,H.getD (s+i) 0<F.getD (q+i) 0->vA (val (row (λj=>F.getD (q+j) 0) (i+1))) (val (row (λj=>H.getD (s+j) 0) (i+1)))=1:=λi h=>by have:=SS (x:=λj=>H.getD (s+j) 0) (y:=λj=>F.getD (q+j) 0) k Q h;unfold vA;rw[if_neg O,if_pos this]
  intro i
  induction i with
  |zero=>
   intro g;rcases Int.lt_trichotomy (F.getD (q+0) 0) (H.getD (s+0) 0)with h|h|h
   .refine Ev.done lP (abv q s l c n F H P t) ?_ ?_
    .simp only[j3]at h;exact rG
    .rw [m 0 h];exact⟨K,K⟩
   .refine Ev.done lP (aaf q s l c n F H P t) ?_ ?_
    .simp only[j3]at h;exact rG
    .have e:vA (val (row (λj=>F.getD (q+j) 0) (0+1))) (val (row (λj=>H.getD (s+j) 0) (0+1)))=0:=by
       have:val (row (λj=>F.getD (q+j) 0) (0+1))=val (row (λj=>H.getD (s+j) 0) (0+1)):=by rw[gX,gX];show _+pw 0*F.getD (q+0) 0=_+pw 0*H.getD (s+0) 0;rw[h];rfl
       rw[this];simp[vA]
     rw[e];exact⟨K,K⟩
   .refine Ev.done lP (ajb q s l c n F H P t) ?_ ?_
    .simp only[j3]at h;exact rG
    .rw [w 0 h];exact⟨K,K⟩
  |succ i v=>
   intro g;rcases Int.lt_trichotomy (F.getD (q+(i+1)) 0) (H.getD (s+(i+1)) 0)with h|h|h
   .refine Ev.done lP (abn q s l c n i F H P t) ?_ ?_
    ·(try simp(disch:=omega)only[iK,Int.reduceToNat,Int.reduceAdd,Int.reduceSub]);(try simp+decide only[eu,ew,Nat.reduceAdd,Nat.reduceLT]);(try omega)
    .rw [m (i+1) h];exact⟨K,K⟩
   .refine fa lP (afa q s l c n i F H P t) ?_ K ?_
    ·(try simp(disch:=omega)only[iK,Int.reduceToNat,Int.reduceAdd,Int.reduceSub]);(try simp+decide only[eu,ew,Nat.reduceAdd,Nat.reduceLT]);(try omega)
    .simp only[nq i O]
     have e:vA (val (row (λj=>F.getD (q+j) 0) (i+1+1))) (val (row (λj=>H.getD (s+j) 0) (i+1+1)))=vA (val (row (λj=>F.getD (q+j) 0) (i+1))) (val (row (λj=>H.getD (s+j) 0) (i+1))):=by
       rw[gX _ (i+1),gX (λj=>H.getD (s+j) 0) (i+1),h];unfold vA;have T: ∀a b d:Int,(a+d<b+d)=(a<b):=λa b d=>Y
       simp only[T]
     rw[e];exact v O
   .refine Ev.done lP (aia q s l c n i F H P t) ?_ ?_
    ·(try simp(disch:=omega)only[iK,Int.reduceToNat,Int.reduceAdd,Int.reduceSub]);(try simp+decide only[eu,ew,Nat.reduceAdd,Nat.reduceLT]);(try omega)
    .rw [w (i+1) h];exact⟨K,K⟩
def YV:QF:=λargs m=>
  match args with
  |[.s (E z) l _,.s (E x) i _]=>match m[z.1]?,m[x.1]? with
   |some ⟨.ws .u64 F,_⟩,E ⟨.ws .u64 H,_⟩=>
    E (.i .i64 (if l<i then-1 else if i<l then 1 else vA (val ((F.drop z.2).take l)) (val ((H.drop x.2).take l))),
      ed (D (l<4294967296/\z.2+l<=F.length/\x.2+i<=H.length/\dG F/\dG H)) (ed (!(Nat.beq z.1 x.1)) (ek m.length m)))
   |_,_=>N
  |_=>N
def C7(R:Nat->Option Nat):oR B R 77 YV:=by
  refine gD λargs m r T=>?_
  unfold YV at T;split at T
  .rename_i z l c x i y;split at T
   .rename_i F P H t o L;simp only[eJ,ef]at T;obtain⟨rfl,e⟩:=T;obtain⟨M,S⟩:=dN e;obtain⟨S,g⟩:=dN S;simp only[eG]at M;obtain⟨f,w,b,u,a⟩:=M;have d:z.1≠x.1:=gW (by simpa using S);rcases nf l i with h|h|h
    .rw [if_pos h];refine dL (ep R [] []) f77 ?_;exact Ev.done (fn:=f77) lP (j:=200) (z:=[G,G,G]) (aap (E z) (E x) l i c y m) rG ⟨K,K⟩
    .subst h;rw[if_neg (zq _),if_neg (zq _)];rcases np l with C|C
     .subst C;refine dL (ep R [] []) f77 ?_;exact Ev.done (fn:=f77) lP (j:=200) (z:=[A,G,A,A]) (X5 (E z) (E x) c y m) rG ⟨K,K⟩
     .refine qc (r:= .i .i64 _) (H:=[⟨.ws .u64 F,P⟩,⟨.ws .u64 H,t⟩]) [z.1,x.1] ?_ ⟨o,K,L,K,dD⟩ (by simp[d]) g (a:=[.s (E (0,z.2)) l c,.s (E (1,x.2)) l y]) K K;refine dL _ f77 (fa lP (N0 z.2 x.2 l c y F H P t) ?_ K ?_)
      ·(try simp(disch:=omega)only[iK,Int.reduceToNat,Int.reduceAdd,Int.reduceSub]);(try simp+decide only[eu,ew,Nat.reduceAdd,Nat.reduceLT]);(try omega)
      .obtain⟨k,rfl⟩: ∃k,l=k+1:=⟨l-1,O⟩
       simp only[nq k O];rw[xM F z.2 (k+1) w,xM H x.2 (k+1) b];exact Tm z.2 x.2 (k+1) c y F H P t f w b u a k O
    .rw [if_neg O,if_pos h];refine dL (ep R [] []) f77 ?_;exact Ev.done (fn:=f77) lP (j:=200) (z:=[G,G,A,G]) (aih (E z) (E x) l i c y m) rG ⟨K,K⟩
   .cases T
  .cases T
noncomputable abbrev Jp:List Item:=gQ (dB f107) 0 []
abbrev Se:fw:=ep (λ_=>N) [] L2
def rA:ji B Se:=gy dD (Jd _)
abbrev yC(m n C q i:Nat)(w S:Nat)(u:List dI):Prop:=(gi f107.results.toList (et Se f107.ntmps N 200 Jp ⟨[(0,.s (E (0,m)) n C),(1,.s (E (w,S)) n q),(9,.i .i64 (i:Nat))],u,[A],[]⟩))=(G,E (.i .u64 1),u,[D ((i:Int)<(n:Int))==A,G])
def VL(m j n C q i:Nat)(F H:List Int)(P t:es):yC m n C q i 0 m [⟨.ws .u64 F,P⟩]:=dR
abbrev ye(m n C q i:Nat)(F:List Int)(w S o:Nat)(u u3:List dI)(u4:Int):Prop:=letI a:=(i:Int);letI b:=a<(n:Int);letI c:V:= .s (E (w,S)) n q;letI d:V:= .s (E (0,m)) n C;(oS (eC Se f107.ntmps 200 [0,1,9] Jp ⟨[(0,d),(1,c),(9,.i .i64 (i:Nat))],u,[G,A],[]⟩))=(Jp,[(0,d),(1,c),(9,.i .i64 (U.i64.wrap (a+1)))],u3,[D (1=1/\dH m a.toNat 1<F.length),D (0<=a/\b),(u4 !=18446744073709551615)==A,D (dH S a.toNat 1<o),D (0<=a/\b),D b==G,G])
def Xn(m j n C q i:Nat)(F H:List Int)(P t:es):letI a:Nat:=dH m (i:Int).toNat 1;ye m n C q i F 0 m F.length [⟨.ws .u64 F,P⟩] [⟨.ws .u64 (F.set a 0),P⟩] (F.getD a (0:Int)):=dR
def Yk(m j n C q i:Nat)(F H:List Int)(P t:es):yC m n C q i 1 j [⟨.ws .u64 F,P⟩,⟨.ws .u64 H,t⟩]:=dR
def VW(m j n C q i:Nat)(F H:List Int)(P t:es):letI a:dI:=⟨.ws .u64 H,t⟩;ye m n C q i F 1 j H.length [⟨.ws .u64 F,P⟩,a] [⟨.ws .u64 (F.set (dH m (i:Int).toNat 1) 0),P⟩,a] (H.getD (dH j (i:Int).toNat 1) (0:Int)):=dR
def P8(m n C q i:Nat)(F:List Int)(P:es):letI b:=(i:Int);letI a:Nat:=dH m b.toNat 1;letI c:=(n:Int);letI d:Int:=(0:Int);(gi f107.results.toList (et Se f107.ntmps N 200 Jp ⟨[(0,.s (E (0,m)) n C),(1,.s (E (0,m)) n q),(9,.i .i64 (i:Nat))],[⟨.ws .u64 F,P⟩],[G,G,A],[]⟩))=(G,E (.i .u64 0),[⟨.ws .u64 (F.set a (U.u64.wrap (F.getD a d+1))),P⟩],[(!(Nat.beq 0 0&&(dH m 0 1).beq (dH m 0 1)))==A,D (d<=0/\0<c),D (d<=0/\0<c),D (1=1/\a<F.length),D (0<=b/\b<c),(F.getD a d !=18446744073709551615)==G,D (a<F.length),D (0<=b/\b<c),D (b<c)==G,G]):=I
def P0(m o n C q i:Nat)(F H:List Int)(P t:es):letI b:=(i:Int);letI a:Int:=U.i64.wrap (b+1);letI h:=b.toNat;letI f:Int:=H.getD (dH o h 1) (0:Int);letI c:List Int:=F.set (dH m h 1) (U.u64.wrap (f+1));letI g:=a.toNat;letI d:=n-g;letI e:=(n:Int);letI j:dI:=⟨.ws .u64 H,t⟩;letI k:Prop:=(0:Int)<=0/\0<e;letI l:=d.min d;(gi f107.results.toList (et Se f107.ntmps N 200 Jp ⟨[(0,.s (E (0,m)) n C),(1,.s (E (1,o)) n q),(9,.i .i64 (i:Nat))],[⟨.ws .u64 F,P⟩,j],[G,G],[]⟩))=(G,E (.i .u64 0),[⟨.ws .u64 (dC c (jp l (kw (eO o q g 1) H)) (eO m C g 1)),P⟩,j],[D (eO o q g 1+l<=H.length/\eO m C g 1+l<=c.length),ed (D (n<=q)) (D (0<=a/\a<=e)),ed (D (n<=C)) (D (0<=a/\a<=e)),decide k,decide k,D (1=1/\dH m h 1<F.length),D (0<=b/\b<e),(f !=18446744073709551615)==G,D (dH o h 1<H.length),D (0<=b/\b<e),D (b<e)==G,G]):=I
abbrev wH(m n C q:Nat)(y:Int)(F:List Int)(w S v:Nat)(u u4:List dI)(u3:List Bool)(o:(List Bool->List Bool))(i:Int):Prop:=letI b:Int:=(↑(n+1):Int);letI a:Bool:=D ((0:Int)<=0/\0<b);(gi f107.results.toList (et Se f107.ntmps N 200 [.code (dB f107)] ⟨fo 0 [.s (E (0,m)) (n+1) C,.s (E (w,S)) (n+1) q,.i .u64 y],u,u3,[]⟩))=(G,E (.i .u64 0),u4,(o [a,a,((i+y+0)/(18446744073709551616:Int)==0)==G,D (1=1/\dH m 0 1<F.length),a,kI [i,y,0],D (dH S 0 1<v),a,G,G,(b !=b)==A,G,G]))
def TG(m n C q:Nat)(y:Int)(F:List Int)(P:es):letI a:Nat:=dH m 0 1;wH m n C q y F 0 m F.length [⟨.ws .u64 F,P⟩] [⟨.ws .u64 (F.set a ((F.getD a 0+y+0)%18446744073709551616)),P⟩] [A,A,G,A] (λS=>((!(Nat.beq 0 0&&a.beq a))==A)::S) (F.getD a 0):=dR
def RT(m j n C q:Nat)(y:Int)(F H:List Int)(P t:es):letI e:Int:=H.getD (dH j 0 1) 0;letI a:List Int:=F.set (dH m 0 1) ((e+y+0)%18446744073709551616);letI b:Bool:=D ((0:Int)<=1/\1<=(↑(n+1):Int));letI c:Nat:=(n+1-1).min (n+1-1);letI d:dI:=⟨.ws .u64 H,t⟩;wH m n C q y F 1 j H.length [⟨.ws .u64 F,P⟩,d] [⟨.ws .u64 (dC a (jp c (kw (eO j q 1 1) H)) (eO m C 1 1)),P⟩,d] [A,A,G] (λS=>D (eO j q 1 1+c<=H.length/\eO m C 1 1+c<=a.length)::ed (D (n+1<=q)) b::ed (D (n+1<=C)) b::S) (e):=dR
abbrev vj(m n C q:Nat)(y:Int)(F:List Int)(w S o:Nat)(u u3:List dI)(u4:Int):Prop:=letI a:Int:=(↑(n+1):Int);letI b:V:= .s (E (w,S)) (n+1) q;letI c:V:= .s (E (0,m)) (n+1) C;letI d:Prop:=(0:Int)<=0/\0<a;(oS (eC Se f107.ntmps 200 [0,1,9] [.code (dB f107)] ⟨fo 0 [c,b,.i .u64 y],u,[A,A,A],[]⟩))=(Jp,[(0,c),(1,b),(9,.i .i64 1)],u3,[((u4+y+0)/(18446744073709551616:Int)==0)==A,D (1=1/\dH m 0 1<F.length),decide d,kI [u4,y,0],D (dH S 0 1<o),decide d,G,G,(a !=a)==A,G,G])
def O1(m j n C q:Nat)(y:Int)(F H:List Int)(P t:es):letI a:Nat:=dH m 0 1;vj m n C q y F 0 m F.length [⟨.ws .u64 F,P⟩] [⟨.ws .u64 (F.set a ((F.getD a 0+y+0)%18446744073709551616)),P⟩] (F.getD a 0):=dR
def Oa(m j n C q:Nat)(y:Int)(F H:List Int)(P t:es):letI a:dI:=⟨.ws .u64 H,t⟩;letI b:Int:=H.getD (dH j 0 1) 0;vj m n C q y F 1 j H.length [⟨.ws .u64 F,P⟩,a] [⟨.ws .u64 (F.set (dH m 0 1) ((b+y+0)%18446744073709551616)),P⟩,a] (b):=dR
def iG:Int->List Int->List Int×Int
  |c,[]=>([],c)
  |c,x::H=>((x+c)%18446744073709551616::(iG ((x+c)/18446744073709551616) H).1,(iG ((x+c)/18446744073709551616) H).2)
def sq: ∀{H:List Int},dG H->iG 0 H=(H,0)
  |[],_=>rfl
  |x::H,h=>by
   have L:=h x jt;have T:(x+0)%18446744073709551616=x:=by have:=L.1;have:=L.2;omega
   have f:(x+0)/18446744073709551616=0:=by have:=L.1;have:=L.2;omega
   simp only[iG,T,f,sq (λz o=>h z (jh _ o))]
def uk: ∀(H:List Int)(c:Int),val (iG c H).1+(iG c H).2*pw H.length=val H+c/\(iG c H).1.length=H.length
  |[],c=>by simp[iG,val,pw]
  |x::H,c=>by obtain⟨M,S⟩:=uk H ((x+c)/18446744073709551616);simp only[iG,val,eI,S,im];rw[gV,sr (x+c) _ (val H) _ _ M];omega
def IC: ∀(H:List Int)(c:Int),dG H->0<=c->c<=1->dG (iG c H).1/\0<=(iG c H).2/\(iG c H).2<=1
  |[],c,_,C,M=>⟨λx L=>(by simp[iG]at L),C,M⟩
  |x::H,c,h,C,M=>by
   have L:=h x jt;have F:=L.1;have y:=L.2;obtain⟨T,f,Q⟩:=IC H ((x+c)/18446744073709551616) (λz o=>h z (jh _ o)) O O;refine⟨λz o=>?_,f,Q⟩;simp only[iG,kh]at o;rcases o with rfl|o
   .exact⟨O,O⟩
   .exact T z o
def qL(l:List Int)(o:Nat):dC l [] o=l:=by simp[dC]
def Ax:dC l ((l.drop o).take k) o=l:=by
  unfold dC;rw[qx]
  have:(l.drop o).take k++l.drop (o+((l.drop o).take k).length)=l.drop o:=by
    rw[<-lR];by_cases h:k<=(l.drop o).length
    .rw [gR,qk h,Ae]
    .rw [sQ O,List.drop_length,jx]
  rw[this,Ae]
def kK(h:o<l.length):dC l (v::L) o=dC (l.set o v) L (o+1):=(qw l L o v h).symm
def sY{i:Nat}(h:i<o)(k:Nat):((l.set i v).drop o).take k=(l.drop o).take k:=by rw[B9 h]
def Ua(m n C q:Nat)(P:es)(x:n<4294967296):
    ∀
     (k i:Nat)(F:List Int),i+k=n->1<=i->m+n<=F.length->dG F->
     Ev B Se 107 78 1 [] Jp [(0,.s (E (0,m)) n C),(1,.s (E (0,m)) n q),(9,.i .i64 (i:Nat))] [⟨.ws .u64 F,P⟩]
      (λr u=>r= .i .u64 (iG 1 ((F.drop (m+i)).take k)).2/\u=[⟨.ws .u64 (dC F (iG 1 ((F.drop (m+i)).take k)).1 (m+i)),P⟩]):=by
  intro k
  induction k with
  |zero=>
   intro i F g M c b;refine Ev.done (eB rA) (VL m 0 n C q i F [] P 0) ?_ ?_
   ·(try simp(disch:=omega)only[iK,Int.reduceToNat,Int.reduceAdd,Int.reduceSub]);(try simp+decide only[eu,ew,Nat.reduceAdd,Nat.reduceLT]);(try omega)
   .simp only[tF,iG,qL];exact⟨by trivial,by trivial⟩
  |succ k v=>
   intro i F g M c b;rw[iN F (m+i) k O];have L:=eg b (m+i);by_cases d:F.getD (m+i) 0=18446744073709551615
   .refine fa (eB rA) (Xn m 0 n C q i F [] P 0) ?_ K ?_
    ·(try simp(disch:=omega)only[iK,Int.reduceToNat,Int.reduceAdd,Int.reduceSub]);(try simp+decide only[eu,ew,Nat.reduceAdd,Nat.reduceLT]);(try omega)
    .simp only[lM i O,dU,lj];refine(v (i+1) (F.set (m+i) 0) O O gp (gu b se)).mono λr u z=>?_
     rw[(O:m+(i+1)=m+i+1),sY O]at z
     have e:iG 1 (F.getD (m+i) 0::(F.drop (m+i+1)).take k)=(0::(iG 1 ((F.drop (m+i+1)).take k)).1,(iG 1 ((F.drop (m+i+1)).take k)).2):=by rw[d];rfl
     rw[e];refine⟨z.1,?_⟩;rw[z.2,kK O]
   .refine Ev.done (eB rA) (P8 m n C q i F P) ?_ ?_
    .have e0: ∀a:Nat,Nat.beq a a=G:=Iu;simp only[e0,xn,Bool.not_true];exact rG
    .have T:(F.getD (m+i) 0+1)%18446744073709551616=F.getD (m+i) 0+1:=by have:=L.1;have:=L.2;omega
     have f:(F.getD (m+i) 0+1)/18446744073709551616=0:=by have:=L.1;have:=L.2;omega
     have Q:U.u64.wrap (F.getD (m+i) 0+1)=F.getD (m+i) 0+1:=mP (by have:=L.1;have:=L.2;omega);simp only[iG,T,f,sq (dS (fR b _) _),dU,lj,Q];refine⟨(by trivial),?_⟩;rw[kK O];have:=Ax (l:=F.set (m+i) (F.getD (m+i) 0+1)) (o:=m+i+1) (k:=k);rw[sY O]at this;rw[this]
def Rm(m j n C q:Nat)(H:List Int)(P t:es)(hn:n<4294967296)(x:n<=C)(R:n<=q)(hx:j+n<=H.length)(S:dG H):letI a:dI:=⟨.ws .u64 H,t⟩;∀
      (k i:Nat)(F:List Int),i+k=n->1<=i->m+n<=F.length->
      Ev B Se 107 78 2 [] Jp [(0,.s (E (0,m)) n C),(1,.s (E (1,j)) n q),(9,.i .i64 (i:Nat))] [⟨.ws .u64 F,P⟩,a]
       (λr u=>r= .i .u64 (iG 1 ((H.drop (j+i)).take k)).2/\u=[⟨.ws .u64 (dC F (iG 1 ((H.drop (j+i)).take k)).1 (m+i)),P⟩,a]):=by
  intro k
  induction k with
  |zero=>
   intro i F g M p;refine Ev.done (eB rA) (Yk m j n C q i F H P t) ?_ ?_
   ·(try simp(disch:=omega)only[iK,Int.reduceToNat,Int.reduceAdd,Int.reduceSub]);(try simp+decide only[eu,ew,Nat.reduceAdd,Nat.reduceLT]);(try omega)
   .simp only[tF,iG,qL];exact⟨by trivial,by trivial⟩
  |succ k f=>
   intro i F g M p;rw[iN H (j+i) k O];have s:=eg S (j+i);by_cases d:H.getD (j+i) 0=18446744073709551615
   .refine fa (eB rA) (VW m j n C q i F H P t) ?_ K ?_
    ·(try simp(disch:=omega)only[iK,Int.reduceToNat,Int.reduceAdd,Int.reduceSub]);(try simp+decide only[eu,ew,Nat.reduceAdd,Nat.reduceLT]);(try omega)
    .simp only[lM i O,dU,lj];refine(f (i+1) (F.set (m+i) 0) O O gp).mono λr u z=>?_
     rw[(O:m+(i+1)=m+i+1),(O:j+(i+1)=j+i+1)]at z
     have e:iG 1 (H.getD (j+i) 0::(H.drop (j+i+1)).take k)=(0::(iG 1 ((H.drop (j+i+1)).take k)).1,(iG 1 ((H.drop (j+i+1)).take k)).2):=by rw[d];rfl
     rw[e];refine⟨z.1,?_⟩;rw[z.2,kK O]
   .have T:(H.getD (j+i) 0+1)%18446744073709551616=H.getD (j+i) 0+1:=by have:=s.1;have:=s.2;omega
    have L:(H.getD (j+i) 0+1)/18446744073709551616=0:=by have:=s.1;have:=s.2;omega
    have Q:U.u64.wrap (H.getD (j+i) 0+1)=H.getD (j+i) 0+1:=mP (by have:=s.1;have:=s.2;omega)
    have v: ∀o c:Nat,eO o c (i+1) 1=o∨eO o c (i+1) 1=o+(i+1):=λo c=>by
      rw[uM];split
      .exact .inl K
      .exact .inr O
    have w: ∀o c:Nat,c≠i+1->eO o c (i+1) 1=o+(i+1):=λo c h=>kE h
    refine Ev.done (eB rA) (P0 m j n C q i F H P t) ?_ ?_
    .simp only[lM i O,dU,lj,mo];rcases v j q with l|l<;>rcases v m C with b|b<;>(simp only[l,b];exact rG)
    .simp only[lM i O,dU,lj,Q,iG,T,L,sq (dS (fR S _) _)];refine⟨(by trivial),?_⟩;rw[kK O];have y:Nat.min (n-(i+1)) (n-(i+1))=k:=(mo _).trans O;rw[y];cases k with
     |zero=>simp only[tF,qL]
     |succ k=>rw[w j q O,w m C O];rfl
def X2(m n C q:Nat)(y:Int)(F:List Int)(P:es)(x:n<4294967296)(d:0<n)(Q:0<=y)(g:y<=1)(c:m+n<=F.length)(b:dG F):letI a:=iG y ((F.drop m).take n);eM B (λ_=>N) 107 [.s (E (0,m)) n C,.s (E (0,m)) n q,.i .u64 y] [⟨.ws .u64 F,P⟩]
      (λr u=>r= .i .u64 a.2/\u=[⟨.ws .u64 (dC F a.1 m),P⟩]):=by
  obtain⟨k,rfl⟩: ∃k,n=k+1:=⟨n-1,O⟩
  have L:=eg b m;have p:=L.1;have M:=L.2;rw[iN F m k c];refine dL Se f107 ?_;by_cases s:(F.getD m 0+y)/18446744073709551616=0
  .have T:(F.getD m 0+y)%18446744073709551616=F.getD m 0+y:=O;refine Ev.done (eB rA) (TG m k C q y F P) ?_ ?_
   .have e0: ∀a:Nat,Nat.beq a a=G:=Iu;have t:(F.getD m 0+y+0)/18446744073709551616=0:=O;have e:kI [F.getD m 0,y,0]=G:=by simp only[kI,eG];omega
    simp only[e0,xn,Bool.not_true,lj,j3,t,e];exact rG
   .simp only[iG,s,T,sq (dS (fR b _) _),lj,j3,jP];refine⟨(by trivial),?_⟩;rw[kK O];have:=Ax (l:=F.set m (F.getD m 0+y)) (o:=m+1) (k:=k);rw[sY O]at this;rw[this]
  .have f:(F.getD m 0+y)/18446744073709551616=1:=O;refine fa (eB rA) (O1 m 0 k C q y F [] P 0) ?_ K ?_
   .have t:(F.getD m 0+y+0)/18446744073709551616=1:=O;have e:kI [F.getD m 0,y,0]=G:=by simp only[kI,eG];omega
    simp only[lj,j3,t,e];exact rG
   .have w:(F.set m ((F.getD m 0+y)%18446744073709551616)).length=F.length:=Y;have:=Ua m (k+1) C q P x k 1 (F.set m ((F.getD m 0+y)%18446744073709551616)) O O O (gu b ⟨O,O⟩);simp only[lj,j3,jP];refine this.mono λr u z=>?_
    rw[sY O]at z;simp only[iG,f];rw[kK O];exact z
def V6(m j n C q:Nat)(y:Int)(F H:List Int)(P t:es)(x:n<4294967296)(h0:0<n)(g:n<=C)(R:n<=q)(hy:0<=y)(i:y<=1)(hz:m+n<=F.length)(L:j+n<=H.length)(S:dG H):letI a:=iG y ((H.drop j).take n);letI b:dI:=⟨.ws .u64 H,t⟩;eM B (λ_=>N) 107 [.s (E (0,m)) n C,.s (E (1,j)) n q,.i .u64 y] [⟨.ws .u64 F,P⟩,b]
      (λr u=>r= .i .u64 a.2/\u=[⟨.ws .u64 (dC F a.1 m),P⟩,b]):=by
  obtain⟨k,rfl⟩: ∃k,n=k+1:=⟨n-1,O⟩
  have d:=eg S j;have p:=d.1;have M:=d.2;rw[iN H j k L];refine dL Se f107 ?_;by_cases s:(H.getD j 0+y)/18446744073709551616=0
  .have T:(H.getD j 0+y)%18446744073709551616=H.getD j 0+y:=O
   have v: ∀o c:Nat,eO o c 1 1=o∨eO o c 1 1=o+1:=λo c=>by
     rw[uM];split
     .exact .inl K
     .exact .inr O
   refine Ev.done (eB rA) (RT m j k C q y F H P t) ?_ ?_
   .have f:(H.getD j 0+y+0)/18446744073709551616=0:=O;have e:kI [H.getD j 0,y,0]=G:=by simp only[kI,eG];omega
    simp only[lj,j3,f,e,mo];rcases v j q with l|l<;>rcases v m C with h|h<;>(simp only[l,h];exact rG)
   .simp only[iG,s,T,sq (dS (fR S _) _),lj,j3,jP];refine⟨(by trivial),?_⟩;rw[kK O];have w:Nat.min (k+1-1) (k+1-1)=k:=(mo _).trans O;rw[w];cases k with
    |zero=>simp only[tF,qL]
    |succ k=>rw[kE O,kE O]
  .have Q:(H.getD j 0+y)/18446744073709551616=1:=O;refine fa (eB rA) (Oa m j k C q y F H P t) ?_ K ?_
   .have f:(H.getD j 0+y+0)/18446744073709551616=1:=O;have e:kI [H.getD j 0,y,0]=G:=by simp only[kI,eG];omega
    simp only[lj,j3,f,e];exact rG
   .have:=Rm m j (k+1) C q H P t x g R L S k 1 (F.set m ((H.getD j 0+y)%18446744073709551616)) O O gp;simp only[lj,j3,jP];refine this.mono λr u z=>?_
    simp only[iG,Q];rw[kK O];exact z
def XW:jB:=λargs m=>
  match args with
  |[.s (E z) n C,.s (E x) l q,.i .u64 y]=>match m[z.1]?,m[x.1]? with
   |some ⟨.ws .u64 F,P⟩,E ⟨.ws .u64 H,_⟩=>
    E (.i .u64 (iG y ((H.drop x.2).take n)).2,m.set z.1 ⟨.ws .u64 (dC F (iG y ((H.drop x.2).take n)).1 z.2),P⟩,
      ed (D (l=n/\0<n/\n<4294967296/\n<=C/\n<=q/\0<=y/\y<=1/\z.2+n<=F.length/\x.2+n<=H.length/\dG H)) (oU m z x))
   |_,_=>N
  |_=>N
def Yp(u:Nat->Option Nat):qI B u 107 XW:=by
  refine mD λargs m r m' T=>?_
  unfold XW at T;split at T
  .rename_i z n C x l q y;split at T
   .rename_i F P H t o L;simp only[eJ,ef]at T;obtain⟨rfl,rfl,s⟩:=T;obtain⟨g,c⟩:=dN s;simp only[eG]at g;obtain⟨rfl,p,k,a,R,f,j,w,b,i⟩:=g;unfold oU at c;cases Q:Nat.beq z.1 x.1 with
    |true=>
     rw[Q]at c;obtain⟨M,S⟩:=dN c;have M:=fU M;have v:z=x:=yw (iB Q) M;subst v;have e:E (⟨.ws .u64 F,P⟩:dI)=E ⟨.ws .u64 H,t⟩:=by rw[<-o,<-L]
     cases e;refine⟨λ_=>N,[z.1],_,_,_,_,X2 z.2 l C q y F P k p f j w i,⟨o,K,dD⟩,Y,(λ_ _ h=>by cases h),S,K,K,?_⟩;simp only[fW,iC,ft,kw,eI,fb,jx];rfl
    |false=>
     rw[Q]at c;have d:=gW Q;refine⟨λ_=>N,[z.1,x.1],_,_,_,_,V6 z.2 x.2 l C q y F H P t k p a R f j w b i,⟨o,K,L,K,dD⟩,by simp[d],(λ_ _ h=>by cases h),c,K,K,?_⟩;simp only[fW,iC,ft,kw,eI,fb,jx];exact(fu (by rw[lI d];exact L)).symm
   .cases T
  .cases T
abbrev g0:Nat->Option Nat:=λ_=>N
def vH{s:Int}(h:fX A p T v)(C:T≠0)(b:0<s)(a:s<64)(R:T<=Z.length)(P:Z.length<=9223372036854775807)(H:dG Z)(u:W=dC Z (row (zS s (λj=>p.getD j 0) T).1 T) 0):
    fX A W (gm (λj=>W.getD j 0) T) (v/2^s.toNat)/\W.length=Z.length:=by
  obtain⟨g,z,y⟩:=pq s b a;have L:=λi=>eg h.mM i
  have f:W.length=Z.length:=by rw[u,fE,fD];omega
  refine⟨?_,f⟩
  have Q:val (W.take T)=v/2^s.toNat:=by
    rw[u,iz,jO (fD _ _)];obtain⟨m,d⟩: ∃m,T=m+1:=⟨T-1,O⟩
    have:=Nj g z y (λj=>p.getD j 0) m;have S:=h.val;simp only[oP,kT]at S;rw[S,sn h.le,d];simp only[zS,oW];exact this
  have q:dG W:=by rw[u];exact eS H (vG λi _=>NB g z y _ L _ i)
  have:=kO (a:=A) O O q Q (λh=>by cases h);simpa using this
abbrev kU(w:Int)(S u:List dI):Prop:=letI a:V:= .p (E (0,0));(gi f92.results.toList (et (ep g0 (abg g0 [G] []) LR) f92.ntmps N 200 [.code (dB f92)] ⟨fo 0 [a,a,.i .u64 w],S,[],[]⟩))=(G,E a,u,[G,G,G,G,G,G])
def SN(P:es):kU 2 [⟨.lit [.b A,.s N 0 0],P⟩] [⟨.lit [.b A,.s N 0 0],P⟩]:=dR
def Pm(p:List Int)(P ty:es):letI a:dI:=⟨.ws .u64 p,ty⟩;kU 2 [⟨.lit [.b A,.s (E (1,0)) 0 p.length],P⟩,a] [⟨.lit [.b A,.s (E (1,0)) 0 (p.length-0)],P⟩,a]:=dR
abbrev tD(p:List Int)(T:Nat)(P ty:es)(w:Int):Prop:=letI l:=(T:Int);letI a:Int:=U.i64.wrap (l-0);letI d:=U.i64.wrap (l-a);letI g:Nat:=eO 0 p.length d.toNat 1;letI e:Nat:=a.toNat-0;letI c:List Int:=dC p (row (zS w (λj=>p.getD (g+j) 0) e).fst e) 0;letI f:dE:=[⟨.lit [.b A,.s (E (1,0)) T p.length],P⟩,⟨.ws .u64 p,ty⟩];letI h:=a<=(p.length:Int);letI k:V:= .p (E (0,0));(gi f92.results.toList (et (ep g0 (abg g0 [G] [A,A,A]) LR) f92.ntmps N 200 [.code (dB f92)] ⟨fo 0 [k,k,.i .u64 w],f,[],[]⟩))=(G,E k,[⟨.lit [.b A,.s (E (1,0)) (gm (λj=>c.getD (0+j) 0) e) (p.length-0)],P⟩,⟨.ws .u64 c,ty⟩],[G,G,eb [D (e<4294967296/\0+(e)<=c.length/\e<=p.length-0),eb [ed (D (T-(d).toNat=e/\0<e/\e<4294967295/\(0:Int)<w/\(w:Int)<64/\0+(e)<=p.length/\g+(e)<=p.length/\dG p)) (oU f (1,0) (1,g))],ed (D (T<=p.length)) (D (0<=d/\d<=l)),G,G,eb [D (0<=a/\h),D h==G,G],D (a<=0)==A,G,G,G],G,G,G])
def WE(p:List Int)(T:Nat)(P ty:es):tD p T P ty 2:=dR
def VZ(v:Int)(P:es)(C:0<=v)(Q:v<pw 1000):letI a:V:= .p (E (0,0));eM B g0 92 [a,a,.i .u64 2] [⟨.int v,P⟩] (λr u=>r=a/\u=[⟨.int (v/2^2),P⟩]):=by
  refine eV Y K (eM.ld 0 K K K (λh=>?_) λn p T j d=>?_)
  .subst h;exact dL _ f92 (Ev.done (gK (py _ _ _) (eP _)) (SN P) K ⟨K,fs.nU 0 Y K (.refl _ _)⟩)
  .have t:=ic d
   have i:n=A:=by
     cases n with
     |false=>rfl
     |true=>have:=t.2.2.2.1 K;omega
   subst i;have e:=d.le;have w:=fm d (k:=1000) O;rcases np T with h|h
   .subst h;have c:=(gI d).1 K;subst c
    exact dL _ f92 (Ev.done (gK (py _ _ _) (eP _)) (Pm p P j) rG
      ⟨K,fs.close' 0 1 Y J K K K d (.take 1 Y Y K K)⟩)
   .refine dL _ f92 (Ev.done (gK (py _ _ _) (eP _)) (WE p T P j) ?_ ?_)
    .simp(disch:=omega)only[iK,Int.reduceToNat,Int.reduceAdd,Int.reduceSub];simp+decide only[eu,ew,Nat.reduceAdd,Nat.reduceLT,d.mM];omega
    .simp(disch:=omega)only[iK,Int.reduceToNat,Int.reduceAdd,Int.reduceSub];obtain⟨M,S⟩:=vH (Z:=p) (s:=2) d O O O e d.cap d.mM K;exact⟨dD,fs.close' 0 1 Y J K K S M (.take 1 Y Y K K)⟩
def Oo(P:es):kU 28 [⟨.lit [.b A,.s N 0 0],P⟩] [⟨.lit [.b A,.s N 0 0],P⟩]:=dR
def Lo(p:List Int)(P ty:es):letI a:dI:=⟨.ws .u64 p,ty⟩;kU 28 [⟨.lit [.b A,.s (E (1,0)) 0 p.length],P⟩,a] [⟨.lit [.b A,.s (E (1,0)) 0 (p.length-0)],P⟩,a]:=dR
def Qw(p:List Int)(T:Nat)(P ty:es):tD p T P ty 28:=dR
def Sq(v:Int)(P:es)(C:0<=v)(Q:v<pw 1000):letI a:V:= .p (E (0,0));eM B g0 92 [a,a,.i .u64 28] [⟨.int v,P⟩] (λr u=>r=a/\u=[⟨.int (v/2^28),P⟩]):=by
  refine eV Y K (eM.ld 0 K K K (λh=>?_) λn p T j d=>?_)
  .subst h;exact dL _ f92 (Ev.done (gK (py _ _ _) (eP _)) (Oo P) K ⟨K,fs.nU 0 Y K (.refl _ _)⟩)
  .have t:=ic d
   have i:n=A:=by
     cases n with
     |false=>rfl
     |true=>have:=t.2.2.2.1 K;omega
   subst i;have e:=d.le;have w:=fm d (k:=1000) O;rcases np T with h|h
   .subst h;have c:=(gI d).1 K;subst c
    exact dL _ f92 (Ev.done (gK (py _ _ _) (eP _)) (Lo p P j) rG
      ⟨K,fs.close' 0 1 Y J K K K d (.take 1 Y Y K K)⟩)
   .refine dL _ f92 (Ev.done (gK (py _ _ _) (eP _)) (Qw p T P j) ?_ ?_)
    .simp(disch:=omega)only[iK,Int.reduceToNat,Int.reduceAdd,Int.reduceSub];simp+decide only[eu,ew,Nat.reduceAdd,Nat.reduceLT,d.mM];omega
    .simp(disch:=omega)only[iK,Int.reduceToNat,Int.reduceAdd,Int.reduceSub];obtain⟨M,S⟩:=vH (Z:=p) (s:=28) d O O O e d.cap d.mM K;exact⟨dD,fs.close' 0 1 Y J K K S M (.take 1 Y Y K K)⟩
def OL(P:es):kU 29 [⟨.lit [.b A,.s N 0 0],P⟩] [⟨.lit [.b A,.s N 0 0],P⟩]:=dR
def JJ(p:List Int)(P ty:es):letI a:dI:=⟨.ws .u64 p,ty⟩;kU 29 [⟨.lit [.b A,.s (E (1,0)) 0 p.length],P⟩,a] [⟨.lit [.b A,.s (E (1,0)) 0 (p.length-0)],P⟩,a]:=dR
def Rl(p:List Int)(T:Nat)(P ty:es):tD p T P ty 29:=dR
def Ur(v:Int)(P:es)(C:0<=v)(Q:v<pw 1000):letI a:V:= .p (E (0,0));eM B g0 92 [a,a,.i .u64 29] [⟨.int v,P⟩] (λr u=>r=a/\u=[⟨.int (v/2^29),P⟩]):=by
  refine eV Y K (eM.ld 0 K K K (λh=>?_) λn p T j d=>?_)
  .subst h;exact dL _ f92 (Ev.done (gK (py _ _ _) (eP _)) (OL P) K ⟨K,fs.nU 0 Y K (.refl _ _)⟩)
  .have t:=ic d
   have i:n=A:=by
     cases n with
     |false=>rfl
     |true=>have:=t.2.2.2.1 K;omega
   subst i;have e:=d.le;have w:=fm d (k:=1000) O;rcases np T with h|h
   .subst h;have c:=(gI d).1 K;subst c
    exact dL _ f92 (Ev.done (gK (py _ _ _) (eP _)) (JJ p P j) rG
      ⟨K,fs.close' 0 1 Y J K K K d (.take 1 Y Y K K)⟩)
   .refine dL _ f92 (Ev.done (gK (py _ _ _) (eP _)) (Rl p T P j) ?_ ?_)
    .simp(disch:=omega)only[iK,Int.reduceToNat,Int.reduceAdd,Int.reduceSub];simp+decide only[eu,ew,Nat.reduceAdd,Nat.reduceLT,d.mM];omega
    .simp(disch:=omega)only[iK,Int.reduceToNat,Int.reduceAdd,Int.reduceSub];obtain⟨M,S⟩:=vH (Z:=p) (s:=29) d O O O e d.cap d.mM K;exact⟨dD,fs.close' 0 1 Y J K K S M (.take 1 Y Y K K)⟩
def vL(h:fX n p T v)(C:T≠0)(R:T<=Z.length)(P:Z.length<=9223372036854775807)(H:dG Z)(u:W=dC Z (p.take T) 0):fX n W T v/\W.length=Z.length:=by
  have f:(p.take T).length=T:=by have:=h.le;simp;omega
  have e:W.take T=p.take T:=by rw[u,iz,jO f]
  have w:W.length=Z.length:=by rw[u,fE,f];omega
  refine⟨⟨O,O,by rw[u];exact eS H (dS h.mM _),?_,h.sign,by rw[e];exact h.val⟩,w⟩;rcases h.top with M|M
  .exact .inl M
  .refine .inr ?_
   have a: ∀(l:List Int),l.getD (T-1) 0=(l.take T).getD (T-1) 0:=λl=>by simp only[ie,nF];rw[if_pos O]
   rw[a,e,<-a];exact M
abbrev rq(nz n:Bool)(T:Nat)(p:List Int)(P t ty:es)(w:Option (Nat×Nat))(S u:Nat)(u3:dI)(u4:Int):Prop:=letI e:=(T:Int);letI a:=e.toNat;letI c:dI:=⟨.ws .u64 p,ty⟩;letI d:=T.min a;letI f:List Int:=lc (dM a) (0:Int);(gi f81.results.toList (et (ep g0 (N2 g0 oK) LR) f81.ntmps N 200 [.code (dB f81)] ⟨fo 0 [.p (E (0,0)),.p (E (1,0))],[⟨.lit [.b nz,.s w S u],P⟩,⟨.lit [.b n,.s (E (2,0)) T p.length],t⟩,c,u3],[],[]⟩))=(G,E (.p (E (0,0))),[⟨.lit [.b n,.s (E (4,0)) a (dM a)],P⟩,⟨.lit [.b n,.s (E (2,0)) T (p.length)],t⟩,c,u3,⟨.ws .u64 (dC f (jp d (kw 0 p)) 0),137⟩],[G,G,G,eb [D (0+d<=p.length/\0+d<=f.length),D ((u4:Int)<e/\e<=(1048000:Int)),G],G,G])
def RA(nz n:Bool)(w T:Nat)(p F:List Int)(P t ty R:es):rq nz n T p P t ty N 0 0 ⟨.dead,0⟩ 0:=dR
def SE(nz n:Bool)(w T:Nat)(p F:List Int)(P t ty R:es):rq nz n T p P t ty (E (3,0)) w F.length ⟨.ws .u64 F,R⟩ (↑F.length):=dR
def Xv(nz n:Bool)(w T:Nat)(p F:List Int)(P t ty R:es):letI a:=(T:Int);letI c:=T.min a.toNat;letI d:dI:=⟨.ws .u64 p,ty⟩;(gi f81.results.toList (et (ep g0 (N2 g0 mG) LR) f81.ntmps N 200 [.code (dB f81)] ⟨fo 0 [.p (E (0,0)),.p (E (1,0))],[⟨.lit [.b nz,.s (E (3,0)) w F.length],P⟩,⟨.lit [.b n,.s (E (2,0)) T p.length],t⟩,d,⟨.ws .u64 F,R⟩],[],[]⟩))=(G,E (.p (E (0,0))),[⟨.lit [.b n,.s (E (3,0)) (a.toNat) (F.length)],P⟩,⟨.lit [.b n,.s (E (2,0)) T (p.length)],t⟩,d,⟨.ws .u64 (dC F (jp c (kw 0 p)) 0),R⟩],[G,G,G,eb [D (0+c<=p.length/\0+c<=F.length),D (0<=a/\a<=(F.length:Int)),G],G,G]):=I
def L8(z v:Int)(P t:es)(f:v≠0)(Q:(v.natAbs:Int)<pw 1000):
    eM B g0 81 [.p (E (0,0)),.p (E (1,0))] [⟨.int z,P⟩,⟨.int v,t⟩] (λr u=>r= .p (E (0,0))/\u=[⟨.int v,P⟩,⟨.int v,t⟩]):=by
  refine eV Y K (eM.ld 1 K K K (λh=>absurd h f) λn p T j d=>?_);have e:=d.le;have c:=fm d Q;have l:T≠0:=λh=>f ((gI d).1 h)
  have m:=gL T;refine zA 0 K K K λnz a w C b H i=>?_
  rcases H with⟨rfl,rfl,rfl,rfl,rfl,rfl⟩ |⟨F,R,rfl,rfl,rfl,o⟩
  .refine dL _ f81 (Ev.done (gK (wG (DP _)) (eP _)) (RA A n 0 T p [] P t j 0) ?_ ?_)
   .simp(disch:=omega)only[iK,Int.reduceToNat,Int.reduceAdd,Int.reduceSub];simp only[eu,ew,Nat.reduceAdd,Nat.reduceLT,d.mM];omega
   .simp(disch:=omega)only[iK,Int.reduceToNat,Int.reduceAdd,Int.reduceSub];obtain⟨M,S⟩:=vL (Z:=lc (dM T) 0) d l gp gp (dP _) K;exact⟨(by trivial),fs.close' 0 4 Y J K K (S.trans Y) M (.close' 1 2 Y J K K K d (.take 2 Y Y K K))⟩
  .by_cases s:T<=F.length
   .refine dL _ f81 (Ev.done (gK (wG (wA _)) (eP _)) (Xv nz n w T p F P t j R) ?_ ?_)
    .simp(disch:=omega)only[iK,Int.reduceToNat,Int.reduceAdd,Int.reduceSub];simp only[eu,ew,Nat.reduceAdd,Nat.reduceLT,d.mM];omega
    .simp(disch:=omega)only[iK,Int.reduceToNat,Int.reduceAdd,Int.reduceSub];obtain⟨M,S⟩:=vL (Z:=F) d l s o.cap o.mM K;exact⟨(by trivial),fs.close' 0 3 Y J K K S M (.close' 1 2 Y J K K K d (.take 2 Y Y K K))⟩
   .refine dL _ f81 (Ev.done (gK (wG (DP _)) (eP _)) (SE nz n w T p F P t j R) ?_ ?_)
    .simp(disch:=omega)only[iK,Int.reduceToNat,Int.reduceAdd,Int.reduceSub];simp only[eu,ew,Nat.reduceAdd,Nat.reduceLT,d.mM];omega
    .simp(disch:=omega)only[iK,Int.reduceToNat,Int.reduceAdd,Int.reduceSub];obtain⟨M,S⟩:=vL (Z:=lc (dM T) 0) d l gp gp (dP _) K;exact⟨(by trivial),fs.close' 0 4 Y J K K (S.trans Y) M (.close' 1 2 Y J K K K d (.take 2 Y Y K K))⟩
abbrev mr(nz:Bool)(P:es)(w:jB)(S:Bool)(u:Int)(u3:Option (Nat×Nat))(u4 o:Nat)(i:dI)(v t:List Bool)(F:List dI):Prop:=(gi f79.results.toList (et (ep g0 (amj g0 w [S] [G]) LR) f79.ntmps N 200 [.code (dB f79)] ⟨fo 0 [.p (E (0,0)),.i .i64 u],[⟨.lit [.b nz,.s u3 u4 o],P⟩,i],v,[]⟩))=(G,E (.p (E (0,0))),F,t)
def Up(nz:Bool)(w:Nat)(F:List Int)(P R:es):mr nz P mG G 0 N 0 0 ⟨.dead,0⟩ [] [G,G,G,G] [⟨.lit [.b A,.s N 0 0],P⟩,⟨.dead,0⟩]:=dR
def Xe(nz:Bool)(w:Nat)(F:List Int)(x:Int)(P R:es):letI a:=U.u64.wrap x;mr nz P oK A x N 0 0 ⟨.dead,0⟩ [A] [G,G,eb [eb [G,G,G,(a==0)==A],(a==a)==G],G,D (x<0)==A] [⟨.lit [.b A,.s (E (2,0)) 1 1],P⟩,⟨.dead,0⟩,⟨.ws .u64 [a],137⟩]:=dR
def Sk(nz:Bool)(w:Nat)(F:List Int)(P R:es):letI a:dI:=⟨.ws .u64 F,R⟩;mr nz P mG G 0 (E (1,0)) w F.length a [] [G,G,G,G] [⟨.lit [.b A,.s (E (1,0)) 0 (F.length-0)],P⟩,a]:=dR
def VQ(nz:Bool)(w:Nat)(F:List Int)(x:Int)(P R:es):letI a:=U.u64.wrap x;letI c:dI:=⟨.ws .u64 F,R⟩;mr nz P oK A x (E (1,0)) w F.length c [A] [G,G,eb [eb [G,G,D ((F.length:Int)<(1:Int)/\(1:Int)<=(1048000:Int)),(a==(0:Int))==A],(a==a)==G],G,D (x<(0:Int))==A] [⟨.lit [.b A,.s (E (2,0)) 1 1],P⟩,c,⟨.ws .u64 [a],137⟩]:=dR
def afw(nz:Bool)(w:Nat)(F:List Int)(x:Int)(P R:es):letI a:=U.u64.wrap x;mr nz P mG A x (E (1,0)) w F.length ⟨.ws .u64 F,R⟩ [A] [G,G,eb [eb [D (1=1/\0<F.length),G,D ((0:Int)<=1/\1<=(F.length:Int)),(a==0)==A],(a==a)==G],G,D (x<0)==A] [⟨.lit [.b A,.s (E (1,0)) 1 (F.length)],P⟩,⟨.ws .u64 (F.set 0 a),R⟩]:=dR
def BG{x:Int}(C:0<x)(L:gn x)(R:1<=Z.length)(P:Z.length<=9223372036854775807)(H:dG Z):fX A (Z.set 0 x) 1 x/\(Z.set 0 x).length=Z.length:=by
  refine⟨⟨gp,gp,gu H L,.inr ?_,(λh=>by cases h),?_⟩,Y⟩
  .cases Z with
   |nil=>simp at R
   |cons a l=>simp;omega
  .cases Z with
   |nil=>simp at R
   |cons a l=>simp[val]
def ZH(z x:Int)(P:es)(f:0<=x)(L:x<=9223372036854775807):
    eM B g0 79 [.p (E (0,0)),.i .i64 x] [⟨.int z,P⟩] (λr u=>r= .p (E (0,0))/\u=[⟨.int x,P⟩]):=by
  have T:U.u64.wrap x=x:=mP O;refine eV Y K (zA 0 K K K λnz a w C b H i=>?_);by_cases e:x=0
  .subst e;rcases H with⟨rfl,rfl,rfl,rfl,rfl,rfl⟩ |⟨F,R,rfl,rfl,rfl,o⟩
   .refine dL _ f79 (Ev.done (gK (yO (wA _)) (eP _)) (Up A 0 [] P 0) ?_ ?_)
    ·(try simp(disch:=omega)only[iK,Int.reduceToNat,Int.reduceAdd,Int.reduceSub]);(try simp+decide only[eu,ew,Nat.reduceAdd,Nat.reduceLT]);(try omega)
    .exact⟨(by trivial),fs.nU 0 Y K (.take 1 Y Y K K)⟩
   .refine dL _ f79 (Ev.done (gK (yO (wA _)) (eP _)) (Sk nz w F P R) ?_ ?_)
    ·(try simp(disch:=omega)only[iK,Int.reduceToNat,Int.reduceAdd,Int.reduceSub]);(try simp+decide only[eu,ew,Nat.reduceAdd,Nat.reduceLT]);(try omega)
    .have c:fX A F 0 0:=⟨O,o.cap,o.mM,.inl K,(λh=>by cases h),K⟩
     exact⟨(by trivial),fs.close' 0 1 Y J K K K c (.take 1 Y Y K K)⟩
  .have q:0<x:=O;have d:gn x:=⟨O,O⟩
   have m:=gL 1;rcases H with⟨rfl,rfl,rfl,rfl,rfl,rfl⟩ |⟨F,R,rfl,rfl,rfl,o⟩
   .refine dL _ f79 (Ev.done (gK (yO (DP _)) (eP _)) (Xe A 0 [] x P 0) ?_ ?_)
    .simp only[T];exact rG
    .simp only[T];obtain⟨M,S⟩:=BG (Z:=[0]) q d Y Y (dP 1);exact⟨(by trivial),fs.close' 0 2 Y J K K (S.trans Y) M (.take 1 Y Y K K)⟩
   .by_cases s:1<=F.length
    .refine dL _ f79 (Ev.done (gK (yO (wA _)) (eP _)) (afw nz w F x P R) ?_ ?_)
     .simp only[T];exact rG
     .simp only[T];obtain⟨M,S⟩:=BG (Z:=F) q d s o.cap o.mM;exact⟨(by trivial),fs.close' 0 1 Y J K K S M (.take 1 Y Y K K)⟩
    .refine dL _ f79 (Ev.done (gK (yO (DP _)) (eP _)) (VQ nz w F x P R) ?_ ?_)
     .simp only[T];exact rG
     .simp only[T];obtain⟨M,S⟩:=BG (Z:=[0]) q d Y Y (dP 1);exact⟨(by trivial),fs.close' 0 2 Y J K K (S.trans Y) M (.take 1 Y Y K K)⟩
end Go.Proofs.YtiggidfngfkanaaGreatDoor
