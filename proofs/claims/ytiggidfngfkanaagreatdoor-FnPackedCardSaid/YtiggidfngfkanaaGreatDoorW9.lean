/- FnPacked, part 9. No condition. -/
import Derived.Test.YtiggidfngfkanaaGreatDoorW8
namespace Go.Proofs.YtiggidfngfkanaaGreatDoor
open Go Go.Proofs.Tryz
set_option maxRecDepth 100000
set_option maxHeartbeats 4000000
set_option linter.all false
open Bool renaming false->A, true->G
open Decidable renaming decide->D
open Go renaming IntKind->U, TypeId->es
open Go.Proofs.Tryz renaming prog->B
open List renaming drop->kw, replicate->lc, take->jp
open Option renaming none->N, some->E
variable{W k w z:Int}{F H L l p:List Int}{C m n o:Nat}
def mC(R:Nat->Option Nat)(l:List (Nat×jB))(q:List (Nat×QF)):(ep R l q).mw=R:=rfl
def J8(y:es)(m n:Nat)(H p:List Int)(t ty M:es)(z X w:Int)(r:V)(u:dE):Prop:=
  ∃S P F,kX y P F 7/\r= .t [.s (E (6,0)) (ib (gJ (m+1) (X/w) (lc (dM (m+1)) 0)) (m+1)) (dM (m+1)),.s (E (5,0)) (ib (gJ (m+n+1) (X%w) (lc (dM (m+n+1)) 0)) (m+n+1)) (dM (m+n+1))]/\u=⟨.ws .u64 H,t⟩::P::⟨.ws .u64 p,ty⟩::⟨.lit [.i .i64 z],M⟩::⟨.ws .u64 S,137⟩::⟨.ws .u64 (gJ (m+n+1) (X%w) (lc (dM (m+n+1)) 0)),137⟩::⟨.ws .u64 (gJ (m+1) (X/w) (lc (dM (m+1)) 0)),137⟩::F
def Lx{Q k w:Nat}{t y ty M:es}(l:2<=n)(x:n<=4)(c:m+n<100000)(d:m+n<=Q)(R:n<=k)(hx:m+n<=H.length)(hy:n<=p.length)(o:dG H)(j:dG p)(b:0<p.getD (n-1) 0)(g:C<m+n+1)(q:(n:Int)<z)(i:C=C):
    eM B (gd 3) 135 [.s N 0 0,.p (E (1,0)),.s (E (0,0)) w C,.s (E (0,0)) (m+n) Q,.s (E (2,0)) n k] [⟨.ws .u64 H,t⟩,⟨.lit [.p N],y⟩,⟨.ws .u64 p,ty⟩,⟨.lit [.i .i64 z],M⟩]
     (J8 y m n H p t ty M z (val (H.take (m+n))) (val (p.take n))):=by
  have i1:U.i64.wrap (((m+n:Nat):Int)-(n:Int))=(m:Int):=jw;have i3:U.i64.wrap ((n:Int)-1)=((n-1:Nat):Int):=jw;have tw:=eg j (n-1);refine dL (ep (gd 3) (P2 (gd 3) qG) A8) f135 ?_;refine nV (gK (o7 (Nq _)) (mq _)) 200 [] [0,1,2,3,4,12,13,22,24] _ (axk m n Q k w C H p t y ty M z) K K ?_;rw[i1];refine Ev.fq [0,1,2,3,4,12,13] ?_;have e:=auo m n Q k w C H p t y ty M z;simp only[i3,dU]at e
  refine dY (gK (o7 (Nq _)) (mq _)) e ?_ K K sf
    (Q1:=λr u=> ∃T,n<=T/\r= .s (E (4,0)) n T/\u=[⟨.ws .u64 H,t⟩,⟨.lit [.p N],y⟩,⟨.ws .u64 p,ty⟩,⟨.lit [.i .i64 z],M⟩,⟨.ws .u64 ((lc T 0).set 0 11259375),137⟩]) ?_ K ?_
  .have o1:lk [p.getD (n-1) 0]=G:=by simp only[lk,eG];exact tw
   simp only[dK,dJ,eu,ew,Nat.reduceAdd,Nat.reduceLT,o1];omega
  .refine((pj y n O x).lift (gl:=gd 3) (m:=[⟨.ws .u64 H,t⟩,⟨.lit [.p N],y⟩,⟨.ws .u64 p,ty⟩,⟨.lit [.i .i64 z],M⟩]) [1] ⟨K,K,dD⟩ Y (λ_ _ h=>by cases h) K).mono ?_;rintro r u⟨r0,aa,⟨T,f,rfl,rfl⟩,_,rfl,rfl⟩;exact⟨T,f,K,K⟩
  rintro r u⟨T,f,rfl,rfl⟩_;refine⟨_,K,?_⟩;refine Ev.fq [0,1,2,3,4,12,13,14,33] ?_;have L:dG ((lc T 0).set 0 11259375):=gu (dP _) ⟨O,O⟩;have lv:n<=((lc T (0:Int)).set 0 11259375).length:=gp;obtain⟨s,v⟩: ∃s:Int,s=64-(bitLen (p.getD (n-1) 0).toNat:Int):=⟨_,K⟩
  obtain⟨z0,z1,_,_⟩:=pE b tw v;rw[<-v];clear e;cases i;rcases k9 0 s with s0|s0
  .exact mU (by simp only[mC]) (DC (S:=137) l x c d R hx hy o j b g f lv L v s0 q λS P F a=>⟨S,P,F,a,K,K⟩)
  .obtain rfl:s=0:=O;exact mU (by simp only[mC]) (DT (S:=137) l x c d R hx hy o j b g f lv L v q λS P F a=>⟨S,P,F,a,K,K⟩)
def Lr(y:es)(m n:Nat)(H p:List Int)(t ty M:es)(z X w:Int)(r:V)(u:dE):Prop:=
  ∃S P F,kX y P F 6/\r= .t [.s (E (5,0)) (ib (gJ (m+1) (X/w) (lc (dM (m+1)) 0)) (m+1)) (dM (m+1)),.s (E (0,0)) (ib (gJ (m+n+1) (X%w) H) (m+n+1)) H.length]/\u=⟨.ws .u64 (gJ (m+n+1) (X%w) H),t⟩::P::⟨.ws .u64 p,ty⟩::⟨.lit [.i .i64 z],M⟩::⟨.ws .u64 S,137⟩::⟨.ws .u64 (gJ (m+1) (X/w) (lc (dM (m+1)) 0)),137⟩::F
def Lt{Q k w:Nat}{t y ty M:es}(l:2<=n)(x:n<=4)(c:m+n<100000)(d:m+n<=Q)(R:n<=k)(hx:m+n<=H.length)(hy:n<=p.length)(L:dG H)(j:dG p)(b:0<p.getD (n-1) 0)(g:m+n+1<=H.length)(i:H.length<=9223372036854775807)(q:(n:Int)<z)(o:C=H.length):
    eM B (gd 3) 135 [.s N 0 0,.p (E (1,0)),.s (E (0,0)) w C,.s (E (0,0)) (m+n) Q,.s (E (2,0)) n k] [⟨.ws .u64 H,t⟩,⟨.lit [.p N],y⟩,⟨.ws .u64 p,ty⟩,⟨.lit [.i .i64 z],M⟩]
     (Lr y m n H p t ty M z (val (H.take (m+n))) (val (p.take n))):=by
  have i1:U.i64.wrap (((m+n:Nat):Int)-(n:Int))=(m:Int):=jw;have i3:U.i64.wrap ((n:Int)-1)=((n-1:Nat):Int):=jw;have tw:=eg j (n-1);refine dL (ep (gd 3) (P2 (gd 3) qG) A8) f135 ?_;refine nV (gK (o7 (Nq _)) (mq _)) 200 [] [0,1,2,3,4,12,13,22,24] _ (axk m n Q k w C H p t y ty M z) K K ?_;rw[i1];refine Ev.fq [0,1,2,3,4,12,13] ?_;have e:=auo m n Q k w C H p t y ty M z;simp only[i3,dU]at e
  refine dY (gK (o7 (Nq _)) (mq _)) e ?_ K K sf
    (Q1:=λr u=> ∃T,n<=T/\r= .s (E (4,0)) n T/\u=[⟨.ws .u64 H,t⟩,⟨.lit [.p N],y⟩,⟨.ws .u64 p,ty⟩,⟨.lit [.i .i64 z],M⟩,⟨.ws .u64 ((lc T 0).set 0 11259375),137⟩]) ?_ K ?_
  .have o1:lk [p.getD (n-1) 0]=G:=by simp only[lk,eG];exact tw
   simp only[dK,dJ,eu,ew,Nat.reduceAdd,Nat.reduceLT,o1];omega
  .refine((pj y n O x).lift (gl:=gd 3) (m:=[⟨.ws .u64 H,t⟩,⟨.lit [.p N],y⟩,⟨.ws .u64 p,ty⟩,⟨.lit [.i .i64 z],M⟩]) [1] ⟨K,K,dD⟩ Y (λ_ _ h=>by cases h) K).mono ?_;rintro r u⟨r0,aa,⟨T,f,rfl,rfl⟩,_,rfl,rfl⟩;exact⟨T,f,K,K⟩
  rintro r u⟨T,f,rfl,rfl⟩_;refine⟨_,K,?_⟩;refine Ev.fq [0,1,2,3,4,12,13,14,33] ?_;have wv:dG ((lc T 0).set 0 11259375):=gu (dP _) ⟨O,O⟩;have lv:n<=((lc T (0:Int)).set 0 11259375).length:=gp;obtain⟨s,v⟩: ∃s:Int,s=64-(bitLen (p.getD (n-1) 0).toNat:Int):=⟨_,K⟩
  obtain⟨z0,z1,_,_⟩:=pE b tw v;rw[<-v];clear e;cases o;rcases k9 0 s with s0|s0
  .exact mU (by simp only[mC]) (DB (S:=137) l x c d R hx hy L j b g i f lv wv v s0 q λS P F a=>⟨S,P,F,a,K,K⟩)
  .obtain rfl:s=0:=O;exact mU (by simp only[mC]) (DQ (S:=137) l x c d R hx hy L j b g i f lv wv v q λS P F a=>⟨S,P,F,a,K,K⟩)
noncomputable abbrev TW:List Item:=gQ (dB f151) 0 []
abbrev QW:List (Nat×QF):=(174,H6)::(175,ace)::(176,Vt)::[]
abbrev CW:fw:=ep (λ_=>N) [] QW
def avv(R:Nat->Option Nat):gf R QW:=⟨⟨ga f174,M9 R⟩,⟨ga f175,Mv R⟩,⟨ga f176,Hd R⟩,dD⟩
def Ml:ji B CW:=gy dD (avv _)
def aas(C q:Nat)(y:Int)(F H:List Int)(P t:es):letI a:Int:=H.getD 0 0;letI b:dI:=⟨.ws .u64 H,t⟩;(gi f151.results.toList (et CW f151.ntmps N 200 [.code (dB f151)] ⟨[(0,.s (E (0,0)) 1 C),(1,.i .u64 0),(2,.s (E (1,0)) 1 q),(3,.i .u64 y)],[⟨.ws .u64 F,P⟩,b],[G],[]⟩))=(G,E (.i .u64 ((0+a)%y)),[⟨.ws .u64 (F.set 0 ((0+a)/y)),P⟩,b],[D (1=1/\0<F.length),G,D (y<(18446744073709551616:Int)/\0<=(0:Int)/\0<y/\gn a/\(9223372036854775808<=y∨(0:Int)=0)),D (0<H.length),G,G,G]):=I
def Q9(m C q:Nat)(y:Int)(F H:List Int)(P t:es):letI a:dE:=[⟨.ws .u64 F,P⟩,⟨.ws .u64 H,t⟩];(oS (eC CW f151.ntmps 200 [0,2,3,8,11,12] [.code (dB f151)] ⟨[(0,.s (E (0,0)) m C),(1,.i .u64 0),(2,.s (E (1,0)) m q),(3,.i .u64 y)],a,[A],[]⟩))=(TW,[(0,.s (E (0,0)) m C),(2,.s (E (1,0)) m q),(3,.i .u64 y),(8,.i .u64 0),(11,.i .u64 (iA (At y))),(12,.i .i64 (U.i64.wrap ((m:Int)-1)))],a,[G,H4 [y],((m:Int)==1)==A,G]):=I
def avo(m k C q:Nat)(y r:Int)(F H:List Int)(P t:es):letI a:=(k:Int);letI c:=a.toNat;letI b:Int:=r*18446744073709551616+H.getD c 0;letI g:U:= .u64;letI d:dI:=⟨.ws g H,t⟩;letI e:=iA (At y);letI f:Prop:=0<=a/\a<(m:Int);(oS (eC CW f151.ntmps 200 [0,2,3,8,11,12] TW ⟨[(0,.s (E (0,0)) m C),(2,.s (E (1,0)) m q),(3,.i g y),(8,.i g r),(11,.i g e),(12,.i .i64 (k:Int))],[⟨.ws g F,P⟩,d],[G],[]⟩))=(TW,[(0,.s (E (0,0)) m C),(2,.s (E (1,0)) m q),(3,.i g y),(8,.i g ((b)%y)),(11,.i g e),(12,.i .i64 (U.i64.wrap (a-1)))],[⟨.ws g (F.set c (b/y)),P⟩,d],[D (1=1/\c<F.length),decide f,DL [r,H.getD c 0,y,e],D (c<H.length),decide f,G]):=I
def aak(m C q:Nat)(y r:Int)(F H:List Int)(P t:es):letI a:dE:=[⟨.ws .u64 F,P⟩,⟨.ws .u64 H,t⟩];(gi f151.results.toList (et CW f151.ntmps N 200 TW ⟨[(0,.s (E (0,0)) m C),(2,.s (E (1,0)) m q),(3,.i .u64 y),(8,.i .u64 r),(11,.i .u64 (iA (At y))),(12,.i .i64 (-1))],a,[A],[]⟩))=(G,E (.i .u64 r),a,[G]):=I
def UY{C q:Nat}{y:Int}{P t:es}{Q:V->dE->Prop}(c:0<y)(i:y<18446744073709551616)(S:dG H)(hx:m<=H.length)(hm:m<100000):letI a:dI:=⟨.ws .u64 H,t⟩;∀(k:Nat)(F:List Int)(r:Int),k<=m->m<=F.length->dG F->0<=r->r<y->
    (∀(w:List Int)(b:Int),w.length=F.length->dG w->w.drop k=F.drop k->val (w.take k)*y+b=r*pw k+val (H.take k)->0<=b->b<y->Q (.i .u64 b) [⟨.ws .u64 w,P⟩,a])->
    Ev B CW 151 54 2 [] TW [(0,.s (E (0,0)) m C),(2,.s (E (1,0)) m q),(3,.i .u64 y),(8,.i .u64 r),(11,.i .u64 (iA (At y))),(12,.i .i64 ((k:Int)-1))] [⟨.ws .u64 F,P⟩,a] Q:=by
  intro k
  induction k with
  |zero=>
   intro F r _ g u f d R;exact Ev.done (eB Ml) (aak m C q y r F H P t) K (R F r K u K (by simp[val,pw]) f d)
  |succ k v=>
   intro F r h g u f d R;rw[(O:((k+1:Nat):Int)-1=(k:Int))];have j:=eg S k;have e:=avo m k C q y r F H P t;simp only[dU,iy (O: -9223372036854775808<=(k:Int)-1/\(k:Int)-1<=9223372036854775807)]at e;refine fa (eB Ml) e ?_ K ?_
   .have o:DL [r,H.getD k 0,y,iA (At y)]=G:=by simp only[DL,eG];exact⟨f,d,j,i,dD⟩
    simp only[dK,dJ,eu,ew,Nat.reduceAdd,Nat.reduceLT,o];omega
   have hb:=tH (r*18446744073709551616+H.getD k 0) y;have p:=j7 (r*18446744073709551616+H.getD k 0) (xk c);have M:=j6 (r*18446744073709551616+H.getD k 0) c;have s:0<=(r*18446744073709551616+H.getD k 0)/y:=n9 (by have:=j.1;omega) (gA c)
   have x:(r*18446744073709551616+H.getD k 0)/y<18446744073709551616:=rD c (by
     have:=j.2;have:=gF (O:r+1<=y) (J:(0:Int)<=18446744073709551616)
     omega)
   refine v _ _ O (by rw[gU];exact g) (gu u ⟨s,x⟩) p M ?_;intro w b n a2 l a4 a5 a6;rw[gU]at n
   have z:w.getD k 0=(r*18446744073709551616+H.getD k 0)/y:=by
     have T:w.getD k 0=(w.drop k).getD 0 0:=by rw[ie,ie,jY];rfl
     rw[T,l,ie,jY,j3,qj O];rfl
   refine R w b n a2 ?_ ?_ a5 a6
   .have T:=kC (kw 1) l;rw[lR,lR]at T;rw[T,B9 O]
   .rw [eL,eL,z,gV,jN]
    have L:pw k*((r*18446744073709551616+H.getD k 0)/y)*y=pw k*(r*18446744073709551616+H.getD k 0)-pw k*((r*18446744073709551616+H.getD k 0)%y):=by rw[<-pU,fO,eD _ y];congr 1;omega
    rw[L,fh];have e3:(r*18446744073709551616+H.getD k 0)%y*pw k=pw k*((r*18446744073709551616+H.getD k 0)%y):=eD _ _;have e4:pw k*(r*18446744073709551616)=r*(18446744073709551616*pw k):=by ac_rfl
    omega
def agp{C b:Nat}{y:Int}{P t:es}(h:0<m)(d:m<100000)(k:m<=F.length)(L:m<=H.length)(g:dG F)(S:dG H)(Q:0<y)(i:y<18446744073709551616):letI a:dI:=⟨.ws .u64 H,t⟩;eM B g0 151 [.s (E (0,0)) m C,.i .u64 0,.s (E (1,0)) m b,.i .u64 y] [⟨.ws .u64 F,P⟩,a]
      (λr u=>r= .i .u64 (val (H.take m)%y)/\u=[⟨.ws .u64 (gJ m (val (H.take m)/y) F),P⟩,a]):=by
  refine dL CW f151 ?_;by_cases M:m=1
  .subst M;have j:=eg S 0;have T:val (H.take 1)=H.getD 0 0:=by rw[eL];simp[val,pw]
   have s:0<=H.getD 0 0/y:=n9 j.1 (gA Q);have x:H.getD 0 0/y<=H.getD 0 0:=G3 _ j.1;have e:=aas C b y F H P t;simp only[mO]at e;refine Ev.done (eB Ml) e ?_ ?_
   .exact dX.2 ⟨fG ⟨dD,O⟩,dX.2 ⟨K,dX.2 ⟨fG ⟨i,uh _,Q,j,.inr dD⟩,dX.2 ⟨fG O,K⟩⟩⟩⟩
   .rw [T];refine⟨K,?_⟩
    have f:F.set 0 (H.getD 0 0/y)=gJ 1 (H.getD 0 0/y) F:=by
      refine lg (by rw[gU];exact k) (gu g ⟨s,by have:=j.2;omega⟩) ?_ (Bi O)
      have n:(F.set 0 (H.getD 0 0/y)).getD 0 0=H.getD 0 0/y:=by generalize H.getD 0 0/y=q;rw[ie,qj O];rfl
      rw[eL,n];simp[val,pw]
    rw[f]
  .have e:=Q9 m C b y F H P t;simp only[iy (O: -9223372036854775808<=(m:Int)-1/\(m:Int)-1<=9223372036854775807)]at e;refine fa (eB Ml) e ?_ K ?_
   .have o:H4 [y]=G:=by simp only[H4,eG];exact⟨Q,i⟩
    simp only[dK,dJ,eu,ew,Nat.reduceAdd,Nat.reduceLT,o];omega
   refine UY Q i S L d m F 0 (eT _) k g (uh _) Q ?_;intro w l a1 R z c p v;rw[mN,mO]at c;have T:val (H.take m)%y=l:=by rw[<-c,JC,Int.add_mul_emod_self_right,og p v]
   have f:val (H.take m)/y=val (w.take m):=by rw[<-c,JC,P5 _ _ (xk Q),CL p v,mO]
   rw[T,f,<-lg O R K z];exact⟨K,K⟩
def agf:jB:=λargs m=>
  match args with
  |[.s (E z) n _,.i .u64 0,.s (E x) l _,.i .u64 y]=>match m[z.1]?,m[x.1]? with
   |some ⟨.ws .u64 F,P⟩,E ⟨.ws .u64 H,_⟩=>
    E (.i .u64 (val (H.take n)%y),m.set z.1 ⟨.ws .u64 (gJ n (val (H.take n)/y) F),P⟩,
      ed (D (l=n/\0<n/\n<100000/\z.2=0/\x.2=0/\n<=F.length/\n<=H.length/\0<y/\y<18446744073709551616/\dG F/\dG H)) (ed (!(Nat.beq z.1 x.1)) (ek m.length m)))
   |_,_=>N
  |_=>N
def ael:jB:=λargs m=>
  match args with
  |[.s (E z) _ c,.i .u64 x]=>match m[z.1]? with
   |some ⟨.ws .u64 F,P⟩=>E (.s (E z) (if x=0 then 0 else 1) c,m.set z.1 ⟨.ws .u64 (if x=0 then F else F.set 0 x),P⟩,ed (D (z.2=0/\1<=c/\0<F.length)) (ek m.length m))
   |_=>N
  |_=>N
def WT(R:Nat->Option Nat):qI B R 151 agf:=by
  refine mD λargs m r m' T=>?_
  unfold agf at T;split at T
  .rename_i z n C x Q q y;split at T
   .rename_i F P H t o L;simp only[eJ,ef]at T;obtain⟨rfl,rfl,k⟩:=T;obtain⟨g,c⟩:=dN k;obtain⟨i,a⟩:=dN c;simp only[eG]at g;obtain⟨rfl,s,l,p,e,w,b,f,j,u,S⟩:=g;obtain⟨z,v⟩:=z;obtain⟨x,M⟩:=x;simp only at p e o L i;subst p;subst e;have d:z≠x:=by intro h;subst h;simp at i
    refine⟨λ_=>N,[z,x],_,_,_,_,agp (C:=C) (b:=q) (P:=P) (t:=t) s l w b u S f j,⟨o,K,L,K,dD⟩,by simp[d],(λ_ _ h=>by cases h),a,K,K,?_⟩;simp only[fW,iC,ft,kw,eI,fb,jx];exact(fu (by rw[lI d];exact L)).symm
   .cases T
  .cases T
abbrev Fl(l c:Nat)(x:Int)(F:List Int)(P:es)(w:Bool)(S u:Nat)(u3:List Int)(u4:(List Bool->List Bool)):Prop:=(gi f131.results.toList (et (ep g0 (N1 mG) LR) f131.ntmps N 200 [.code (dB f131)] ⟨[(0,.s (E (0,0)) l c),(1,.i .u64 x)],[⟨.ws .u64 F,P⟩],[w],[]⟩))=(G,E (.s (E (0,0)) S u),[⟨.ws .u64 u3,P⟩],(u4 [(x==0)==w]))
def aPc(l c:Nat)(x:Int)(F:List Int)(P:es):Fl l c x F P G 0 (c-0) F (λS=>G::S):=dR
def aQz(l c:Nat)(x:Int)(F:List Int)(P:es):Fl l c x F P A 1 c (F.set 0 x) (λS=>D (1=1/\0<F.length)::G::D ((0:Int)<=1/\1<=(c:Int))::S):=dR
def ahe{l c:Nat}{x:Int}{P:es}(s:1<=c)(o:0<F.length):
    eM B g0 131 [.s (E (0,0)) l c,.i .u64 x] [⟨.ws .u64 F,P⟩] (λr u=>r= .s (E (0,0)) (if x=0 then 0 else 1) c/\u=[⟨.ws .u64 (if x=0 then F else F.set 0 x),P⟩]):=by
  refine dL (ep g0 (N1 mG) LR) f131 ?_;by_cases L:x=0
  .subst L;refine Ev.done (gK (wA _) (eP _)) (aPc l c 0 F P) ?_ ⟨K,K⟩
   (try simp(disch:=omega)only[iK,Int.reduceToNat,Int.reduceAdd,Int.reduceSub]);(try simp+decide only[dK,dJ,eu,ew,Nat.reduceAdd,Nat.reduceLT]);(try omega)
  .refine Ev.done (gK (wA _) (eP _)) (aQz l c x F P) ?_ ?_
   .simp only[dK,dJ,eu,ew,Nat.reduceAdd,Nat.reduceLT];trace_state;omega
   .rw [if_neg L,if_neg L];exact⟨K,K⟩
def XG(R:Nat->Option Nat):qI B R 131 ael:=by
  refine mD λargs m r u T=>?_
  unfold ael at T;split at T
  .rename_i z l c x;split at T
   .rename_i F P o;simp only[eJ,ef]at T;obtain⟨rfl,rfl,b⟩:=T;obtain⟨g,a⟩:=dN b;simp only[eG]at g;obtain⟨p,M,S⟩:=g;obtain⟨z,d⟩:=z;simp only at p o;subst p;refine⟨λ_=>N,[z],_,_,_,_,ahe (l:=l) (P:=P) M S,⟨o,K,dD⟩,Y,(λ_ _ h=>by cases h),a,K,K,?_⟩;simp only[fW,iC,ft,kw,eI,fb,jx];rfl
   .cases T
  .cases T
noncomputable abbrev TM:List Item:=gQ (dB f205) 0 []
abbrev Ao(n q s T i j:Nat)(k:Int)(F:List Int)(P:es)(w S:Nat)(u:(List dI->List dI)):Prop:=letI b:=(n:Int);letI a:Int:=U.i64.wrap (b*2);letI c:=(b !=b)==A;letI d:V:= .s (E (S,0)) n s;(oS (eC (ep g0 (N1 mG) LR) f205.ntmps 200 [0,1,2,3,4,5,13,14] [.code (dB f205)] ⟨[(0,.s (E (w,0)) i j),(1,.s (E (0,0)) n q),(2,d),(3,.s (E (1,0)) n T),(4,.i .u64 k),(5,.i .i64 (n:Int))],(u [⟨.ws .u64 F,P⟩]),[A,A,A,A,A,A,A,A,A],[]⟩))=(TM,[(0,.s (E (w,0)) (a.toNat) j),(1,.s (E (0,0)) n q),(2,d),(3,.s (E (1,0)) n T),(4,.i .u64 k),(5,.i .i64 b),(13,.i .u64 0),(14,.i .i64 0)],(u [⟨.ws .u64 (dC F (lc a.toNat 0) 0),P⟩]),[D (0+(a).toNat<=F.length),D (0<=a/\a<=(j:Int)),c,G,c,G,c,G])
def VA(n q s T i j:Nat)(k:Int)(F H L:List Int)(p:List Int)(ty:es)(P t o:es):Ao n q s T i j k F P 3 2 (λS=>⟨.ws .u64 H,t⟩::⟨.ws .u64 L,o⟩::⟨.ws .u64 p,ty⟩::S):=dR
abbrev Al(n q s T:Nat)(k:Int)(w u:Nat)(S:List dI)(u3:(List dI->List dI)):Prop:=letI b:=(n:Int);letI a:Int:=U.i64.wrap (b*(2:Int));letI c:Int:=(0:Int);letI d:=a.toNat;letI e:=(b !=b)==A;letI f:=lc (dM d) c;letI g:V:= .s (E (w,0)) n s;(oS (eC (ep g0 (N1 oK) LR) f205.ntmps 200 [0,1,2,3,4,5,13,14] [.code (dB f205)] ⟨[(0,.s N 0 0),(1,.s (E (0,0)) n q),(2,g),(3,.s (E (1,0)) n T),(4,.i .u64 k),(5,.i .i64 (n:Int))],S,[A,A,A,A,A,A,A,A,A],[]⟩))=(TM,[(0,.s (E (u,0)) d (dM d)),(1,.s (E (0,0)) n q),(2,g),(3,.s (E (1,0)) n T),(4,.i .u64 k),(5,.i .i64 b),(13,.i .u64 c),(14,.i .i64 c)],(u3 [⟨.ws .u64 (dC f (lc d c) 0),137⟩]),[D (0+d<=f.length),D (c<a/\a<=(1048000:Int)),e,G,e,G,e,G])
def Wp(n q s T:Nat)(k:Int)(H L:List Int)(p:List Int)(ty:es)(t o:es):letI a:dI:=⟨.ws .u64 H,t⟩;letI b:dI:=⟨.ws .u64 L,o⟩;letI c:dI:=⟨.ws .u64 p,ty⟩;Al n q s T k 2 3 [a,b,c] (λS=>a::b::c::S):=dR
abbrev uS(n i C z s T:Nat)(k c:Int)(F H L:List Int)(P:es)(w S M:Nat)(y:(List dI->List dI))(u3:Bool)(u4 x:Int):Prop:=letI q:=(n:Int);letI l:=(i:Int);letI d:=U.i64.wrap (q+l);letI t:=d.toNat;letI e:=l.toNat;letI h:=t-e;letI j:Nat:=eO 0 C e 1;letI a:List Int×Int:=fN x 0 (jp h (kw j F)) (jp h (kw 0 H));letI g:=dC F a.fst j;letI o:Int:=U.u64.wrap (g.getD e 0*k);letI b:List Int×Int:=fN o 0 (jp h (kw j g)) (jp h (kw 0 L));letI f:Bool:=ed (D (0<=d/\d<=(C:Int))) (D (0<=l/\l<=(t:Int)));letI p:=U.u64.wrap (c+a.snd);letI m:=U.u64.wrap (p+b.snd);letI r:V:= .s (E (w,0)) (2*n) C;letI u:=dC g b.fst j;letI v:V:= .s (E (S,0)) n s;(oS (eC (ep g0 (N1 mG) LR) f205.ntmps 200 [0,1,2,3,4,5,13,14] TM ⟨[(0,r),(1,.s (E (0,0)) n z),(2,v),(3,.s (E (1,0)) n T),(4,.i .u64 k),(5,.i .i64 (n:Int)),(13,.i .u64 c),(14,.i .i64 (i:Int))],(y [⟨.ws .u64 F,P⟩]),[G,A,u3],[]⟩))=(TM,[(0,r),(1,.s (E (0,0)) n z),(2,v),(3,.s (E (1,0)) n T),(4,.i .u64 k),(5,.i .i64 q),(13,.i .u64 u4),(14,.i .i64 (U.i64.wrap (l+1)))],(y [⟨.ws .u64 (u.set t m),P⟩]),[D (m<b.snd)==u3,D (p<a.snd)==A,D (1=1/\t<u.length),D (0<=d/\d<(↑(2*n):Int)),D (h=h/\n=h/\w=w/\j=j/\h<4294967296/\j+(h)<=g.length/\0+(h)<=L.length/\dG g/\dG L/\gn o/\gn 0),f,f,D (e<g.length),D (0<=l/\l<(↑(2*n):Int)),D (h=h/\n=h/\w=w/\j=j/\h<4294967296/\j+(h)<=F.length/\0+(h)<=H.length/\dG F/\dG H/\gn x/\gn 0),f,f,D (e<M),D (0<=l/\l<q),D (l<q)==G])
def W2(n i C q s T:Nat)(k c:Int)(F H L:List Int)(p:List Int)(ty:es)(P t o:es):uS n i C q s T k c F H L P 3 2 p.length (λS=>⟨.ws .u64 H,t⟩::⟨.ws .u64 L,o⟩::⟨.ws .u64 p,ty⟩::S) A 0 (p.getD (i:Int).toNat 0):=dR
def VV(n i C q s T:Nat)(k c:Int)(F H L:List Int)(p:List Int)(ty:es)(P t o:es):uS n i C q s T k c F H L P 3 2 p.length (λS=>⟨.ws .u64 H,t⟩::⟨.ws .u64 L,o⟩::⟨.ws .u64 p,ty⟩::S) G 1 (p.getD (i:Int).toNat 0):=dR
abbrev AE(n i C x s T:Nat)(k c:Int)(F H L:List Int)(P:es)(w S u4:Nat)(v:(List dI->List dI))(u3:Int):Prop:=letI p:=(n:Int);letI l:=(i:Int);letI b:=U.i64.wrap (p+l);letI r:=b.toNat;letI d:=l.toNat;letI h:=r-d;letI j:Nat:=eO 0 C d 1;letI a:List Int×Int:=fN u3 0 (jp h (kw j F)) (jp h (kw 0 H));letI g:=dC F a.fst j;letI m:Int:=U.u64.wrap (g.getD d 0*k);letI e:List Int×Int:=fN m 0 (jp h (kw j g)) (jp h (kw 0 L));letI f:Bool:=ed (D (0<=b/\b<=(C:Int))) (D (0<=l/\l<=(r:Int)));letI o:=U.u64.wrap (c+a.snd);letI q:V:= .s (E (w,0)) (2*n) C;letI t:=dC g e.fst j;letI u:V:= .s (E (S,0)) n s;(oS (eC (ep g0 (N1 mG) LR) f205.ntmps 200 [0,1,2,3,4,5,13,14] TM ⟨[(0,q),(1,.s (E (0,0)) n x),(2,u),(3,.s (E (1,0)) n T),(4,.i .u64 k),(5,.i .i64 (n:Int)),(13,.i .u64 c),(14,.i .i64 (i:Int))],(v [⟨.ws .u64 F,P⟩]),[G,G,G],[]⟩))=(TM,[(0,q),(1,.s (E (0,0)) n x),(2,u),(3,.s (E (1,0)) n T),(4,.i .u64 k),(5,.i .i64 p),(13,.i .u64 1),(14,.i .i64 (U.i64.wrap (l+1)))],(v [⟨.ws .u64 (t.set r (U.u64.wrap (o+e.snd))),P⟩]),[G,D (o<a.snd)==G,D (1=1/\r<t.length),D (0<=b/\b<(↑(2*n):Int)),D (h=h/\n=h/\w=w/\j=j/\h<4294967296/\j+(h)<=g.length/\0+(h)<=L.length/\dG g/\dG L/\gn m/\gn 0),f,f,D (d<g.length),D (0<=l/\l<(↑(2*n):Int)),D (h=h/\n=h/\w=w/\j=j/\h<4294967296/\j+(h)<=F.length/\0+(h)<=H.length/\dG F/\dG H/\gn u3/\gn 0),f,f,D (d<u4),D (0<=l/\l<p),D (l<p)==G])
def LD(n i C q s T:Nat)(k c:Int)(F H L:List Int)(p:List Int)(ty:es)(P t o:es):AE n i C q s T k c F H L P 3 2 p.length (λS=>⟨.ws .u64 H,t⟩::⟨.ws .u64 L,o⟩::⟨.ws .u64 p,ty⟩::S) (p.getD (i:Int).toNat 0):=dR
abbrev An(n C q s T:Nat)(k c:Int)(F:List Int)(P:es)(w S:Nat)(u:(List dI->List dI)):Prop:=letI a:=(n:Int);letI d:=a.toNat;letI b:Nat:=(2*n-d).min (d-0);letI e:Prop:=0<=a/\a<=(C:Int);(gi f205.results.toList (et (ep g0 (N1 mG) LR) f205.ntmps N 200 TM ⟨[(0,.s (E (w,0)) (2*n) C),(1,.s (E (0,0)) n q),(2,.s (E (S,0)) n s),(3,.s (E (1,0)) n T),(4,.i .u64 k),(5,.i .i64 (n:Int)),(13,.i .u64 c),(14,.i .i64 (n:Int))],(u [⟨.ws .u64 F,P⟩]),[A,A],[]⟩))=(G,E (.s (E (w,0)) (d-0) (C-0)),(u [⟨.ws .u64 (dC F (jp b (kw (eO 0 C d 1) F)) 0),P⟩]),[decide e,D (eO 0 C d 1+b<=F.length/\0+b<=F.length),ed (D (2*n<=C)) (D (0<=a/\a<=(↑(2*n):Int))),decide e,(c !=0)==A,D (a<a)==A])
def LU(n C q s T:Nat)(k c:Int)(F H L:List Int)(p:List Int)(ty:es)(P t o:es):An n C q s T k c F P 3 2 (λS=>⟨.ws .u64 H,t⟩::⟨.ws .u64 L,o⟩::⟨.ws .u64 p,ty⟩::S):=dR
abbrev AB(n C q s T:Nat)(k c:Int)(F L:List Int)(P:es)(w S:Nat)(u:(List dI->List dI)):Prop:=letI a:=(n:Int);letI b:=a.toNat;letI d:Prop:=0<=a/\a<=(C:Int);(gi f205.results.toList (et (ep g0 (N1 mG) LR) f205.ntmps N 200 TM ⟨[(0,.s (E (w,0)) (2*n) C),(1,.s (E (0,0)) n q),(2,.s (E (S,0)) n s),(3,.s (E (1,0)) n T),(4,.i .u64 k),(5,.i .i64 (n:Int)),(13,.i .u64 c),(14,.i .i64 (n:Int))],(u [⟨.ws .u64 F,P⟩]),[A,G],[]⟩))=(G,E (.s (E (w,0)) (b-0) (C-0)),(u [⟨.ws .u64 (dC F (jQ 0 (jp (b-0) (kw (eO 0 C b 1) F)) (jp (b-0) (kw 0 L))).fst 0),P⟩]),[decide d,D (2*n-b=b-0/\n=b-0/\b-0<4294967296/\0+(b-0)<=F.length/\eO 0 C b 1+(b-0)<=F.length/\0+(b-0)<=L.length/\dG F/\dG L),ed (D (2*n<=C)) (D (0<=a/\a<=(↑(2*n):Int))),decide d,(c !=0)==G,D (a<a)==A])
def L6(n C q s T:Nat)(k c:Int)(F H L:List Int)(p:List Int)(ty:es)(P t o:es):AB n C q s T k c F L P 3 2 (λS=>⟨.ws .u64 H,t⟩::⟨.ws .u64 L,o⟩::⟨.ws .u64 p,ty⟩::S):=dR
def Vd(n q s T i j:Nat)(k:Int)(F H L:List Int)(P t o:es):Ao n q s T i j k F P 2 0 (λS=>⟨.ws .u64 H,t⟩::⟨.ws .u64 L,o⟩::S):=dR
def Wa(n q s T:Nat)(k:Int)(H L:List Int)(t o:es):letI a:dI:=⟨.ws .u64 H,t⟩;letI b:dI:=⟨.ws .u64 L,o⟩;Al n q s T k 0 2 [a,b] (λS=>a::b::S):=dR
def Vo(n i C q s T:Nat)(k c:Int)(F H L:List Int)(P t o:es):uS n i C q s T k c F H L P 2 0 H.length (λS=>⟨.ws .u64 H,t⟩::⟨.ws .u64 L,o⟩::S) A 0 (H.getD (i:Int).toNat 0):=dR
def VO(n i C x s T:Nat)(k c:Int)(F H L:List Int)(P y z:es):letI l:=(i:Int);letI e:=l.toNat;letI q:=(n:Int);letI d:=U.i64.wrap (q+l);letI u:=d.toNat;letI h:=u-e;letI j:Nat:=eO 0 C e 1;letI a:List Int×Int:=fN (H.getD e 0) 0 (jp h (kw j F)) (jp h (kw 0 H));letI g:=dC F a.fst j;letI o:Int:=U.u64.wrap (g.getD e 0*k);letI b:List Int×Int:=fN o 0 (jp h (kw j g)) (jp h (kw 0 L));letI f:Bool:=ed (D (0<=d/\d<=(C:Int))) (D (0<=l/\l<=(u:Int)));letI p:=U.u64.wrap (c+a.snd);letI m:=U.u64.wrap (p+b.snd);letI r:dI:=⟨.ws .u64 H,y⟩;letI t:dI:=⟨.ws .u64 L,z⟩;letI v:V:= .s (E (2,0)) (2*n) C;letI w:=dC g b.fst j;(oS (eC (ep g0 (N1 mG) LR) f205.ntmps 200 [0,1,2,3,4,5,13,14] TM ⟨[(0,v),(1,.s (E (0,0)) n x),(2,.s (E (0,0)) n s),(3,.s (E (1,0)) n T),(4,.i .u64 k),(5,.i .i64 (n:Int)),(13,.i .u64 c),(14,.i .i64 (i:Int))],[r,t,⟨.ws .u64 F,P⟩],[G,A,G],[]⟩))=(TM,[(0,v),(1,.s (E (0,0)) n x),(2,.s (E (0,0)) n s),(3,.s (E (1,0)) n T),(4,.i .u64 k),(5,.i .i64 q),(13,.i .u64 1),(14,.i .i64 (U.i64.wrap (l+1)))],[r,t,⟨.ws .u64 (w.set u m),P⟩],[D (m<b.snd)==G,D (p<a.snd)==A,D (1=1/\u<w.length),D (0<=d/\d<(↑(2*n):Int)),D (h=h/\n=h/\2=2/\j=j/\h<4294967296/\j+(h)<=g.length/\0+(h)<=L.length/\dG g/\dG L/\gn o/\gn 0),f,f,D (e<g.length),D (0<=l/\l<(↑(2*n):Int)),D (h=h/\n=h/\2=2/\j=j/\h<4294967296/\j+(h)<=F.length/\0+(h)<=H.length/\dG F/\dG H/\gn (H.getD e 0)/\gn 0),f,f,D (e<H.length),D (0<=l/\l<q),D (l<q)==G]):=I
def L7(n i C q s T:Nat)(k c:Int)(F H L:List Int)(P t o:es):AE n i C q s T k c F H L P 2 0 H.length (λS=>⟨.ws .u64 H,t⟩::⟨.ws .u64 L,o⟩::S) (H.getD (i:Int).toNat 0):=dR
def Ni(n C q s T:Nat)(k c:Int)(F H L:List Int)(P t o:es):An n C q s T k c F P 2 0 (λS=>⟨.ws .u64 H,t⟩::⟨.ws .u64 L,o⟩::S):=dR
def NI(n C q s T:Nat)(k c:Int)(F H L:List Int)(P t o:es):AB n C q s T k c F L P 2 0 (λS=>⟨.ws .u64 H,t⟩::⟨.ws .u64 L,o⟩::S):=dR
def tO(X M k W d:Int):Int:=(W+X*d+M*(((W+X*d)%18446744073709551616*k)%18446744073709551616))/18446744073709551616
def kf(X M k:Int):List Int->Int->Int
  |[],W=>W
  |d::H,W=>kf X M k H (tO X M k W d)
def Jn(h:0<l.length):val l=l.getD 0 0+18446744073709551616*val (l.drop 1):=by
  cases l with
  |nil=>simp at h
  |cons x l=>rfl
def yh(h:0<l.length)(w:dG l):val l%18446744073709551616=l.getD 0 0:=by rw[Jn h,pM];have:=eg w 0;exact og this.1 this.2
def Kk(h:0<n)(a:Int): ∃b,a*pw n=18446744073709551616*b:=by
  obtain⟨i,rfl⟩: ∃i,n=i+1:=⟨n-1,O⟩
  exact⟨a*pw i,by rw[gV];ac_rfl⟩
def Fc{o l k:Int}:letI a:Int:=18446744073709551616;∀(R:(l*k+1)%a=0),(o+l*((o%a*k)%a))%a=0:=by
  intro R
  have T:(l*((o%18446744073709551616*k)%18446744073709551616))%18446744073709551616=(l*k*o)%18446744073709551616:=by rw[Cn l,Int.emod_emod,<-Cn,eD (o%_) k,<-fO,Cn (l*k),Int.emod_emod,<-Cn]
  rw[Gc,T,<-Gc,show o+l*k*o=(l*k+1)*o by rw[jN,jT,JC],Cn,R,mN];rfl
def AI{r:List Int}{k:Nat}(h:k<=o)(F:o<=l.length):(dC l r o).take k=l.take k:=by unfold dC;rw[qx,Km rK,BR,qk h]
def Tt{i:Nat}{c d:Int}(hn:1<=n)(hz:n+i<F.length)(wz:dG F)(wx:dG H)(wm:dG L)(lx:n<=H.length)(lm:n<=L.length)(hd:gn d)(hc:0<=c)(ap:c<=1)(ad:(L.getD 0 0*k+1)%18446744073709551616=0)(h0:val (F.take i)=0){w:List Int×Int}(ak:w=fN d 0 ((F.drop i).take n) (H.take n)){T:List Int}(o:T=dC F w.1 i){t:Int}(ht:t=U.u64.wrap (T.getD i 0*k)){m:List Int×Int}(aj:m=fN t 0 ((T.drop i).take n) (L.take n)){z:List Int}(R:z=dC T m.1 i){q s:Int}(ag:q=U.u64.wrap (c+w.2))(af:s=U.u64.wrap (q+m.2)){v:List Int}(x:v=z.set (n+i) s):
    T.length=F.length/\z.length=F.length/\w.1.length=n/\m.1.length=n/\dG T/\gn t/\gn w.2/\gn m.2/\v.length=F.length/\dG v/\(∀p,n+i<p->p<=F.length->v.drop p=F.drop p)/\val (v.take (i+1))=0/\
      ∃
       y:Int,(y=1/\(q<w.2∨s<m.2)∨y=0/\ ¬q<w.2/\ ¬s<m.2)/\
       val ((v.drop (i+1)).take n)+y*pw n=tO (val (H.take n)) (val (L.take n)) k (val ((F.drop i).take n)+c*pw n) d:=by
  have ls:((F.drop i).take n).length=n:=by rw[gR,jK];omega
  have am:(H.take n).length=n:=rK;have an:(L.take n).length=n:=rK;have ws:=dS (fR wz i) n;obtain⟨a1,a2⟩:=rm d ((F.drop i).take n) (H.take n) 0 O;obtain⟨a3,a4⟩:=qR d hd ((F.drop i).take n) (H.take n) 0 O ws (dS wx n) se;rw[<-ak]at a1 a2 a3 a4;rw[ls]at a1 a2;have l1:T.length=F.length:=by rw[o];exact fP O
  have w1:dG T:=by rw[o];exact eS wz a3
  have g:(T.drop i).take n=w.1:=by rw[o,<-a2];exact wL O
  have tw:gn t:=by rw[ht];exact⟨j7 _ J,j6 _ J⟩
  obtain⟨b1,b2⟩:=rm t ((T.drop i).take n) (L.take n) 0 (by rw[g];omega);obtain⟨b3,b4⟩:=qR t tw ((T.drop i).take n) (L.take n) 0 (by rw[g];omega) (by rw[g];exact a3) (dS wm n) se;rw[<-aj]at b1 b2 b3 b4;rw[g]at b1 b2;rw[a2]at b1 b2;have l2:z.length=F.length:=by rw[R];rw[fP O];exact l1
  have w2:dG z:=by rw[R];exact eS w1 b3
  have g1:T.getD i 0=w.1.getD 0 0:=by have:(T.drop i).getD 0 0=((T.drop i).take n).getD 0 0:=(rU O).symm;rw[g]at this;rw[<-this,ie,ie,jY];rfl
  have ac:w.1.getD 0 0=val w.1%18446744073709551616:=(yh O a3).symm;obtain⟨e1,ao⟩:=Kk (O:0<n) w.2;obtain⟨e2,a⟩:=Kk (O:0<n) (c+w.2);obtain⟨e3,ae⟩:=Kk (O:0<n) m.2;generalize hX:val (H.take n)=f at*;generalize hM:val (L.take n)=M at*;generalize hS:val ((F.drop i).take n)=S at*;have al:q=(c+w.2)%18446744073709551616:=ag;have aa:s=(q+m.2)%18446744073709551616:=af;have eN:S+c*pw n+f*d=val w.1+(c+w.2)*pw n:=by rw[jN];omega
  have hN:(S+c*pw n+f*d)%18446744073709551616=w.1.getD 0 0:=by rw[ac,eN,a,pM]
  have Q:t=((S+c*pw n+f*d)%18446744073709551616*k)%18446744073709551616:=by rw[hN,ht,g1];rfl
  have r:S+c*pw n+f*d+M*t=val m.1+(c+w.2+m.2)*pw n:=by rw[eN,jN _ m.2];omega
  have aq:M%18446744073709551616=L.getD 0 0:=by rw[<-hM,yh O (dS wm n),rU O]
  have P:m.1.getD 0 0=0:=by
    rw[<-yh O b3]
    have h1:val m.1%18446744073709551616=(S+c*pw n+f*d+M*t)%18446744073709551616:=by rw[r,jN _ m.2,a,ae,<-fh,pM]
    have ah:M=L.getD 0 0+18446744073709551616*(M/18446744073709551616):=O
    have h2:(M*t)%18446744073709551616=(L.getD 0 0*t)%18446744073709551616:=by
      have e:M*t=L.getD 0 0*t+18446744073709551616*(M/18446744073709551616*t):=by rw[<-fO,<-jN,<-ah]
      rw[e,pM]
    rw[h1,Gc,h2,<-Gc,Q];exact Fc ad
  have C: ∃y:Int,(y=1/\(q<w.2∨s<m.2)∨y=0/\ ¬q<w.2/\ ¬s<m.2)/\c+w.2+m.2=s+18446744073709551616*y:=by
    have:=a4.1;have:=a4.2;have:=b4.1;have:=b4.2;by_cases h:q<w.2
    .exact⟨1,.inl ⟨K,.inl h⟩,O⟩
    .by_cases h':s<m.2
     .exact⟨1,.inl ⟨K,.inr h'⟩,O⟩
     .exact⟨0,.inr ⟨K,h,h'⟩,O⟩
  have ab:gn s:=by rw[aa];exact⟨j7 _ J,j6 _ J⟩
  have l3:v.length=F.length:=by rw[x,gU];exact l2
  have s2:(z.drop i).take n=m.1:=by rw[R,<-b2];exact wL O
  have g2:z.getD i 0=m.1.getD 0 0:=by have:(z.drop i).getD 0 0=((z.drop i).take n).getD 0 0:=(rU O).symm;rw[s2]at this;rw[<-this,ie,ie,jY];rfl
  refine⟨l1,l2,a2,b2,w1,tw,a4,b4,l3,by rw[x];exact gu w2 ab,λp h1 h2=>by rw[x,Bi h1,R,iW O O,o,iW O O],?_,?_⟩
  .have t1:v.take i=F.take i:=by rw[x,JZ O,R,AI (eT _) O,o,AI (eT _) O]
   have t2:v.getD i 0=0:=by rw[x,ie,lI O,<-ie,g2];exact P
   rw[eL,t1,h0,t2];simp
  .obtain⟨y,h1,h2⟩:=C;refine⟨y,h1,?_⟩;obtain⟨u,rfl⟩: ∃u,n=u+1:=⟨n-1,O⟩
   have t3:(v.drop (i+1)).getD u 0=s:=by rw[ie,jY,x,(O:i+1+u=u+1+i),qj O];rfl
   have t4:(v.drop (i+1)).take u=m.1.drop 1:=by
     have:m.1.drop 1=(z.drop (i+1)).take u:=by rw[<-s2,List.drop_take,lR];rfl
     rw[this];apply AP;intro j;rw[nF,nF];split
     .rw [jY,jY,x,lI O]
     .rfl
   rw[eL,t3,t4];have t5:=Jn (l:=m.1) O;rw[P,mO]at t5
   have b:tO f M k (S+c*pw (u+1)) d=val (m.1.drop 1)+pw u*s+y*pw (u+1):=by
     unfold tO;rw[<-Q,r,h2,t5]
     have e:(s+18446744073709551616*y)*pw (u+1)=18446744073709551616*(pw u*s+y*pw (u+1)):=by
       rw[jN,fh]
       congr 1
       .rw [gV];ac_rfl
       .ac_rfl
     rw[e,<-fh,QY _ J,wO]
   rw[b]
def A3(n:Nat)(w W:Int)(F:List Int):List Int:=iM n w++(iM n W++F.drop (2*n))
def rh(f:2*n<=l.length)(d:dG l)(H:val (l.take n)=w)(u:val ((l.drop n).take n)=W)(z:l.drop (2*n)=F.drop (2*n)):l=A3 n w W F:=by
  have a:(l.drop n).drop n=((F.drop n)).drop n:=by rw[lR,lR,(O:n+n=2*n)];exact z
  have M:=lg (l:=l.drop n) (F:=F.drop n) (p:=n) (by rw[jK];omega) (fR d n) u a;have S:=lg (l:=l) (F:=l) (p:=n) O d H K;rw[S];unfold gJ A3;rw[M];unfold gJ;rw[lR,(O:n+n=2*n)]
def HP(h:2*n<=F.length):(A3 n w W F).length=F.length:=by simp[A3,kR];omega
def QU(h:dG F):dG (A3 n w W F):=iR.2 ⟨mT n w,iR.2 ⟨mT n W,fR h _⟩⟩
def OM:(A3 n w W F).take n=iM n w:=by unfold A3;rw[jO (kR n w)]
def E5{q s z b:Nat}{P tx tm ty:es}{Q:V->dE->Prop}(hn:1<=n)(ad:n<100000)(ae:2*n<=C)(wx:dG H)(wm:dG L)(lx:n<=H.length)(lm:n<=L.length)(wy:dG p)(ly:n<=p.length)(ab:(L.getD 0 0*k+1)%18446744073709551616=0):letI a:V:= .i .i64 (n:Int);letI d:U:= .u64;letI e:=ep g0 (N1 mG) LR;letI f:V:= .s (E (3,0)) (2*n) C;letI g:dI:=⟨.ws d H,tx⟩;letI h:dI:=⟨.ws d L,tm⟩;letI j:dI:=⟨.ws d p,ty⟩;∀(r i:Nat)(F:List Int)(c:Int),i+r=n->2*n<=F.length->dG F->0<=c->c<=1->val (F.take i)=0->
    (∀(w:List Int)(T:Int),w.length=F.length->dG w->0<=T->T<=1->
     val ((w.drop n).take n)+T*pw n=kf (val (H.take n)) (val (L.take n)) k ((p.drop i).take r) (val ((F.drop i).take n)+c*pw n)->w.drop (2*n)=F.drop (2*n)->
     Ev B e 205 f205.ntmps b [] TM [(0,f),(1,.s (E (0,0)) n q),(2,.s (E (2,0)) n s),(3,.s (E (1,0)) n z),(4,.i d k),(5,a),(13,.i d T),(14,a)] [g,h,j,⟨.ws d w,P⟩] Q)->
    Ev B e 205 f205.ntmps b [] TM [(0,f),(1,.s (E (0,0)) n q),(2,.s (E (2,0)) n s),(3,.s (E (1,0)) n z),(4,.i d k),(5,a),(13,.i d c),(14,.i .i64 (i:Int))] [g,h,j,⟨.ws d F,P⟩] Q:=by
  intro r
  induction r with
  |zero=>
   intro i F c hi hz u c0 c1 h0 hk;obtain rfl:i=n:=O;exact hk F c K u c0 c1 (by simp[kf]) K
  |succ r ih=>
   intro i F c hi hz u c0 c1 h0 hk;have i1:U.i64.wrap ((n:Int)+(i:Int))=((n+i:Nat):Int):=jw;have i2:U.i64.wrap ((i:Int)+1)=((i+1:Nat):Int):=jw;have m:eO 0 C i 1=i:=by rw[kE O];omega
   have d1:n+i-i=n:=O;have dw:=eg wy i;obtain⟨A1,v⟩: ∃A1,A1=fN (p.getD i 0) 0 ((F.drop i).take n) (H.take n):=⟨_,K⟩
   obtain⟨z1,o⟩: ∃z1,z1=dC F A1.1 i:=⟨_,K⟩
   obtain⟨t,ht⟩: ∃t,t=U.u64.wrap (z1.getD i 0*k):=⟨_,K⟩
   obtain⟨A2,l⟩: ∃A2,A2=fN t 0 ((z1.drop i).take n) (L.take n):=⟨_,K⟩
   obtain⟨z2,R⟩: ∃z2,z2=dC z1 A2.1 i:=⟨_,K⟩
   obtain⟨vx,M⟩: ∃vx,vx=U.u64.wrap (c+A1.2):=⟨_,K⟩
   obtain⟨vy,S⟩: ∃vy,vy=U.u64.wrap (vx+A2.2):=⟨_,K⟩
   obtain⟨z3,x⟩: ∃z3,z3=z2.set (n+i) vy:=⟨_,K⟩
   obtain⟨l1,l2,l3,l4,w1,tw,ag,af,l5,w3,ac,h3,T,y,hW⟩:=Tt hn O u wx wm lx lm dw c0 c1 ab h0 v o ht l R M S x
   have eY:(p.drop i).take (r+1)=p.getD i 0::(p.drop (i+1)).take r:=by have aa:i<p.length:=O;rw[uX aa,Gu,ie,jr aa];rfl
   have next:Ev B (ep g0 (N1 mG) LR) 205 f205.ntmps b [] TM [(0,.s (E (3,0)) (2*n) C),(1,.s (E (0,0)) n q),(2,.s (E (2,0)) n s),(3,.s (E (1,0)) n z),(4,.i .u64 k),(5,.i .i64 (n:Int)),(13,.i .u64 T),(14,.i .i64 ((i+1:Nat):Int))] [⟨.ws .u64 H,tx⟩,⟨.ws .u64 L,tm⟩,⟨.ws .u64 p,ty⟩,⟨.ws .u64 z3,P⟩] Q:=by refine ih (i+1) z3 T O O w3 (by rcases y with h|h<;>omega) (by rcases y with h|h<;>omega) h3 ?_;intro w c2 a1 a2 a3 a4 a5 a6;refine hk w c2 O a2 a3 a4 ?_ (a6.trans (ac (2*n) O hz));rw[eY];show _=kf _ _ _ _ (tO _ _ _ _ _);rw[<-hW];exact a5
   have n1:i<F.length:=O;have n2:n+i<F.length:=O;have n3:i+n<=F.length:=O;have n4:n+i<=2*n:=O;have n5:i<p.length:=O;rcases y with⟨rfl,h|h⟩ |⟨rfl,h,h'⟩
   .have e:=LD n i C q s z k c F H L p ty P tx tm;unfold AE at e;simp only[i1,i2,m,d1,dU,gh,jo,<-v]at e;simp only[<-o]at e;simp only[<-ht]at e;simp only[<-l,<-M]at e;simp only[<-R,<-S]at e;simp only[<-x]at e;refine fa (gK (wA _) (eP _)) e ?_ K next;simp only[h];simp only[dK,dJ,eu,ew,Nat.reduceAdd,Nat.reduceLT,l1,l2,u,wx,wm,w1,dw,tw,se,h]
    first|omega|(simp only[iT,fV,im];omega)
   .by_cases hq:vx<A1.2
    .have e:=LD n i C q s z k c F H L p ty P tx tm;unfold AE at e;simp only[i1,i2,m,d1,dU,gh,jo,<-v]at e;simp only[<-o]at e;simp only[<-ht]at e;simp only[<-l,<-M]at e;simp only[<-R,<-S]at e;simp only[<-x]at e;refine fa (gK (wA _) (eP _)) e ?_ K next;simp only[hq];simp only[dK,dJ,eu,ew,Nat.reduceAdd,Nat.reduceLT,l1,l2,u,wx,wm,w1,dw,tw,se,hq]
     first|omega|(simp only[iT,fV,im];omega)
    .have e:=VV n i C q s z k c F H L p ty P tx tm;unfold uS at e;simp only[i1,i2,m,d1,dU,gh,jo,<-v]at e;simp only[<-o]at e;simp only[<-ht]at e;simp only[<-l,<-M]at e;simp only[<-R,<-S]at e;simp only[<-x]at e;refine fa (gK (wA _) (eP _)) e ?_ K next;simp only[hq,h];simp only[dK,dJ,eu,ew,Nat.reduceAdd,Nat.reduceLT,l1,l2,u,wx,wm,w1,dw,tw,se,hq,h]
     first|omega|(simp only[iT,fV,im];omega)
   .have e:=W2 n i C q s z k c F H L p ty P tx tm;unfold uS at e;simp only[i1,i2,m,d1,dU,gh,jo,<-v]at e;simp only[<-o]at e;simp only[<-ht]at e;simp only[<-l,<-M]at e;simp only[<-R,<-S]at e;simp only[<-x]at e;refine fa (gK (wA _) (eP _)) e ?_ K next;simp only[h,h'];simp only[dK,dJ,eu,ew,Nat.reduceAdd,Nat.reduceLT,l1,l2,u,wx,wm,w1,dw,tw,se,h,h']
    first|omega|(simp only[iT,fV,im];omega)
def Eg{q s T b:Nat}{P z tm:es}{Q:V->dE->Prop}(hn:1<=n)(ad:n<100000)(ae:2*n<=C)(p:dG H)(wm:dG L)(lx:n<=H.length)(lm:n<=L.length)(ab:(L.getD 0 0*k+1)%18446744073709551616=0):letI a:V:= .i .i64 (n:Int);letI d:=ep g0 (N1 mG) LR;letI e:dI:=⟨.ws .u64 H,z⟩;letI f:dI:=⟨.ws .u64 L,tm⟩;letI g:V:= .s (E (2,0)) (2*n) C;∀(r i:Nat)(F:List Int)(c:Int),i+r=n->2*n<=F.length->dG F->0<=c->c<=1->val (F.take i)=0->
    (∀(w:List Int)(y:Int),w.length=F.length->dG w->0<=y->y<=1->
     val ((w.drop n).take n)+y*pw n=kf (val (H.take n)) (val (L.take n)) k ((H.drop i).take r) (val ((F.drop i).take n)+c*pw n)->w.drop (2*n)=F.drop (2*n)->
     Ev B d 205 f205.ntmps b [] TM [(0,g),(1,.s (E (0,0)) n q),(2,.s (E (0,0)) n s),(3,.s (E (1,0)) n T),(4,.i .u64 k),(5,a),(13,.i .u64 y),(14,a)] [e,f,⟨.ws .u64 w,P⟩] Q)->
    Ev B d 205 f205.ntmps b [] TM [(0,g),(1,.s (E (0,0)) n q),(2,.s (E (0,0)) n s),(3,.s (E (1,0)) n T),(4,.i .u64 k),(5,a),(13,.i .u64 c),(14,.i .i64 (i:Int))] [e,f,⟨.ws .u64 F,P⟩] Q:=by
  intro r
  induction r with
  |zero=>
   intro i F c hi hz u c0 c1 h0 hk;obtain rfl:i=n:=O;exact hk F c K u c0 c1 (by simp[kf]) K
  |succ r ih=>
   intro i F c hi hz u c0 c1 h0 hk;have i1:U.i64.wrap ((n:Int)+(i:Int))=((n+i:Nat):Int):=jw;have i2:U.i64.wrap ((i:Int)+1)=((i+1:Nat):Int):=jw;have m:eO 0 C i 1=i:=by rw[kE O];omega
   have d1:n+i-i=n:=O;have dw:=eg p i;obtain⟨A1,v⟩: ∃A1,A1=fN (H.getD i 0) 0 ((F.drop i).take n) (H.take n):=⟨_,K⟩
   obtain⟨z1,o⟩: ∃z1,z1=dC F A1.1 i:=⟨_,K⟩
   obtain⟨t,ht⟩: ∃t,t=U.u64.wrap (z1.getD i 0*k):=⟨_,K⟩
   obtain⟨A2,l⟩: ∃A2,A2=fN t 0 ((z1.drop i).take n) (L.take n):=⟨_,K⟩
   obtain⟨z2,R⟩: ∃z2,z2=dC z1 A2.1 i:=⟨_,K⟩
   obtain⟨vx,M⟩: ∃vx,vx=U.u64.wrap (c+A1.2):=⟨_,K⟩
   obtain⟨vy,S⟩: ∃vy,vy=U.u64.wrap (vx+A2.2):=⟨_,K⟩
   obtain⟨z3,x⟩: ∃z3,z3=z2.set (n+i) vy:=⟨_,K⟩
   obtain⟨l1,l2,l3,l4,w1,tw,ag,af,l5,w3,ac,h3,y,j,hW⟩:=Tt hn O u p wm lx lm dw c0 c1 ab h0 v o ht l R M S x
   have eY:(H.drop i).take (r+1)=H.getD i 0::(H.drop (i+1)).take r:=by have aa:i<H.length:=O;rw[uX aa,Gu,ie,jr aa];rfl
   have next:Ev B (ep g0 (N1 mG) LR) 205 f205.ntmps b [] TM [(0,.s (E (2,0)) (2*n) C),(1,.s (E (0,0)) n q),(2,.s (E (0,0)) n s),(3,.s (E (1,0)) n T),(4,.i .u64 k),(5,.i .i64 (n:Int)),(13,.i .u64 y),(14,.i .i64 ((i+1:Nat):Int))] [⟨.ws .u64 H,z⟩,⟨.ws .u64 L,tm⟩,⟨.ws .u64 z3,P⟩] Q:=by refine ih (i+1) z3 y O O w3 (by rcases j with h|h<;>omega) (by rcases j with h|h<;>omega) h3 ?_;intro w c2 a1 a2 a3 a4 a5 a6;refine hk w c2 O a2 a3 a4 ?_ (a6.trans (ac (2*n) O hz));rw[eY];show _=kf _ _ _ _ (tO _ _ _ _ _);rw[<-hW];exact a5
   have n1:i<F.length:=O;have n2:n+i<F.length:=O;have n3:i+n<=F.length:=O;have n4:n+i<=2*n:=O;have n5:i<H.length:=O;rcases j with⟨rfl,h|h⟩ |⟨rfl,h,h'⟩
   .have e:=L7 n i C q s T k c F H L P z tm;unfold AE at e;simp only[i1,i2,m,d1,dU,gh,jo,<-v]at e;simp only[<-o]at e;simp only[<-ht]at e;simp only[<-l,<-M]at e;simp only[<-R,<-S]at e;simp only[<-x]at e;refine fa (gK (wA _) (eP _)) e ?_ K next;simp only[h];simp only[dK,dJ,eu,ew,Nat.reduceAdd,Nat.reduceLT,l1,l2,u,p,wm,w1,dw,tw,se,h]
    first|omega|(simp only[iT,fV,im];omega)
   .by_cases hq:vx<A1.2
    .have e:=L7 n i C q s T k c F H L P z tm;unfold AE at e;simp only[i1,i2,m,d1,dU,gh,jo,<-v]at e;simp only[<-o]at e;simp only[<-ht]at e;simp only[<-l,<-M]at e;simp only[<-R,<-S]at e;simp only[<-x]at e;refine fa (gK (wA _) (eP _)) e ?_ K next;simp only[hq];simp only[dK,dJ,eu,ew,Nat.reduceAdd,Nat.reduceLT,l1,l2,u,p,wm,w1,dw,tw,se,hq]
     first|omega|(simp only[iT,fV,im];omega)
    .have e:=VO n i C q s T k c F H L P z tm;simp only[i1,i2,m,d1,dU,gh,jo,<-v]at e;simp only[<-o]at e;simp only[<-ht]at e;simp only[<-l,<-M]at e;simp only[<-R,<-S]at e;simp only[<-x]at e;refine fa (gK (wA _) (eP _)) e ?_ K next;simp only[hq,h];simp only[dK,dJ,eu,ew,Nat.reduceAdd,Nat.reduceLT,l1,l2,u,p,wm,w1,dw,tw,se,hq,h]
     first|omega|(simp only[iT,fV,im];omega)
   .have e:=Vo n i C q s T k c F H L P z tm;unfold uS at e;simp only[i1,i2,m,d1,dU,gh,jo,<-v]at e;simp only[<-o]at e;simp only[<-ht]at e;simp only[<-l,<-M]at e;simp only[<-R,<-S]at e;simp only[<-x]at e;refine fa (gK (wA _) (eP _)) e ?_ K next;simp only[h,h'];simp only[dK,dJ,eu,ew,Nat.reduceAdd,Nat.reduceLT,l1,l2,u,p,wm,w1,dw,tw,se,h,h']
    first|omega|(simp only[iT,fV,im];omega)
def wC(n:Nat)(X M k:Int)(p:List Int):Int:=if pw n<=kf X M k p 0 then kf X M k p 0-M else kf X M k p 0
def RX{X M d:Int}(T:0<=X)(s:0<=M)(u:0<=W)(h:W<X+M)(z:gn d):0<=tO X M k W d/\tO X M k W d<X+M:=by unfold tO;have L:=j7 ((W+X*d)%18446744073709551616*k) (J:(18446744073709551616:Int)≠0);have v:=j6 ((W+X*d)%18446744073709551616*k) (J:(0:Int)<18446744073709551616);generalize((W+X*d)%18446744073709551616*k)%18446744073709551616=t at L v⊢;have a:=jL T z.1;have b:=jL s L;have c:=gF (show d<=18446744073709551615 by have:=z.2;omega) T;have e:=gF (O:t<=18446744073709551615) s;exact⟨n9 O J,rD J O⟩
def qA{X M:Int}(T:0<=X)(s:0<=M): ∀(H:List Int)(W:Int),dG H->0<=W->W<X+M->0<=kf X M k H W/\kf X M k H W<X+M
  |[],_,_,C,a=>⟨C,a⟩
  |d::H,W,z,C,a=>by have:=RX (k:=k) T s C a (z d (jt ..));exact qA T s H _ (λx L=>z x (jh _ L)) this.1 this.2
def yy{c X M:Int}(o:2*n<=F.length)(u:dG F)(x:dG L)(w:n<=L.length)(s:M=val (L.take n))(k:val ((F.drop n).take n)+c*pw n=W)(T:X<pw n)(z:W<X+M):letI e:=(F.drop n).take n;letI a:List Int:=dC F (jQ 0 e (L.take n)).1 0;letI b:List Int:=dC F e 0;letI d:=if pw n<=W then W-M else W;(c=0->b.length=F.length/\dG b/\val (b.take n)=d/\val ((b.drop n).take n)=W%pw n/\b.drop (2*n)=F.drop (2*n))/\
    (c=1->a.length=F.length/\dG a/\val (a.take n)=(d)/\val ((a.drop n).take n)=W%pw n/\a.drop (2*n)=F.drop (2*n)):=by
  have q:((F.drop n).take n).length=n:=by rw[gR,jK];omega
  have j:(L.take n).length=n:=rK;have p:=dS (fR u n) n;have b:=ez _ p;rw[q]at b;constructor
  .rintro rfl;have f:=front (F:=F) (R:=(F.drop n).take n) O;rw[q]at f;refine⟨fP O,eS u p,by rw[f,if_neg O];omega,?_,iW O o⟩;rw[iW O O,<-k,mN,jP,og b.1 b.2]
  .rintro rfl;obtain⟨g,m,r,l⟩:=pR ((F.drop n).take n) (L.take n) 0 O p (dS x n) O O;have i:=qu ((F.drop n).take n) (L.take n) 0;generalize jQ 0 ((F.drop n).take n) (L.take n)=S at*;rw[q]at g m;have f:=front (F:=F) (R:=S.1) O;rw[m]at f;have P:=ez _ i;rw[m]at P
   have H:S.2=1:=by
     rcases k9 S.2 1 with h|h
     .have:S.2=0:=O;rw[this,mN]at g;omega
     .omega
   rw[H,jT]at g;refine⟨fP O,eS u i,by rw[f,if_pos O];omega,?_,iW O o⟩;rw[iW O O,<-k,jT,Int.add_emod_right,og b.1 b.2]
def Ot{q s T l0 j:Nat}{P t o ty:es}(hn:1<=n)(l:n<100000)(g:2*n<=j)(hz:2*n<=F.length)(wz:dG F)(wx:dG H)(x:dG L)(lx:n<=H.length)(lm:n<=L.length)(wy:dG p)(ly:n<=p.length)(Q:(L.getD 0 0*k+1)%18446744073709551616=0)(S:0<val (L.take n)):letI a:dI:=⟨.ws .u64 H,t⟩;letI b:dI:=⟨.ws .u64 L,o⟩;letI c:dI:=⟨.ws .u64 p,ty⟩;letI d:=val (H.take n);letI e:=val (L.take n);eM B g0 205 [.s (E (3,0)) l0 j,.s (E (0,0)) n q,.s (E (2,0)) n s,.s (E (1,0)) n T,.i .u64 k,.i .i64 (n:Int)] [a,b,c,⟨.ws .u64 F,P⟩]
     (λr m'=>r= .s (E (3,0)) n j/\m'=[a,b,c,⟨.ws .u64 (A3 n (wC n d e k (p.take n)) (kf d e k (p.take n) 0%pw n) F),P⟩]):=by
  have i1:U.i64.wrap ((n:Int)*2)=((2*n:Nat):Int):=jw;have m:eO 0 j n 1=n:=by rw[kE O];omega
  have nn:((n:Int)!=(n:Int))=A:=Y;have i:=ez _ (dS wx n);rw[show(H.take n).length=n by rw[gR];omega]at i;have M:=hz;have h:=wz;have y:=g;have e:=VA n q s T l0 j k F H L p ty P t o;unfold Ao at e;simp only[i1,dU,nn]at e;have lr:(lc (2*n) (0:Int)).length=2*n:=fJ;have f:=front (F:=F) (R:=lc (2*n) 0) O;rw[lr]at f
  have z0:((dC F (lc (2*n) 0) 0).take n)=lc n 0:=by
    have:((dC F (lc (2*n) 0) 0).take (2*n)).take n=lc n 0:=by rw[f,Dq];congr 1;omega
    rw[<-this,BR];congr 1;omega
  refine dL _ f205 (fa (gK (wA _) (eP _)) e ?_ K ?_)
  .simp only[dK,dJ,eu,ew,Nat.reduceAdd,Nat.reduceLT];omega
  refine mU (C:=ep g0 (N1 mG) LR) (by simp only[mC]) ?_;refine E5 hn l y wx x lx lm wy ly Q n 0 _ 0 O (by rw[fP O];exact M) (eS h (dP _)) O O (by simp[val]) ?_;intro w c' a1 a2 a3 a4 a5 a6;rw[iW O O]at a6;rw[fP O]at a1;have e0:val (((dC F (lc (2*n) 0) 0).drop 0).take n)+0*pw n=0:=by rw[gh,z0,kv];simp
  rw[e0,gh]at a5;have z:=(qA (k:=k) i.1 (gA S) (p.take n) 0 (dS wy n) (uh _) O).2;obtain⟨ab,aa⟩:=yy (c:=c') (W:=kf (val (H.take n)) (val (L.take n)) k (p.take n) 0) O a2 x lm K a5 i.2 z;rcases(O:c'=0∨c'=1)with rfl|rfl
  .obtain⟨h1,h2,h3,h4,h5⟩:=ab K;have u:=LU n j q s T k 0 w H L p ty P t o;unfold An at u;have v:2*n-n=n:=O;have q2:Nat.min n n=n:=mo n;simp only[dU,jo,m,v,q2]at u;refine Ev.done (gK (wA _) (eP _)) u ?_ ⟨K,by rw[rh O h2 h3 h4 (h5.trans a6)];rfl⟩;have:=a1;simp only[dK,dJ,eu,ew,Nat.reduceAdd,Nat.reduceLT];omega
  .obtain⟨h1,h2,h3,h4,h5⟩:=aa K;have u:=L6 n j q s T k 1 w H L p ty P t o;unfold AB at u;have v:2*n-n=n:=O;simp only[dU,jo,m,v,gh]at u;refine Ev.done (gK (wA _) (eP _)) u ?_ ⟨K,by rw[rh O h2 h3 h4 (h5.trans a6)];rfl⟩;have:=a1;simp only[dK,dJ,eu,ew,Nat.reduceAdd,Nat.reduceLT,a2,x];omega
def N4{q s T:Nat}{t o ty:es}(hn:1<=n)(l:n<100000)(wx:dG H)(x:dG L)(lx:n<=H.length)(lm:n<=L.length)(wy:dG p)(ly:n<=p.length)(Q:(L.getD 0 0*k+1)%18446744073709551616=0)(j:0<val (L.take n)):letI a:dI:=⟨.ws .u64 H,t⟩;letI b:dI:=⟨.ws .u64 L,o⟩;letI c:dI:=⟨.ws .u64 p,ty⟩;letI d:=val (H.take n);letI e:=val (L.take n);eM B g0 205 [.s N 0 0,.s (E (0,0)) n q,.s (E (2,0)) n s,.s (E (1,0)) n T,.i .u64 k,.i .i64 (n:Int)] [a,b,c]
     (λr m'=>r= .s (E (3,0)) n (dM (2*n))/\m'=[a,b,c,⟨.ws .u64 (A3 n (wC n d e k (p.take n)) (kf d e k (p.take n) 0%pw n) (lc (dM (2*n)) (0:Int))),137⟩]):=by
  have i1:U.i64.wrap ((n:Int)*2)=((2*n:Nat):Int):=jw;have m:eO 0 (dM (2*n)) n 1=n:=by rw[kE (by have:=gL (2*n);omega)];omega
  have nn:((n:Int)!=(n:Int))=A:=Y;have i:=ez _ (dS wx n);rw[show(H.take n).length=n by rw[gR];omega]at i;obtain⟨c1,c2⟩:=gL (2*n);have M:2*n<=(lc (dM (2*n)) (0:Int)).length:=by rw[fJ];exact c1
  have h:dG (lc (dM (2*n)) (0:Int)):=dP _;have F:2*n<=(dM (2*n)):=c1;have e:=Wp n q s T k H L p ty t o;unfold Al at e;simp only[i1,dU,nn]at e;have lr:(lc (2*n) (0:Int)).length=2*n:=fJ;have f:=front (F:=(lc (dM (2*n)) (0:Int))) (R:=lc (2*n) 0) O;rw[lr]at f
  have z0:((dC (lc (dM (2*n)) (0:Int)) (lc (2*n) 0) 0).take n)=lc n 0:=by
    have:((dC (lc (dM (2*n)) (0:Int)) (lc (2*n) 0) 0).take (2*n)).take n=lc n 0:=by rw[f,Dq];congr 1;omega
    rw[<-this,BR];congr 1;omega
  refine dL _ f205 (fa (gK (DP _) (eP _)) e ?_ K ?_)
  .simp only[dK,dJ,eu,ew,Nat.reduceAdd,Nat.reduceLT];omega
  refine mU (C:=ep g0 (N1 mG) LR) (by simp only[mC]) ?_;refine E5 hn l F wx x lx lm wy ly Q n 0 _ 0 O (by rw[fP O];exact M) (eS h (dP _)) O O (by simp[val]) ?_;intro w c' a1 a2 a3 a4 a5 a6;rw[iW O O]at a6;rw[fP O]at a1;have e0:val (((dC (lc (dM (2*n)) (0:Int)) (lc (2*n) 0) 0).drop 0).take n)+0*pw n=0:=by rw[gh,z0,kv];simp
  rw[e0,gh]at a5;have z:=(qA (k:=k) i.1 (gA j) (p.take n) 0 (dS wy n) (uh _) O).2;obtain⟨ab,aa⟩:=yy (c:=c') (W:=kf (val (H.take n)) (val (L.take n)) k (p.take n) 0) O a2 x lm K a5 i.2 z;rcases(O:c'=0∨c'=1)with rfl|rfl
  .obtain⟨h1,S,P,u,y⟩:=ab K;have g:=LU n (dM (2*n)) q s T k 0 w H L p ty 137 t o;unfold An at g;have v:2*n-n=n:=O;have q2:Nat.min n n=n:=mo n;simp only[dU,jo,m,v,q2]at g;refine Ev.done (gK (wA _) (eP _)) g ?_ ⟨K,by rw[rh O S P u (y.trans a6)];rfl⟩;have:=a1;simp only[dK,dJ,eu,ew,Nat.reduceAdd,Nat.reduceLT];omega
  .obtain⟨h1,S,P,u,y⟩:=aa K;have g:=L6 n (dM (2*n)) q s T k 1 w H L p ty 137 t o;unfold AB at g;have v:2*n-n=n:=O;simp only[dU,jo,m,v,gh]at g;refine Ev.done (gK (wA _) (eP _)) g ?_ ⟨K,by rw[rh O S P u (y.trans a6)];rfl⟩;have:=a1;simp only[dK,dJ,eu,ew,Nat.reduceAdd,Nat.reduceLT,a2,x];omega
def Oy{q s T l0 j:Nat}{P t o:es}(hn:1<=n)(l:n<100000)(g:2*n<=j)(hz:2*n<=F.length)(wz:dG F)(S:dG H)(x:dG L)(lx:n<=H.length)(lm:n<=L.length)(Q:(L.getD 0 0*k+1)%18446744073709551616=0)(y:0<val (L.take n)):letI a:=H.take n;letI b:dI:=⟨.ws .u64 H,t⟩;letI c:dI:=⟨.ws .u64 L,o⟩;letI d:=val (L.take n);eM B g0 205 [.s (E (2,0)) l0 j,.s (E (0,0)) n q,.s (E (0,0)) n s,.s (E (1,0)) n T,.i .u64 k,.i .i64 (n:Int)] [b,c,⟨.ws .u64 F,P⟩]
     (λr m'=>r= .s (E (2,0)) n j/\m'=[b,c,⟨.ws .u64 (A3 n (wC n (val a) d k a) (kf (val a) d k a 0%pw n) F),P⟩]):=by
  have i1:U.i64.wrap ((n:Int)*2)=((2*n:Nat):Int):=jw;have m:eO 0 j n 1=n:=by rw[kE O];omega
  have nn:((n:Int)!=(n:Int))=A:=Y;have i:=ez _ (dS S n);rw[show(H.take n).length=n by rw[gR];omega]at i;have M:=hz;have h:=wz;have u:=g;have e:=Vd n q s T l0 j k F H L P t o;unfold Ao at e;simp only[i1,dU,nn]at e;have lr:(lc (2*n) (0:Int)).length=2*n:=fJ;have f:=front (F:=F) (R:=lc (2*n) 0) O;rw[lr]at f
  have z0:((dC F (lc (2*n) 0) 0).take n)=lc n 0:=by
    have:((dC F (lc (2*n) 0) 0).take (2*n)).take n=lc n 0:=by rw[f,Dq];congr 1;omega
    rw[<-this,BR];congr 1;omega
  refine dL _ f205 (fa (gK (wA _) (eP _)) e ?_ K ?_)
  .simp only[dK,dJ,eu,ew,Nat.reduceAdd,Nat.reduceLT];omega
  refine mU (C:=ep g0 (N1 mG) LR) (by simp only[mC]) ?_;refine Eg hn l u S x lx lm Q n 0 _ 0 O (by rw[fP O];exact M) (eS h (dP _)) O O (by simp[val]) ?_;intro w c' a1 a2 a3 a4 a5 a6;rw[iW O O]at a6;rw[fP O]at a1;have e0:val (((dC F (lc (2*n) 0) 0).drop 0).take n)+0*pw n=0:=by rw[gh,z0,kv];simp
  rw[e0,gh]at a5;have z:=(qA (k:=k) i.1 (gA y) (H.take n) 0 (dS S n) (uh _) O).2;obtain⟨ab,aa⟩:=yy (c:=c') (W:=kf (val (H.take n)) (val (L.take n)) k (H.take n) 0) O a2 x lm K a5 i.2 z;rcases(O:c'=0∨c'=1)with rfl|rfl
  .obtain⟨h1,h2,h3,h4,h5⟩:=ab K;have p:=Ni n j q s T k 0 w H L P t o;unfold An at p;have v:2*n-n=n:=O;have q2:Nat.min n n=n:=mo n;simp only[dU,jo,m,v,q2]at p;refine Ev.done (gK (wA _) (eP _)) p ?_ ⟨K,by rw[rh O h2 h3 h4 (h5.trans a6)];rfl⟩;have:=a1;simp only[dK,dJ,eu,ew,Nat.reduceAdd,Nat.reduceLT];omega
  .obtain⟨h1,h2,h3,h4,h5⟩:=aa K;have p:=NI n j q s T k 1 w H L P t o;unfold AB at p;have v:2*n-n=n:=O;simp only[dU,jo,m,v,gh]at p;refine Ev.done (gK (wA _) (eP _)) p ?_ ⟨K,by rw[rh O h2 h3 h4 (h5.trans a6)];rfl⟩;have:=a1;simp only[dK,dJ,eu,ew,Nat.reduceAdd,Nat.reduceLT,a2,x];omega
def O3{q s T:Nat}{t o:es}(hn:1<=n)(l:n<100000)(S:dG H)(x:dG L)(lx:n<=H.length)(lm:n<=L.length)(Q:(L.getD 0 0*k+1)%18446744073709551616=0)(j:0<val (L.take n)):letI a:=H.take n;letI b:dI:=⟨.ws .u64 H,t⟩;letI c:dI:=⟨.ws .u64 L,o⟩;letI d:=val (L.take n);eM B g0 205 [.s N 0 0,.s (E (0,0)) n q,.s (E (0,0)) n s,.s (E (1,0)) n T,.i .u64 k,.i .i64 (n:Int)] [b,c]
     (λr m'=>r= .s (E (2,0)) n (dM (2*n))/\m'=[b,c,⟨.ws .u64 (A3 n (wC n (val a) d k a) (kf (val a) d k a 0%pw n) (lc (dM (2*n)) (0:Int))),137⟩]):=by
  have i1:U.i64.wrap ((n:Int)*2)=((2*n:Nat):Int):=jw;have m:eO 0 (dM (2*n)) n 1=n:=by rw[kE (by have:=gL (2*n);omega)];omega
  have nn:((n:Int)!=(n:Int))=A:=Y;have i:=ez _ (dS S n);rw[show(H.take n).length=n by rw[gR];omega]at i;obtain⟨c1,c2⟩:=gL (2*n);have M:2*n<=(lc (dM (2*n)) (0:Int)).length:=by rw[fJ];exact c1
  have h:dG (lc (dM (2*n)) (0:Int)):=dP _;have p:2*n<=(dM (2*n)):=c1;have e:=Wa n q s T k H L t o;unfold Al at e;simp only[i1,dU,nn]at e;have lr:(lc (2*n) (0:Int)).length=2*n:=fJ;have f:=front (F:=(lc (dM (2*n)) (0:Int))) (R:=lc (2*n) 0) O;rw[lr]at f
  have z0:((dC (lc (dM (2*n)) (0:Int)) (lc (2*n) 0) 0).take n)=lc n 0:=by
    have:((dC (lc (dM (2*n)) (0:Int)) (lc (2*n) 0) 0).take (2*n)).take n=lc n 0:=by rw[f,Dq];congr 1;omega
    rw[<-this,BR];congr 1;omega
  refine dL _ f205 (fa (gK (DP _) (eP _)) e ?_ K ?_)
  .simp only[dK,dJ,eu,ew,Nat.reduceAdd,Nat.reduceLT];omega
  refine mU (C:=ep g0 (N1 mG) LR) (by simp only[mC]) ?_;refine Eg hn l p S x lx lm Q n 0 _ 0 O (by rw[fP O];exact M) (eS h (dP _)) O O (by simp[val]) ?_;intro w c' a1 a2 a3 a4 a5 a6;rw[iW O O]at a6;rw[fP O]at a1;have e0:val (((dC (lc (dM (2*n)) (0:Int)) (lc (2*n) 0) 0).drop 0).take n)+0*pw n=0:=by rw[gh,z0,kv];simp
  rw[e0,gh]at a5;have z:=(qA (k:=k) i.1 (gA j) (H.take n) 0 (dS S n) (uh _) O).2;obtain⟨ab,aa⟩:=yy (c:=c') (W:=kf (val (H.take n)) (val (L.take n)) k (H.take n) 0) O a2 x lm K a5 i.2 z;rcases(O:c'=0∨c'=1)with rfl|rfl
  .obtain⟨h1,P,F,u,y⟩:=ab K;have g:=Ni n (dM (2*n)) q s T k 0 w H L 137 t o;unfold An at g;have v:2*n-n=n:=O;have q2:Nat.min n n=n:=mo n;simp only[dU,jo,m,v,q2]at g;refine Ev.done (gK (wA _) (eP _)) g ?_ ⟨K,by rw[rh O P F u (y.trans a6)];rfl⟩;have:=a1;simp only[dK,dJ,eu,ew,Nat.reduceAdd,Nat.reduceLT];omega
  .obtain⟨h1,P,F,u,y⟩:=aa K;have g:=NI n (dM (2*n)) q s T k 1 w H L 137 t o;unfold AB at g;have v:2*n-n=n:=O;simp only[dU,jo,m,v,gh]at g;refine Ev.done (gK (wA _) (eP _)) g ?_ ⟨K,by rw[rh O P F u (y.trans a6)];rfl⟩;have:=a1;simp only[dK,dJ,eu,ew,Nat.reduceAdd,Nat.reduceLT,a2,x];omega
def oO(n:Nat)(k:Int)(H p L F:List Int):List Int:=A3 n (wC n (val (H.take n)) (val (L.take n)) k (p.take n)) (kf (val (H.take n)) (val (L.take n)) k (p.take n) 0%pw n) F
def As(n l i:Nat)(q k:Int)(x y w:Nat×Nat)(H p L:List Int):Bool:=
  D ((x.2=0/\y.2=0/\w.2=0)/\(l=n/\i=n/\q=(n:Int))/\(1<=n/\n<100000)/\(dG H/\dG p/\dG L)/\(n<=H.length/\n<=p.length/\n<=L.length)/\(L.getD 0 0*k+1)%18446744073709551616=0/\0<val (L.take n))
def To:jB:=λargs m=>
  match args with
  |[.s N 0 0,.s (E x) n _,.s (E y) l _,.s (E w) i _,.i .u64 k,.i .i64 q]=>match m[x.1]?,m[y.1]?,m[w.1]? with
   |some ⟨.ws .u64 H,_⟩,E ⟨.ws .u64 p,_⟩,E ⟨.ws .u64 L,_⟩=>
    E (.s (E (m.length,0)) n (dM (2*n)),m++[⟨.ws .u64 (oO n k H p L (lc (dM (2*n)) 0)),137⟩],
      ed (As n l i q k x y w H p L) (ed (ed (!(Nat.beq x.1 w.1)) (!(Nat.beq y.1 w.1))) (ek m.length m)))
   |_,_,_=>N
  |_=>N
def LL:jB:=λargs m=>
  match args with
  |[.s (E z) _ j,.s (E x) n _,.s (E y) l _,.s (E w) i _,.i .u64 k,.i .i64 q]=>match m[z.1]?,m[x.1]?,m[y.1]?,m[w.1]? with
   |some ⟨.ws .u64 F,P⟩,E ⟨.ws .u64 H,_⟩,E ⟨.ws .u64 p,_⟩,E ⟨.ws .u64 L,_⟩=>
    E (.s (E z) n j,m.set z.1 ⟨.ws .u64 (oO n k H p L F),P⟩,
      ed (ed (As n l i q k x y w H p L) (D (z.2=0/\2*n<=j/\2*n<=F.length/\dG F)))
       (ed (ed (ed (!(Nat.beq x.1 w.1)) (!(Nat.beq y.1 w.1))) (ed (ed (!(Nat.beq x.1 z.1)) (!(Nat.beq y.1 z.1))) (!(Nat.beq w.1 z.1)))) (ek m.length m)))
   |_,_,_,_=>N
  |_=>N
def HH{a b:Nat}(h:(!(Nat.beq a b))=G):a≠b:=by intro e;subst e;simp at h
def T7(gl:Nat->Option Nat):qI B gl 205 To:=by
  refine mD λargs m r m' T=>?_
  unfold To at T;split at T
  .rename_i x n cx y n1 cy w n2 cm k nn;split at T
   .rename_i H t p j z o L Q d;simp only[eJ,ef]at T;obtain⟨rfl,rfl,F⟩:=T;obtain⟨g,F⟩:=dN F;obtain⟨i,b⟩:=dN F;obtain⟨u,q⟩:=dN i;have l:=HH u;have f:=HH q;obtain⟨⟨a,P,c⟩,⟨rfl,rfl,rfl⟩,⟨h1,h2⟩,⟨S,wy,v⟩,⟨C,ly,M⟩,R,hM⟩:=fU g;obtain⟨x,xo⟩:=x;obtain⟨y,yo⟩:=y;obtain⟨w,wo⟩:=w
    skip
    simp only at a P c L Q d l f;subst a;subst P;subst c;by_cases s:x=y
    .subst s;have e:E (⟨.ws .u64 H,t⟩:dI)=E ⟨.ws .u64 p,j⟩:=by rw[<-L,<-Q]
     cases e;refine⟨λ_=>N,[x,w],_,_,_,_,O3 (q:=cx) (s:=cy) (T:=cm) (t:=t) (o:=o) h1 h2 S v C M R hM,⟨L,K,d,K,dD⟩,by simp[l],(λ_ _ h=>by cases h),b,K,K,?_⟩;simp only[fW,iC,ft,kw,eI,fb];rw[show m.set x (dI.iU (sg [x,w] m.length) ⟨.ws .u64 H,t⟩)=m from fu L,show m.set w (dI.iU (sg [x,w] m.length) ⟨.ws .u64 z,o⟩)=m from fu d];rfl
    .refine⟨λ_=>N,[x,w,y],_,_,_,_,N4 (q:=cx) (s:=cy) (T:=cm) (t:=t) (o:=o) (ty:=j) h1 h2 S v C M wy ly R hM,⟨L,K,d,K,Q,K,dD⟩,by simp[l,s,ra f],(λ_ _ h=>by cases h),b,K,K,?_⟩;simp only[fW,iC,ft,kw,eI,fb];rw[show m.set x (dI.iU (sg [x,w,y] m.length) ⟨.ws .u64 H,t⟩)=m from fu L,show m.set w (dI.iU (sg [x,w,y] m.length) ⟨.ws .u64 z,o⟩)=m from fu d,show m.set y (dI.iU (sg [x,w,y] m.length) ⟨.ws .u64 p,j⟩)=m from fu Q];rfl
   .cases T
  .cases T
def Sr(gl:Nat->Option Nat):qI B gl 205 LL:=by
  refine mD λargs m r m' T=>?_
  unfold LL at T;split at T
  .rename_i z l0 c0 x n cx y n1 cy w n2 cm k nn;split at T
   .rename_i zs tz H t ys j ms o C L Q d;simp only[eJ,ef]at T;obtain⟨rfl,rfl,ho⟩:=T;obtain⟨g,ho⟩:=dN ho;obtain⟨i,b⟩:=dN ho;obtain⟨g,M⟩:=dN g;obtain⟨z0,hc,P,wz⟩:=fU M;obtain⟨i,l⟩:=dN i;obtain⟨l,F⟩:=dN l;obtain⟨p,R⟩:=dN l;have S:=HH F;have c:=HH p;have v:=HH R;obtain⟨u,q⟩:=dN i;have a:=HH u;have f:=HH q;obtain⟨⟨x0,y0,w0⟩,⟨rfl,rfl,rfl⟩,⟨h1,h2⟩,⟨wx,wy,wm⟩,⟨lx,ly,lm⟩,hk,hM⟩:=fU g;obtain⟨x,xo⟩:=x;obtain⟨y,yo⟩:=y;obtain⟨w,wo⟩:=w;obtain⟨z,zo⟩:=z;simp only at x0 y0 w0 z0 C c v S L Q d a f;subst x0;subst y0;subst w0;subst z0;by_cases s:x=y
    .subst s;have e:E (⟨.ws .u64 H,t⟩:dI)=E ⟨.ws .u64 ys,j⟩:=by rw[<-L,<-Q]
     cases e;refine⟨λ_=>N,[x,w,z],_,_,_,_,Oy (q:=cx) (s:=cy) (T:=cm) (l0:=l0) (P:=tz) (t:=t) (o:=o) h1 h2 hc P wz wx wm lx lm hk hM,⟨L,K,d,K,C,K,dD⟩,by simp[a,c,S],(λ_ _ h=>by cases h),b,K,K,?_⟩;simp only[fW,iC,ft,kw,eI,fb,jx];rw[show m.set x (dI.iU (sg [x,w,z] m.length) ⟨.ws .u64 H,t⟩)=m from fu L,show m.set w (dI.iU (sg [x,w,z] m.length) ⟨.ws .u64 ms,o⟩)=m from fu d];rfl
    .refine⟨λ_=>N,[x,w,y,z],_,_,_,_,Ot (q:=cx) (s:=cy) (T:=cm) (l0:=l0) (P:=tz) (t:=t) (o:=o) (ty:=j) h1 h2 hc P wz wx wm lx lm wy ly hk hM,⟨L,K,d,K,Q,K,C,K,dD⟩,by simp[a,s,ra f,c,S,v],(λ_ _ h=>by cases h),b,K,K,?_⟩;simp only[fW,iC,ft,kw,eI,fb,jx];rw[show m.set x (dI.iU (sg [x,w,y,z] m.length) ⟨.ws .u64 H,t⟩)=m from fu L,show m.set w (dI.iU (sg [x,w,y,z] m.length) ⟨.ws .u64 ms,o⟩)=m from fu d,show m.set y (dI.iU (sg [x,w,y,z] m.length) ⟨.ws .u64 ys,j⟩)=m from fu Q];rfl
   .cases T
  .cases T
noncomputable abbrev RJ(R:Nat->Option Nat):List (Nat×jB):=put R (put R (N2 R oK) 131 f131 [A]) 117 f117 [A,A,G]
noncomputable abbrev TK:List Item:=gQ (dB f193) 0 []
def rb(R:Nat->Option Nat):fl R (RJ R):=ks (ks (wG (DP R)) I I I) I I I
def Sx(q s T w C:Nat)(L p H F:List Int)(o ty t P M:es)(c R:dI):letI a:dE:=[⟨.ws .u64 L,o⟩,⟨.ws .u64 p,ty⟩,⟨.ws .u64 H,t⟩,c,R,⟨.ws .u64 F,P⟩];letI b:V:= .s (E (5,0)) w C;(oS (eC (ep (gd 4) (RJ (gd 4)) LR) f193.ntmps 200 [0,1,2,3,4,11,13,14,15] [.code (dB f193)] ⟨[(0,b),(1,.p (E (3,0))),(2,.s (E (2,0)) 4 q),(3,.s (E (1,0)) 4 s),(4,.s (E (0,0)) 4 T)],a,[A,A],[]⟩))=(TK,[(0,b),(1,.p (E (3,0))),(2,.s (E (2,0)) 4 q),(3,.s (E (1,0)) 4 s),(4,.s (E (0,0)) 4 T),(11,.i .i64 4),(13,.i .u64 (U.u64.wrap (2-L.getD 0 0))),(14,.i .u64 (U.u64.wrap (L.getD 0 (0:Int)-1))),(15,.i .i64 1)],a,[D (0<L.length),G,D (0<L.length),G,G,G,G,G,G]):=I
def Ow(q s T w C i:Nat)(k t:Int)(m:dE):letI a:=U.u64.wrap (t*t);letI b:V:= .s (E (5,0)) w C;(oS (eC (ep (gd 4) (RJ (gd 4)) LR) f193.ntmps 200 [0,1,2,3,4,11,13,14,15] TK ⟨[(0,b),(1,.p (E (3,0))),(2,.s (E (2,0)) 4 q),(3,.s (E (1,0)) 4 s),(4,.s (E (0,0)) 4 T),(11,.i .i64 4),(13,.i .u64 k),(14,.i .u64 t),(15,.i .i64 (i:Int))],m,[G],[]⟩))=(TK,[(0,b),(1,.p (E (3,0))),(2,.s (E (2,0)) 4 q),(3,.s (E (1,0)) 4 s),(4,.s (E (0,0)) 4 T),(11,.i .i64 4),(13,.i .u64 (U.u64.wrap (k*U.u64.wrap (a+1)))),(14,.i .u64 a),(15,.i .i64 (U.i64.wrap ((i:Int)*2)))],m,[G,D ((i:Int)<64)==G]):=I
def aSa(v s T w C:Nat)(k t:Int)(L p H F:List Int)(y ty x P M:es)(i R:dI):letI m:List Int:=lc 1 0;letI a:List Int:=dC (lc 14 0) (jp 1 (kw 0 (m.set 0 1))) (eO 0 14 8 1);letI h:List Int:=dC (a.set 9 0) (lc 8 0) 0;letI b:V:= .s (E (7,0)) (gm (λj=>h.getD (0+j) 0) 10) 14;letI e:U:= .u64;letI n:dI:=⟨.ws e L,y⟩;letI o:dI:=⟨.ws e p,ty⟩;letI q:dI:=⟨.ws e H,x⟩;letI r:dI:=⟨.ws e F,P⟩;letI c:=[n,o,q,i,R,r];letI d:V:= .s (E (0,0)) 4 T;letI f:V:= .p (E (3,0));letI g:V:= .s (E (6,0)) 1 1;letI l:fw:=ep (gd 4) (RJ (gd 4)) LR;letI u:V:= .s (E (5,0)) w C;(mW l (eC l f193.ntmps 200 [0,1,2,3,4,11,13,16,17,76,77,78,79] TK ⟨[(0,u),(1,f),(2,.s (E (2,0)) 4 v),(3,.s (E (1,0)) 4 s),(4,d),(11,.i .i64 4),(13,.i e k),(14,.i e t),(15,.i .i64 64)],c,[A],[]⟩))=(E (111,([.s N 0 0,f,g,b,d],E 80)),dF 18 5 (dB f193) [],[(0,u),(1,f),(2,.s (E (2,0)) 4 v),(3,.s (E (1,0)) 4 s),(4,d),(11,.i .i64 4),(13,.i e (U.u64.wrap (0-k))),(16,g),(17,b),(76,f),(77,g),(78,b),(79,d)],[n,o,q,i,R,r,⟨.ws e [1],137⟩,⟨.ws e [0,0,0,0,0,0,0,0,1,0,0,0,0,0],137⟩],[eb [ed G (ek 8 (((List.set (List.set (c++[⟨.ws e m,137⟩]) 6 ⟨.ws e (m.set 0 1),137⟩++[⟨.ws e (lc 14 0),137⟩]) 7 ⟨.ws e a,137⟩).set 7 ⟨.ws e (a.set 9 0),137⟩).set 7 ⟨.ws e h,137⟩)),G,G,G,G,G,G,G,G,G,G,G,G,G],G,G]):=I
noncomputable abbrev avf(R:Nat->Option Nat):List (Nat×jB):=(131,ael)::(151,agf)::put R (N2 R qG) 133 f133 []
noncomputable abbrev DH(R:Nat->Option Nat):List (Nat×jB):=put R (avf R) 132 f132 [A,A,A]
abbrev LC:List (Nat×QF):=(77,YV)::LR
def VR(R:Nat->Option Nat):fl R (avf R):=⟨⟨ga f131,XG R⟩,⟨ga f151,WT R⟩,ks (wG (Nq R)) I I I⟩
def oC(R:Nat->Option Nat):fl R (DH R):=ks (VR R) I I I
def wg(R:Nat->Option Nat):gf R LC:=⟨⟨ga f77,C7 R⟩,eP R⟩
def aRq(o n Q i:Nat)(H p:List Int)(t ty M:es)(z:Int):letI g:=(o:Int);letI a:=g.toNat;letI d:Int:=(0:Int);letI b:Int:=p.getD 0 d;letI e:=val (jp a H);letI f:=lc (dM a) d;letI c:=gJ a (e/b) f;letI h:dI:=⟨.lit [.i .i64 z],M⟩;letI k:dI:=⟨.ws .u64 p,ty⟩;letI l:V:= .s (E (0,0)) o Q;(gi f111.results.toList (et (ep (gd 2) (DH (gd 2)) LC) f111.ntmps N 200 [.code (dB f111)] ⟨[(0,.s N 0 0),(1,.p N),(2,l),(3,l),(4,.s (E (1,0)) 1 i)],[⟨.ws .u64 H,t⟩,k,h],[A,G],[]⟩))=(G,E (.t [.s (E (3,0)) (gm (λj=>c.getD (0+j) d) a) (dM a),.s (E (0,0)) (if e%b=d then 0 else 1) Q]),[⟨.ws .u64 (if e%b=d then H else H.set 0 (e%b)),t⟩,k,h,⟨.ws .u64 c,137⟩],[D (0=0/\1<=Q/\0<H.length),eb [D (a<4294967296/\0+a<=c.length/\a<=dM a),D (o=a/\0<a/\a<100000/\0=0/\0=0/\a<=f.length/\a<=H.length/\d<b/\b<(18446744073709551616:Int)/\dG f/\dG H),D (d<g/\g<=(1048000:Int)),(g==d)==A,(b==(1:Int))==A,(b==d)==A,G],D (0<p.length),G,G,G,G,G]):=I
def aQn(o n Q k:Nat)(H p:List Int)(t ty M:es)(z:Int):letI a:=(o:Int);letI b:=o.min a.toNat;letI c:dI:=⟨.lit [.i .i64 z],M⟩;letI d:dI:=⟨.ws .u64 p,ty⟩;letI e:V:= .s (E (0,0)) o Q;(gi f111.results.toList (et (ep (gd 2) (DH (gd 2)) LC) f111.ntmps N 200 [.code (dB f111)] ⟨[(0,.s N 0 0),(1,.p N),(2,e),(3,e),(4,.s (E (1,0)) n k)],[⟨.ws .u64 H,t⟩,d,c],[A,A,G],[]⟩))=(G,E (.t [.s N 0 0,.s (E (0,0)) (a.toNat) Q]),[⟨.ws .u64 (dC H (jp b (kw 0 H)) 0),t⟩,d,c],[eb [D (0+b<=H.length/\0+b<=H.length),D (0<=a/\a<=(Q:Int)),G],G,D ((if o<n then(-1:Int)else if n<o then 1 else vA (val (jp o (kw 0 H))) (val (jp o (kw 0 p))))<0)==G,D (o<4294967296/\0+o<=H.length/\0+n<=p.length/\dG H/\dG p),((n:Int)==1)==A,G,((n:Int)==0)==A,G]):=I
def asl(o n Q k:Nat)(H p:List Int)(t ty M:es)(z:Int):letI a:V:= .s (E (0,0)) o Q;letI b:dI:=⟨.lit [.i .i64 z],M⟩;letI c:fw:=ep (gd 2) (DH (gd 2)) LC;letI d:V:= .p (E (3,0));letI e:dI:=⟨.ws .u64 H,t⟩;letI f:dI:=⟨.ws .u64 p,ty⟩;(match eC c f111.ntmps 200 [0,1,2,3,4,44] [.code (dB f111)] ⟨[(0,.s N 0 0),(1,.p N),(2,a),(3,a),(4,.s (E (1,0)) n k)],[e,f,b],[A,A,A,G],[]⟩with|(v,T,q,R)=>(pe c v T,iF v,T,q,R))=(E (134,[d]),dF 12 2 (dB f111) [],[(0,.s N 0 0),(1,d),(2,a),(3,a),(4,.s (E (1,0)) n k),(44,d)],[e,f,b,⟨.lit [.p N],201⟩],[G,G,D ((if o<n then(-1:Int)else if n<o then 1 else vA (val (jp o (kw 0 H))) (val (jp o (kw 0 p))))<0)==A,D (o<4294967296/\0+o<=H.length/\0+n<=p.length/\dG H/\dG p),((n:Int)==1)==A,G,((n:Int)==0)==A,G]):=I
def axg(o n Q k:Nat)(H p:List Int)(t ty M:es)(z:Int):letI a:dE:=[⟨.ws .u64 H,t⟩,⟨.ws .u64 p,ty⟩,⟨.lit [.i .i64 z],M⟩,⟨.lit [.p N],201⟩];letI b:V:= .s (E (0,0)) o Q;letI c:V:= .s (E (1,0)) n k;letI d:fw:=ep (gd 2) (DH (gd 2)) LC;letI e:V:= .p (E (3,0));letI f:V:= .s N 0 0;(mW d (eC d f111.ntmps 200 [46,47,48,49,50] (dF 12 2 (dB f111) []) ⟨[(0,f),(1,e),(2,b),(3,b),(4,c)],a,[],[]⟩))=(E (135,([f,e,b,b,c],E 51)),dF 13 6 (dB f111) [],[(46,f),(47,e),(48,b),(49,b),(50,c)],a,[]):=I
def ahi(a b:V)(m:dE):(gi f111.results.toList (et (ep (gd 2) (DH (gd 2)) LC) f111.ntmps N 200 (dF 13 6 (dB f111) []) ⟨[(51,.t [a,b])],m,[],[]⟩))=(G,E (.t [a,b]),m,[]):=I
def vz{P:Program}{R:Nat->Option Nat}{f:FuncId}{args:List V}{m:dE}{Q x:V->dE->Prop}(h:eM P R f args m Q)
    (z: ∀r a,Q r a-> ∃o M,m.length<=o/\fs o a M/\o<=M.length/\r.wf o=G/\x r M):eM P R f args m x:=by
  intro q w y p;refine(h q w y p).mono λT S e=>?_
  obtain⟨d,r,a,L,j,k⟩:=e;obtain⟨o,M,C,v,t,b,u⟩:=z r a k;obtain⟨l,F,n,H⟩:=v d S L.rel;exact⟨l,r,M,⟨λi g=>by rw[F i O,L.ln i g],O,λc s=>L.new c (H c s),n,L.iY⟩,by rw[j,gx F r b],u⟩
def kX.P3{y:es}{P:dI}{F:dE}{q:Nat}{s:Nat->Nat}(h:kX y P F o)(e0:s o=q)(a:s (o+1)=q+1):kX y (P.iU s) (iC s F) q:=by
  rcases h with⟨rfl,v,z,rfl⟩ |⟨rfl,v,z,l,T,t,rfl⟩
  .exact .inl ⟨K,v,z,K⟩
  .refine .inr ⟨?_,v,z,l,T,t,?_⟩
   .simp [dI.iU,eH.iU,ml,V.iU,a]
   .simp [iC,dI.iU,eH.iU,ml,V.iU,e0]
def zI:eo B 134:=ga f134
def Bg(L:o<=H.length)(Q:n<=p.length)(e:dG H)(j:dG p)(C:0<o)(x:0<n)(w:0<H.getD (o-1) 0)(q:0<p.getD (n-1) 0):
    ((if o<n then(-1:Int)else if n<o then 1 else vA (val (jp o (kw 0 H))) (val (jp o (kw 0 p))))<0)↔val (H.take o)<val (p.take n):=by
  have a:=(ez _ (dS e o)).2;have b:=(ez _ (dS j n)).2;rw[show(H.take o).length=o by rw[gR];omega]at a;rw[show(p.take n).length=n by rw[gR];omega]at b;have c:=vh C e;have d:=vh x j;have y:pw (o-1)*1<=pw (o-1)*H.getD (o-1) 0:=gF O (gA (gH _));have m:pw (n-1)*1<=pw (n-1)*p.getD (n-1) 0:=gF O (gA (gH _));rw[jU]at y m;by_cases M:o<n
  .have:=jk (O:o<=n-1);rw[if_pos M];constructor<;>intro _<;>omega
  .rw [if_neg M];by_cases S:n<o
   .have:=jk (O:n<=o-1);rw[if_pos S];constructor<;>intro _<;>omega
   .have:o=n:=O;subst this;rw[if_neg S,gh,gh];unfold vA;split
    .rename_i h;constructor<;>intro _<;>omega
    .rename_i h;split<;>(constructor<;>intro _<;>omega)
def SV{k:Nat}{t ty h:es}{z:Int}(s:o<100000)(h0:0<o)(x:o<=H.length)(i:H.length<=9223372036854775807)(L:0<n)(R:n<=k)(Q:n<=p.length)(S:dG H)(l:dG p)(w:0<H.getD (o-1) 0)(q:0<p.getD (n-1) 0)(M:n=1):letI a:=val (p.take n);letI b:=val (H.take o);letI c:V:= .s (E (0,0)) o H.length;letI d:dI:=⟨.lit [.i .i64 z],h⟩;letI e:List Int:=gJ o (b/a) (lc (dM o) 0);letI f:dI:=⟨.ws .u64 p,ty⟩;∀(g:a≠1),eM B (gd 2) 111 [.s N 0 0,.p N,c,c,.s (E (1,0)) n k] [⟨.ws .u64 H,t⟩,f,d] (λr u=>r= .t [.s (E (3,0)) (ib e o) (dM o),.s (E (0,0)) (if b%a=0 then 0 else 1) H.length]/\u=[⟨.ws .u64 (if b%a=0 then H else H.set 0 (b%a)),t⟩,f,d,⟨.ws .u64 e,137⟩]):=by
  intro g;subst M;have T:val (p.take 1)=p.getD 0 0:=by rw[eL];simp[val,pw]
  have F:=eg l 0;have e:=aRq o 1 H.length k H p t ty h z;simp only[dU,ir,<-T]at e;rw[T]at g;have m:0<p.getD 0 0:=q;obtain⟨v,c2⟩:=gL o;have y:(gJ o (val (H.take o)/val (p.take 1)) (lc (dM o) 0)).length=dM o:=by rw[lD (by rw[fJ];exact v),fJ]
  refine dL _ f111 (Ev.done (gK (oC _) (wg _)) e ?_ ⟨K,K⟩);have P:(p.getD 0 0==1)=A:=by simpa using g
  have j:(p.getD 0 0==0)=A:=by have:p.getD 0 0≠0:=O;simpa using this
  have C:dG (lc (dM o) 0):=dP _;rw[T]at y⊢;simp only[P,j,y];simp only[dK,dJ,eu,ew,Nat.reduceAdd,Nat.reduceLT,C,S];have:=F.2;omega
def PU{k:Nat}{t ty M:es}{z:Int}(c:o<100000)(C:0<o)(L:o<=H.length)(i:H.length<=9223372036854775807)(x:0<n)(R:n<=k)(Q:n<=p.length)(S:dG H)(j:dG p)(w:0<H.getD (o-1) 0)(q:0<p.getD (n-1) 0)(h:n≠1)(d:val (H.take o)<val (p.take n)):letI a:dE:=[⟨.ws .u64 H,t⟩,⟨.ws .u64 p,ty⟩,⟨.lit [.i .i64 z],M⟩];letI b:V:= .s (E (0,0)) o H.length;eM B (gd 2) 111 [.s N 0 0,.p N,b,b,.s (E (1,0)) n k] a (λr u=>r= .t [.s N 0 0,b]/\u=a):=by
  have e:=aQn o n H.length k H p t ty M z;have m:Nat.min o o=o:=mo o;have f:dC H (jp o (kw 0 H)) 0=H:=by rw[gh,iz,gR,qk L,Ae]
  simp only[dU,m,f]at e;refine dL _ f111 (Ev.done (gK (oC _) (wg _)) e ?_ ⟨K,K⟩);have s:=fG ((Bg L Q S j C x w q).2 d);simp only[s];simp only[dK,dJ,eu,ew,Nat.reduceAdd,Nat.reduceLT,S,j];omega
def Sh{k:Nat}{t ty M:es}(ac:o<100000)(h0:0<o)(hx:o<=H.length)(aj:H.length<=9223372036854775807)(hn:0<n)(af:n<=k)(hy:n<=p.length)(wx:dG H)(T:dG p)(aa:0<H.getD (o-1) 0)(q:0<p.getD (n-1) 0)(ae:2<=n)(ad:n<=4)(ab:(n:Int)<z):letI g:Nat:=o-n+1;letI c:=val (H.take o);letI d:=val (p.take n);letI a:List Int:=gJ g (c/d) (lc (dM g) 0);letI b:List Int:=gJ (o+1) (c%d) (lc (dM (o+1)) 0);letI e:V:= .s (E (0,0)) o H.length;letI f:dI:=⟨.lit [.i .i64 z],M⟩;letI h:dI:=⟨.ws .u64 H,t⟩;letI j:dI:=⟨.ws .u64 p,ty⟩;∀(l: ¬c<d)(C:H.length<o+1),eM B (gd 2) 111 [.s N 0 0,.p N,e,e,.s (E (1,0)) n k] [h,j,f] (λr u=>r= .t [.s (E (6,0)) (ib a g) (dM g),.s (E (5,0)) (ib b (o+1)) (dM (o+1))]/\u=[h,j,f,⟨.dead,0⟩,⟨.dead,0⟩,⟨.ws .u64 b,137⟩,⟨.ws .u64 a,137⟩]):=by
  intro l C;have w:=Bg hx hy wx T h0 hn aa q
  have ak:n<=o:=by
    rcases ju o n with h|h
    .exact(l (w.1 (by rw[if_pos h];decide))).elim
    .exact h
  obtain⟨m,rfl⟩: ∃m,o=m+n:=⟨o-n,O⟩
  rw[(O:m+n-n+1=m+1)];generalize hR:(gJ (m+n+1) (val (H.take (m+n))%val (p.take n)) (lc (dM (m+n+1)) 0))=R;generalize ag:(gJ (m+1) (val (H.take (m+n))/val (p.take n)) (lc (dM (m+1)) 0))=L;refine vz (Q:=λr u=> ∃S P F,r= .t [.s (E (6,0)) (ib L (m+1)) (dM (m+1)),.s (E (5,0)) (ib R (m+n+1)) (dM (m+n+1))]/\u=⟨.ws .u64 H,t⟩::⟨.ws .u64 p,ty⟩::⟨.lit [.i .i64 z],M⟩::P::⟨.ws .u64 S,137⟩::⟨.ws .u64 R,137⟩::⟨.ws .u64 L,137⟩::F/\kX 201 P F 7) ?_ ?_
  rotate_left
  .rintro r m1⟨S,P,F,rfl,rfl,v⟩;exact⟨7,_,Y,.drop 3 0 Y K (.drop 4 0 Y K (.take 7 (eT _) Y K K)),Y,K,K,K⟩
  refine dL (ep (gd 2) (DH (gd 2)) LC) f111 ?_;refine nV (gK (oC _) (wg _)) 200 [A,A,A,G] [0,1,2,3,4,44] _ (asl (m+n) n H.length k H p t ty M z) ?_ K ?_
  .have hc:=nB (λh=>l (w.1 h));simp only[hc];simp only[dK,dJ,eu,ew,Nat.reduceAdd,Nat.reduceLT,wx,T];omega
  refine Ev.fq [0,1,2,3,4] ?_
  refine dY (gK (oC _) (wg _)) (axg (m+n) n H.length k H p t ty M z) K K K zJ
    (Q1:=λr u=> ∃S P F,r= .t [.s (E (6,0)) (ib L (m+1)) (dM (m+1)),.s (E (5,0)) (ib R (m+n+1)) (dM (m+n+1))]/\u=⟨.ws .u64 H,t⟩::⟨.ws .u64 p,ty⟩::⟨.lit [.i .i64 z],M⟩::P::⟨.ws .u64 S,137⟩::⟨.ws .u64 R,137⟩::⟨.ws .u64 L,137⟩::F/\kX 201 P F 7) ?_ K ?_
  .refine((Lx (w:=m+n) (C:=H.length) (y:=201) (m:=m) (n:=n) (Q:=H.length) (k:=k) (t:=t) (ty:=ty) (M:=M) ae ad ac hx af hx hy wx T q C ab K).lift (gl:=gd 2) (m:=[⟨.ws .u64 H,t⟩,⟨.ws .u64 p,ty⟩,⟨.lit [.i .i64 z],M⟩,⟨.lit [.p N],201⟩]) [0,3,1,2] ⟨K,K,K,K,K,K,K,K,dD⟩ J ?_ K).mono ?_
   .intro g i y;unfold gd at y⊢;cases hb:Nat.beq g 4 with
    |true=>rw[hb]at y;cases y;exact⟨2,K,K⟩
    |false=>rw[hb]at y;cases y
   rintro r u⟨r0,ah,⟨S,P,F,v,rfl,rfl⟩,_,rfl,rfl⟩;rw[hR,ag];refine⟨S,dI.iU (sg [0,3,1,2] 4) P,iC (sg [0,3,1,2] 4) F,K,?_,v.P3 K K⟩;simp only[fW,iC,ft,kr,kw,eI,fb];rfl
  rintro r u⟨S,P,F,rfl,rfl,v⟩_;refine⟨_,K,?_⟩;obtain⟨k1,k2,_⟩:=v.wf;refine Ev.fq [51] ?_
  refine oN (gK (oC _) (wg _)) (ahi _ _ _) K (by simp[jv,nd,V.wf,tQ]) zI (by simp[V.wf,nd,tQ])
    (G8 (y:=201) (P:=P) (q:=[⟨.ws .u64 H,t⟩,⟨.ws .u64 p,ty⟩,⟨.lit [.i .i64 z],M⟩,P,⟨.ws .u64 S,137⟩,⟨.ws .u64 R,137⟩,⟨.ws .u64 L,137⟩]) (F:=F) (i:=3) K v (by simpa[ek,mZ,nd,V.wf,mE]using k1)) ?_
  rintro r1 m1⟨x,rfl,s,_⟩;exact⟨S,P,x,K,K,s⟩
def Tr{k:Nat}{t ty M:es}(ad:o<100000)(h0:0<o)(hx:o<=H.length)(ab:H.length<=9223372036854775807)(hn:0<n)(ag:n<=k)(hy:n<=p.length)(T:dG H)(C:dG p)(aa:0<H.getD (o-1) 0)(q:0<p.getD (n-1) 0)(af:2<=n)(ae:n<=4)(ac:(n:Int)<z):letI f:Nat:=o-n+1;letI b:=val (H.take o);letI c:=val (p.take n);letI a:List Int:=gJ f (b/c) (lc (dM f) 0);letI d:V:= .s (E (0,0)) o H.length;letI e:dI:=⟨.lit [.i .i64 z],M⟩;letI g:dI:=⟨.ws .u64 p,ty⟩;∀(l: ¬b<c)(y:o+1<=H.length),eM B (gd 2) 111 [.s N 0 0,.p N,d,d,.s (E (1,0)) n k] [⟨.ws .u64 H,t⟩,g,e] (λr u=>r= .t [.s (E (5,0)) (ib a f) (dM f),.s (E (0,0)) (ib (gJ (o+1) (b%c) H) (o+1)) H.length]/\u=[⟨.ws .u64 (gJ (o+1) (b%c) H),t⟩,g,e,⟨.dead,0⟩,⟨.dead,0⟩,⟨.ws .u64 a,137⟩]):=by
  intro l y;have w:=Bg hx hy T C h0 hn aa q
  have ak:n<=o:=by
    rcases ju o n with h|h
    .exact(l (w.1 (by rw[if_pos h];decide))).elim
    .exact h
  obtain⟨m,rfl⟩: ∃m,o=m+n:=⟨o-n,O⟩
  rw[(O:m+n-n+1=m+1)];generalize hR:(gJ (m+n+1) (val (H.take (m+n))%val (p.take n)) H)=R;generalize ah:(gJ (m+1) (val (H.take (m+n))/val (p.take n)) (lc (dM (m+1)) 0))=L;refine vz (Q:=λr u=> ∃S P F,r= .t [.s (E (5,0)) (ib L (m+1)) (dM (m+1)),.s (E (0,0)) (ib R (m+n+1)) H.length]/\u=⟨.ws .u64 R,t⟩::⟨.ws .u64 p,ty⟩::⟨.lit [.i .i64 z],M⟩::P::⟨.ws .u64 S,137⟩::⟨.ws .u64 L,137⟩::F/\kX 201 P F 6) ?_ ?_
  rotate_left
  .rintro r m1⟨S,P,F,rfl,rfl,v⟩;exact⟨6,_,Y,.drop 3 0 Y K (.drop 4 0 Y K (.take 6 (eT _) Y K K)),Y,K,K,K⟩
  refine dL (ep (gd 2) (DH (gd 2)) LC) f111 ?_;refine nV (gK (oC _) (wg _)) 200 [A,A,A,G] [0,1,2,3,4,44] _ (asl (m+n) n H.length k H p t ty M z) ?_ K ?_
  .have hc:=nB (λh=>l (w.1 h));simp only[hc];simp only[dK,dJ,eu,ew,Nat.reduceAdd,Nat.reduceLT,T,C];omega
  refine Ev.fq [0,1,2,3,4] ?_
  refine dY (gK (oC _) (wg _)) (axg (m+n) n H.length k H p t ty M z) K K K zJ
    (Q1:=λr u=> ∃S P F,r= .t [.s (E (5,0)) (ib L (m+1)) (dM (m+1)),.s (E (0,0)) (ib R (m+n+1)) H.length]/\u=⟨.ws .u64 R,t⟩::⟨.ws .u64 p,ty⟩::⟨.lit [.i .i64 z],M⟩::P::⟨.ws .u64 S,137⟩::⟨.ws .u64 L,137⟩::F/\kX 201 P F 6) ?_ K ?_
  .refine((Lt (w:=m+n) (C:=H.length) (y:=201) (m:=m) (n:=n) (Q:=H.length) (k:=k) (t:=t) (ty:=ty) (M:=M) af ae ad hx ag hx hy T C q y ab ac K).lift (gl:=gd 2) (m:=[⟨.ws .u64 H,t⟩,⟨.ws .u64 p,ty⟩,⟨.lit [.i .i64 z],M⟩,⟨.lit [.p N],201⟩]) [0,3,1,2] ⟨K,K,K,K,K,K,K,K,dD⟩ J ?_ K).mono ?_
   .intro g i j;unfold gd at j⊢;cases hb:Nat.beq g 4 with
    |true=>rw[hb]at j;cases j;exact⟨2,K,K⟩
    |false=>rw[hb]at j;cases j
   rintro r u⟨r0,aj,⟨S,P,F,v,rfl,rfl⟩,_,rfl,rfl⟩;rw[hR,ah];refine⟨S,dI.iU (sg [0,3,1,2] 4) P,iC (sg [0,3,1,2] 4) F,K,?_,v.P3 K K⟩;simp only[fW,iC,ft,kr,kw,eI,fb];rfl
  rintro r u⟨S,P,F,rfl,rfl,v⟩_;refine⟨_,K,?_⟩;obtain⟨k1,k2,_⟩:=v.wf;refine Ev.fq [51] ?_
  refine oN (gK (oC _) (wg _)) (ahi _ _ _) K (by simp[jv,nd,V.wf,tQ]) zI (by simp[V.wf,nd,tQ])
    (G8 (y:=201) (P:=P) (q:=[⟨.ws .u64 R,t⟩,⟨.ws .u64 p,ty⟩,⟨.lit [.i .i64 z],M⟩,P,⟨.ws .u64 S,137⟩,⟨.ws .u64 L,137⟩]) (F:=F) (i:=3) K v (by simpa[ek,mZ,nd,V.wf,mE]using k1)) ?_
  rintro r1 m1⟨x,rfl,s,_⟩;exact⟨S,P,x,K,K,s⟩
end Go.Proofs.YtiggidfngfkanaaGreatDoor
