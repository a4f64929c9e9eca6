/- FnPacked, part 10. No condition. -/
import Derived.Test.YtiggidfngfkanaaGreatDoorW9
namespace Go.Proofs.YtiggidfngfkanaaGreatDoor
open Go Go.Proofs.Tryz
set_option maxRecDepth 100000
set_option maxHeartbeats 4000000
set_option linter.all false
open Bool renaming false->A, true->G
open Decidable renaming decide->D
open Go renaming IntKind->U, TypeId->es
open Go.Proofs.Tryz renaming prog->B
open List renaming drop->kw, replicate->lc, take->jp
open Option renaming none->N, some->E
variable{M a k:Int}{F H L ms p ys:List Int}{R S n o:Nat}{m:dE}{h i:dI}
def Wl(m n Q k w C:Nat)(H p i:List Int)(t y ty M s:es)(z:Int):letI a:dE:=[⟨.ws .u64 H,t⟩,⟨.lit [.p N],y⟩,⟨.ws .u64 p,ty⟩,⟨.lit [.i .i64 z],M⟩,⟨.ws .u64 i,s⟩];letI b:V:= .p (E (1,0));letI c:fw:=ep (gd 3) (P2 (gd 3) qG) A8;letI d:V:= .s (E (0,0)) (m+n) Q;letI e:V:= .s (E (4,0)) w C;(match eC c f135.ntmps 200 [0,1,2,3,4,12,13,22,24] [.code (dB f135)] ⟨[(0,.s N 0 0),(1,b),(2,e),(3,d),(4,.s (E (2,0)) n k)],a,[],[]⟩with|(v,T,q,R)=>(pe c v T,iF v,T,q,R))=(E (153,[b,.i .i64 0]),dF 3 4 (dB f135) [],[(0,.s N 0 0),(1,b),(2,e),(3,d),(4,.s (E (2,0)) n k),(12,.i .i64 (n:Int)),(13,.i .i64 (U.i64.wrap ((↑(m+n):Int)-(n:Int)))),(22,b),(24,.i .i64 0)],a,[G,G,G]):=I
def Wt(m n Q k w C:Nat)(H p i:List Int)(t y ty M s:es)(z:Int):letI a:dE:=[⟨.ws .u64 H,t⟩,⟨.lit [.p N],y⟩,⟨.ws .u64 p,ty⟩,⟨.lit [.i .i64 z],M⟩,⟨.ws .u64 i,s⟩];letI d:=(n:Int);letI b:Int:=U.i64.wrap (d-1);letI c:V:= .p (E (1,0));letI e:fw:=ep (gd 3) (P2 (gd 3) qG) A8;letI f:V:= .s (E (0,0)) (m+n) Q;letI g:V:= .s (E (4,0)) w C;letI h:V:= .i .i64 d;(mW e (eC e f135.ntmps 200 [0,1,2,3,4,12,13,14,31,32] (dF 3 4 (dB f135) []) ⟨[(0,.s N 0 0),(1,c),(2,g),(3,f),(4,.s (E (2,0)) n k),(12,.i .i64 (n:Int)),(13,.i .i64 (m:Int))],a,[],[]⟩))=(E (156,([c,h],E 33)),dF 5 3 (dB f135) [],[(0,.s N 0 0),(1,c),(2,g),(3,f),(4,.s (E (2,0)) n k),(12,h),(13,.i .i64 (m:Int)),(14,.i .u64 (64-(↑(bitLen (p.getD b.toNat 0).toNat):Int))),(31,c),(32,h)],a,[lk [p.getD b.toNat 0],D (b.toNat<p.length),D (0<=b/\b<d)]):=I
def OY(m n R Q P C T:Nat)(H p i L:List Int)(F ts ty M s S:es)(th:Int):letI c:=(↑(m+n):Int);letI a:Int:=U.i64.wrap (c+(1:Int));letI b:Int:=U.i64.wrap ((m:Int)+(1:Int));letI j:=dM a.toNat;letI g:Int:=(0:Int);letI x:=lc j g;letI z:=c.toNat;letI h:Nat:=(m+n).min (z-0);letI d:List Int:=dC x (jp h (kw 0 H)) 0;letI e:V:= .s (E (7,0)) (b.toNat) (dM b.toNat);letI f:V:= .s (E (6,0)) (a.toNat) j;letI k:V:= .p (E (1,0));letI l:V:= .s (E (5,0)) n T;letI o:fw:=ep (gd 3) (P2 (gd 3) oK) A8;letI q:dI:=⟨.lit [.i .i64 th],M⟩;letI r:U:= .u64;letI t:dI:=⟨.lit [.p N],ts⟩;letI u:dI:=⟨.ws r H,F⟩;letI v:dI:=⟨.ws r p,ty⟩;letI w:dI:=⟨.ws r i,s⟩;letI y:=n.min n;(mW o (eC o f135.ntmps 200 [1,2,10,12,14,79,80,81,82] (dF 5 3 (dB f135) []) ⟨[(0,.s N 0 0),(1,k),(2,.s (E (4,0)) P C),(3,.s (E (0,0)) (m+n) R),(4,.s (E (2,0)) n Q),(12,.i .i64 (n:Int)),(13,.i .i64 (m:Int)),(14,.i r 0),(33,l)],[u,t,v,q,w,⟨.ws r L,S⟩],[G,A,G],[]⟩))=(E (157,([e,k,f,l],E 83)),dF 17 5 (dB f135) [],[(1,k),(2,f),(10,e),(12,.i .i64 (n:Int)),(14,.i r g),(79,e),(80,k),(81,f),(82,l)],[u,t,v,q,w,⟨.ws r (dC L (jp y (kw 0 p)) 0),S⟩,⟨.ws r (d.set z g),137⟩,⟨.ws r (lc (dM b.toNat) g),137⟩],[D ((n:Int)<th)==G,G,D (g<b/\b<=(1048000:Int)),G,G,D (1=1/\z<d.length),D (g<=c/\c<(↑(a).toNat:Int)),G,D (0+h<=H.length/\0+h<=x.length),D (g<=c/\c<=(j:Int)),G,D (0+y<=p.length/\0+y<=L.length),G,D ((C:Int)<a/\a<=(1048000:Int)),G]):=I
def OR(m n q l:Nat)(H p i L x C:List Int)(t ty M s S R T:es)(z:Int)(P:dI)(F:dE):letI a:dE:=⟨.ws .u64 H,t⟩::P::⟨.ws .u64 p,ty⟩::⟨.lit [.i .i64 z],M⟩::⟨.ws .u64 i,s⟩::⟨.ws .u64 L,S⟩::⟨.ws .u64 x,R⟩::⟨.ws .u64 C,T⟩::F;letI b:=ek a.length a;(gi f135.results.toList (et (ep (gd 3) (P2 (gd 3) qG) A8) f135.ntmps N 200 (dF 17 5 (dB f135) []) ⟨[(1,.p (E (1,0))),(2,.s (E (6,0)) (m+n+1) q),(10,.s (E (7,0)) (m+1) l),(14,.i .u64 0)],a,[A],[]⟩))=(G,E (.t [.s (E (7,0)) (gm (λj=>C.getD (0+j) 0) (m+1)) l,.s (E (6,0)) (gm (λj=>x.getD (0+j) 0) (m+n+1)) q]),a,[ed (D (m+n+1<4294967296/\0+(m+n+1)<=x.length/\m+n+1<=q)) b,G,ed (D (m+1<4294967296/\0+(m+1)<=C.length/\m+1<=l)) b]):=I
def FW{m cu cv lz cz T:Nat}{k:List Int}{t y ty u s S:es}{z:Int}{Q:V->dE->Prop}(af:2<=n)(ae:n<=4)(ak:m+n<100000)(an:m+n<=cu)(am:n<=cv)(hx:m+n<=H.length)(hy:n<=p.length)(wx:dG H)(wy:dG p)(ht:0<p.getD (n-1) 0)(al:cz<m+n+1)(hG:n<=T)(ad:n<=L.length)(wv:dG L)(hs:(0:Int)=64-(bitLen (p.getD (n-1) 0).toNat:Int))(aj:(n:Int)<z):letI e:Nat:=m+n+1;letI j:=val (H.take (m+n));letI a:List Int:=gJ e (j%val (p.take n)) (lc (dM e) 0);letI b:List Int:=gJ (m+1) (j/val (p.take n)) (lc (dM (m+1)) 0);letI c:dI:=⟨.lit [.i .i64 z],u⟩;letI d:U:= .u64;letI f:dI:=⟨.ws d H,t⟩;letI g:dI:=⟨.ws d p,ty⟩;letI h:dI:=⟨.ws d k,s⟩;∀(hQ: ∀(ab:List Int)(P:dI)(F:dE),kX y P F 8->Q (.t [.s (E (7,0)) (ib b (m+1)) (dM (m+1)),.s (E (6,0)) (ib a e) (dM e)]) (f::P::g::c::h::⟨.ws d ab,S⟩::⟨.ws d a,137⟩::⟨.ws d b,137⟩::F)),Ev B (ep (gd 3) (P2 (gd 3) oK) A8) 135 101 5 [(153,[.p (E (1,0)),.i .i64 0])] (dF 5 3 (dB f135) [])
      [(0,.s N 0 0),(1,.p (E (1,0))),(2,.s (E (4,0)) lz cz),(3,.s (E (0,0)) (m+n) cu),(4,.s (E (2,0)) n cv),(12,.i .i64 (n:Int)),(13,.i .i64 (m:Int)),(14,.i d 0),(33,.s (E (5,0)) n T)]
      [f,⟨.lit [.p N],y⟩,g,c,h,⟨.ws d L,S⟩] Q:=by
  intro hQ;have i1:U.i64.wrap ((m:Int)+1)=((m+1:Nat):Int):=jw;have i2:U.i64.wrap (((m+n:Nat):Int)+1)=((m+n+1:Nat):Int):=jw;have mm: ∀a:Nat,Nat.min a a=a:=mo;obtain⟨c1,c2⟩:=gL (m+1);obtain⟨c3,c4⟩:=gL (m+n+1);obtain⟨z0,z1,_,_⟩:=pE ht (eg wy _) hs;have e:=OY m n cu cv lz cz T H p k L t y ty u s S z;simp only[i1,i2,dU,jo,mm]at e;have sv:ScV 1 n p L (dC L (jp n (kw 0 p)) 0):=PQ O ad hy wv wy ht hs;have R:ScU 1 (m+n) H (lc (dM (m+n+1)) 0) ((dC (lc (dM (m+n+1)) 0) (jp (m+n) (kw 0 H)) 0).set (m+n) 0):=P1 (by rw[fJ];omega) hx (dP _) wx;have lv:(dC L (jp n (kw 0 p)) 0).length=L.length:=sv.1
  have ac:(dC (lc (dM (m+n+1)) 0) (jp (m+n) (kw 0 H)) 0).length=dM (m+n+1):=by have:=R.1;rw[gU]at this;rw[this];exact fJ
  generalize dC L (jp n (kw 0 p)) 0=w at*
  refine dY (gK (o7 (DP _)) (mq _)) e ?_ K K rQ
    (Q1:=λ_ m'=> ∃o l P F,m'=⟨.ws .u64 H,t⟩::P::⟨.ws .u64 p,ty⟩::⟨.lit [.i .i64 z],u⟩::⟨.ws .u64 k,s⟩::⟨.ws .u64 w,S⟩::⟨.ws .u64 l,137⟩::⟨.ws .u64 o,137⟩::F/\kX y P F 8/\o.length=dM (m+1)/\l.length=dM (m+n+1)/\dG l/\
      val (l.take (m+n+1))<val (w.take n)/\val (H.take (m+n))*1=val (l.take (m+n+1))+val (w.take n)*val (o.take (m+1))/\dG o/\l.drop (m+n+1)=(lc (dM (m+n+1)) 0).drop (m+n+1)/\o.drop (m+1)=(lc (dM (m+1)) 0).drop (m+1)) ?_ K ?_
  .simp only[ac,fJ];simp only[dK,dJ,ek,mZ,nd,V.wf,tQ,ew,Nat.reduceAdd,Nat.reduceLT,wx,wy];omega
  .have ah:((dC (lc (dM (m+n+1)) 0) (jp (m+n) (kw 0 H)) 0).set (m+n) 0).length=dM (m+n+1):=by rw[R.1,fJ]
   generalize(dC (lc (dM (m+n+1)) 0) (jp (m+n) (kw 0 H)) 0).set (m+n) 0=q at*;have lq:((lc (dM (m+1)) (0:Int)):List Int).length=dM (m+1):=fJ;have wq:dG (lc (dM (m+1)) (0:Int)):=dP _;generalize(lc (dM (m+1)) (0:Int))=Q0 at*;have em:m+1+n=m+n+1:=O
   have hc:=Bx (M:=m+1) (n:=n) (p:=dM (m+1)) (Q:=(dM (m+n+1))) (k:=T) (C:=Q0) (x:=q) (L:=w) (b:=137) (y:=y) (R:=137) (S:=S) af ae O O hG O O O R.2.1 sv.2.1 wq sv.2.2.2
     (by have:=R.2.2.2.1;have:=sv.2.2.2;rw[(O:m+1+n-1=m+n)];omega)
   rw[em]at hc;refine(hc.lift (gl:=gd 3) (m:=[⟨.ws .u64 H,t⟩,⟨.lit [.p N],y⟩,⟨.ws .u64 p,ty⟩,⟨.lit [.i .i64 z],u⟩,⟨.ws .u64 k,s⟩,⟨.ws .u64 w,S⟩,⟨.ws .u64 q,137⟩,⟨.ws .u64 Q0,137⟩]) [7,1,6,5] ⟨K,K,K,K,K,K,K,K,dD⟩ J (λ_ _ h=>by cases h) K).mono ?_;rintro r m'⟨r0,ag,⟨o,l,P,F,rfl,v,b1,b2,b3,b4,b5,b6,b7,b8⟩,_,rfl,rfl⟩;rw[em]at b5 b6 b7;refine⟨o,l,dI.iU (sg [7,1,6,5] 8) P,iC (sg [7,1,6,5] 8) F,(by simp only[fW,iC,ft,kr,kw,eI,fb];rfl),v.iU (σ:=[7,1,6,5]) K 8,O,O,b4,b5,?_,b3,b7.trans R.2.2.2.2,b8⟩;rw[<-R.2.2.1];exact b6
  rintro r m'⟨o,l,P,F,rfl,v,b1,b2,b4,b5,b6,b3,b7,b8⟩_;refine⟨_,K,?_⟩;refine Ev.fq [1,2,10,14] ?_;obtain⟨k1,k2,_⟩:=v.wf;have pp:0<(1:Int):=J;have r0:=(ez _ (dS b4 (m+n+1))).1;rw[sv.2.2.1]at b5 b6;obtain⟨d1,_,d3⟩:=yD pp b6 r0 b5;have eQ:=lg O b3 d3 b8;rw[FH]at d1;have f3:l.length=l.length:=K;have eR:=lg O b4 d1 b7;have e2:=OR m n (dM (m+n+1)) (dM (m+1)) H p k w l o t ty u s S 137 137 z P F;simp only[ir]at e2;refine mU (C:=ep (gd 3) (P2 (gd 3) qG) A8) K ?_
  refine oN (gK (o7 (Nq _)) (mq _)) e2 ?_ K nW K
    (sZ (y:=y) (P:=P) (q:=[⟨.ws .u64 H,t⟩,P,⟨.ws .u64 p,ty⟩,⟨.lit [.i .i64 z],u⟩,⟨.ws .u64 k,s⟩,⟨.ws .u64 w,S⟩,⟨.ws .u64 l,137⟩,⟨.ws .u64 o,137⟩]) (F:=F) (i:=1) K v (by simpa[ek,mZ,nd,V.wf,mE]using k1)) ?_
  .rw [(O:8+F.length=F.length+1+1+1+1+1+1+1+1)]at k1 k2;simp only[mZ]at k1;simp only[dK,dJ,ek,mZ,nd,V.wf,tQ,ew,Nat.reduceAdd,Nat.reduceLT,k1,k2,b4]
   first|omega|(refine⟨?_,?_⟩<;>omega)
  .rintro r1 m1⟨x,rfl,aa,_⟩;rw[eR,eQ];exact hQ w P x aa
def aHq(o n Q k w C:Nat)(H p i:List Int)(t ty M y s:es)(z:Int):letI a:dE:=[⟨.ws .u64 H,t⟩,⟨.ws .u64 p,ty⟩,⟨.lit [.i .i64 z],M⟩,⟨.lit [.p N],y⟩,⟨.ws .u64 i,s⟩];letI b:V:= .s (E (4,0)) w C;letI c:V:= .s (E (0,0)) o Q;letI d:V:= .s (E (1,0)) n k;letI e:fw:=ep (gd 2) (DH (gd 2)) LC;letI f:V:= .p (E (3,0));letI g:V:= .s N 0 0;(mW e (eC e f111.ntmps 200 [46,47,48,49,50] [.code (dB f111)] ⟨[(0,g),(1,f),(2,b),(3,c),(4,d)],a,[A,A,A,A],[]⟩))=(E (135,([g,f,b,c,d],E 51)),dF 13 6 (dB f111) [],[(46,g),(47,f),(48,b),(49,c),(50,d)],a,[G,D ((if o<n then(-1:Int)else if n<o then 1 else vA (val (jp o (kw 0 H))) (val (jp o (kw 0 p))))<0)==A,D (o<4294967296/\0+o<=H.length/\0+n<=p.length/\dG H/\dG p),((n:Int)==1)==A,G,((n:Int)==0)==A,G]):=I
def N8(y:es)(m n:Nat)(H p i:List Int)(t ty M s:es)(z X w:Int)(r:V)(u:dE):Prop:=
  ∃
   S P F,kX y P F 8/\r= .t [.s (E (7,0)) (ib (gJ (m+1) (X/w) (lc (dM (m+1)) 0)) (m+1)) (dM (m+1)),.s (E (6,0)) (ib (gJ (m+n+1) (X%w) (lc (dM (m+n+1)) 0)) (m+n+1)) (dM (m+n+1))]/\
   u=⟨.ws .u64 H,t⟩::P::⟨.ws .u64 p,ty⟩::⟨.lit [.i .i64 z],M⟩::⟨.ws .u64 i,s⟩::⟨.ws .u64 S,137⟩::⟨.ws .u64 (gJ (m+n+1) (X%w) (lc (dM (m+n+1)) 0)),137⟩::⟨.ws .u64 (gJ (m+1) (X/w) (lc (dM (m+1)) 0)),137⟩::F
def Ob{m Q k w C:Nat}{i:List Int}{t y ty M s:es}{z:Int}(l:2<=n)(x:n<=4)(c:m+n<100000)(d:m+n<=Q)(R:n<=k)(hx:m+n<=H.length)(hy:n<=p.length)(S:dG H)(j:dG p)(ht:0<p.getD (n-1) 0)(g:C<m+n+1)(q:(n:Int)<z)(v:(0:Int)=64-(bitLen (p.getD (n-1) 0).toNat:Int)):
    eM B (gd 3) 135 [.s N 0 0,.p (E (1,0)),.s (E (4,0)) w C,.s (E (0,0)) (m+n) Q,.s (E (2,0)) n k] [⟨.ws .u64 H,t⟩,⟨.lit [.p N],y⟩,⟨.ws .u64 p,ty⟩,⟨.lit [.i .i64 z],M⟩,⟨.ws .u64 i,s⟩]
     (N8 y m n H p i t ty M s z (val (H.take (m+n))) (val (p.take n))):=by
  have i1:U.i64.wrap (((m+n:Nat):Int)-(n:Int))=(m:Int):=jw;have i3:U.i64.wrap ((n:Int)-1)=((n-1:Nat):Int):=jw;have P:=eg j (n-1);refine dL (ep (gd 3) (P2 (gd 3) qG) A8) f135 ?_;refine nV (gK (o7 (Nq _)) (mq _)) 200 [] [0,1,2,3,4,12,13,22,24] _ (Wl m n Q k w C H p i t y ty M s z) K K ?_;rw[i1];refine Ev.fq [0,1,2,3,4,12,13] ?_;have e:=Wt m n Q k w C H p i t y ty M s z;simp only[i3,dU]at e
  refine dY (gK (o7 (Nq _)) (mq _)) e ?_ K K sf
    (Q1:=λr u=> ∃T,n<=T/\r= .s (E (5,0)) n T/\u=[⟨.ws .u64 H,t⟩,⟨.lit [.p N],y⟩,⟨.ws .u64 p,ty⟩,⟨.lit [.i .i64 z],M⟩,⟨.ws .u64 i,s⟩,⟨.ws .u64 ((lc T 0).set 0 11259375),137⟩]) ?_ K ?_
  .have o1:lk [p.getD (n-1) 0]=G:=by simp only[lk,eG];exact P
   simp only[dK,dJ,ek,mZ,nd,V.wf,tQ,ew,Nat.reduceAdd,Nat.reduceLT,o1];omega
  .refine((pj y n O x).lift (gl:=gd 3) (m:=[⟨.ws .u64 H,t⟩,⟨.lit [.p N],y⟩,⟨.ws .u64 p,ty⟩,⟨.lit [.i .i64 z],M⟩,⟨.ws .u64 i,s⟩]) [1] ⟨K,K,dD⟩ Y (λ_ _ h=>by cases h) K).mono ?_;rintro r u⟨r0,o,⟨T,f,rfl,rfl⟩,_,rfl,rfl⟩;exact⟨T,f,K,K⟩
  rintro r u⟨T,f,rfl,rfl⟩_;refine⟨_,K,?_⟩;refine Ev.fq [0,1,2,3,4,12,13,14,33] ?_;have L:dG ((lc T 0).set 0 11259375):=gu (dP _) ⟨O,O⟩;have lv:n<=((lc T (0:Int)).set 0 11259375).length:=gp;rw[<-v];clear e;exact mU (by simp only[mC]) (FW (S:=137) l x c d R hx hy S j ht g f lv L v q λb sb F a=>⟨b,sb,F,a,K,K⟩)
def O9{Q k lz C:Nat}{f:List Int}{t ty M y s:es}{z:Int}(ad:2<=n)(ac:n<=4)(al:n<=o)(ab:o<100000)(ah:o<=Q)(ag:n<=k)(hx:o<=H.length)(hy:n<=p.length)(x:dG H)(j:dG p)(T:0<H.getD (o-1) 0)(ht:0<p.getD (n-1) 0)(af:C<o+1)(aa:(n:Int)<z)(hs:(0:Int)=64-(bitLen (p.getD (n-1) 0).toNat:Int))(ae: ¬val (H.take o)<val (p.take n)):letI a:List Int:=gJ (o+1) (val (H.take o)%val (p.take n)) (lc (dM (o+1)) 0);letI b:dI:=⟨.lit [.i .i64 z],M⟩;letI c:dI:=⟨.ws .u64 H,t⟩;letI d:dI:=⟨.ws .u64 p,ty⟩;letI e:dI:=⟨.ws .u64 f,s⟩;eM B (gd 2) 111 [.s N 0 0,.p (E (3,0)),.s (E (4,0)) lz C,.s (E (0,0)) o Q,.s (E (1,0)) n k] [c,d,b,⟨.lit [.p N],y⟩,e]
      (λr u=> ∃S P L w q F,kX y P F 8/\r= .t [.s (E (7,0)) w q,.s (E (6,0)) (ib a (o+1)) (dM (o+1))]/\
        u=c::d::b::P::e::⟨.ws .u64 S,137⟩::⟨.ws .u64 a,137⟩::⟨.ws .u64 L,137⟩::F):=by
  have aj:=Bg hx hy x j (O:0<o) (O:0<n) T ht;obtain⟨m,rfl⟩: ∃m,o=m+n:=⟨o-n,O⟩
  refine dL (ep (gd 2) (DH (gd 2)) LC) f111 ?_;generalize hR:gJ (m+n+1) (val (H.take (m+n))%val (p.take n)) (lc (dM (m+n+1)) 0)=R
  refine dY (gK (oC _) (wg _)) (aHq (m+n) n Q k lz C H p f t ty M y s z) ?_ K K zJ
    (Q1:=λr u=> ∃S P L w q F,kX y P F 8/\r= .t [.s (E (7,0)) w q,.s (E (6,0)) (ib R (m+n+1)) (dM (m+n+1))]/\u=⟨.ws .u64 H,t⟩::⟨.ws .u64 p,ty⟩::⟨.lit [.i .i64 z],M⟩::P::⟨.ws .u64 f,s⟩::⟨.ws .u64 S,137⟩::⟨.ws .u64 R,137⟩::⟨.ws .u64 L,137⟩::F) ?_ K ?_
  .have hc:=nB (λh=>ae (aj.1 h));simp only[hc];simp only[dK,dJ,ek,mZ,nd,V.wf,tQ,ew,Nat.reduceAdd,Nat.reduceLT,x,j];omega
  .refine((Ob (w:=lz) (C:=C) (y:=y) (s:=s) (i:=f) (m:=m) (n:=n) (Q:=Q) (k:=k) (t:=t) (ty:=ty) (M:=M) ad ac ab ah ag hx hy x j ht af aa hs).lift (gl:=gd 2) (m:=[⟨.ws .u64 H,t⟩,⟨.ws .u64 p,ty⟩,⟨.lit [.i .i64 z],M⟩,⟨.lit [.p N],y⟩,⟨.ws .u64 f,s⟩]) [0,3,1,2,4] ⟨K,K,K,K,K,K,K,K,K,K,dD⟩ J ?_ K).mono ?_
   .intro g i l;unfold gd at l⊢;cases hb:Nat.beq g 4 with
    |true=>rw[hb]at l;cases l;exact⟨2,K,K⟩
    |false=>rw[hb]at l;cases l
   rintro r u⟨r0,ak,⟨S,P,F,v,rfl,rfl⟩,_,rfl,rfl⟩;rw[hR];refine⟨S,dI.iU (sg [0,3,1,2,4] 5) P,gJ (m+1) (val (jp (m+n) H)/val (jp n p)) (lc (dM (m+1)) 0),_,_,iC (sg [0,3,1,2,4] 5) F,v.P3 K K,K,?_⟩;simp only[fW,iC,ft,kr,kw,eI,fb];rfl
  rintro r u⟨S,P,L,w,q,F,v,rfl,rfl⟩_;refine⟨_,K,?_⟩;refine Ev.fq [51] ?_;exact Ev.done (gK (oC _) (wg _)) (ahi _ _ _) K ⟨S,P,L,w,q,F,v,K,K⟩
noncomputable abbrev Hg:List (Nat×jB):=(205,To)::N1 mG
noncomputable abbrev TP:List Item:=gQ (dB f193) 1 []
noncomputable abbrev UP:List Item:=gQ (dB f193) 2 []
noncomputable abbrev SM:List Item:=gQ (dB f193) 3 []
def Gz:fl g0 Hg:=⟨⟨ga f205,T7 g0⟩,wA g0⟩
def ZG(n j a:Nat):V:=bif Nat.blt a j then .s (E (13+a,0)) n (dM (2*n))else .s N 0 0
def afj(n j:Nat):List V:=(List.range 16).map (ZG n j)
def YJ(p:Nat->List Int)(j:Nat):dE:=(List.range j).map λa=>⟨.ws .u64 (p a),137⟩
def OH(p:Nat->List Int)(j:Nat)(v:List Int)(a:Nat):List Int:=bif Nat.beq a j then v else p a
abbrev Oj(n s T w C g u:Nat)(k j:Int):eZ:=[(0,.s (E (5,0)) w C),(3,.s (E (1,0)) n s),(4,.s (E (0,0)) n T),(11,.i .i64 (n:Int)),(13,.i .u64 k),(17,.s (E (9,0)) g u),(18,.s (E (11,0)) n n),(19,.p (E (12,0))),(20,.i .i64 j)]
abbrev Oe(n:Nat)(L:List Int)(o:es)(y x P R z h i r M S m:dI)(j:Nat)(p:Nat->List Int):dE:=⟨.ws .u64 L,o⟩::y::x::P::R::z::h::i::r::M::S::m::⟨.lit (afj n j),242⟩::YJ p j
def xp(n s T w C g u:Nat)(k:Int)(L:List Int)(o:es)(y x P R z h i r M S m:dI)(p:Nat->List Int)(d:Nat)(b:d<14):letI a:dE:=Oe n L o y x P R z h i r M S m (d+2) p;(oS (eC (ep g0 Hg LR) f193.ntmps 200 [0,3,4,11,13,17,18,19,20] TP ⟨Oj n s T w C g u k ((d+2:Nat):Int),a,[G],[]⟩))=(TP,Oj n s T w C g u k ((d+3:Nat):Int),Oe n L o y x P R z h i r M S m (d+3) (OH p (d+2) (oO n k (p (d+1)) (p 1) L (lc (dM (2*n)) 0))),[G,G,ed (As n n n (n:Int) k (14+d,0) (14,0) (0,0) (p (d+1)) (p 1) L) (ed G (ek (15+d) a)),G,G,G,G,G,G,G]):=
  match d,b with|0,_|1,_|2,_|3,_|4,_|5,_|6,_|7,_|8,_|9,_|10,_|11,_|12,_|13,_=>I
def aMb(n cx s T lz cz cr c2 l2 lq cq:Nat)(k:Int)(L H F p t:List Int)(tm Q M tr C:es)(y P R h i S:dI):letI l:U:= .u64;letI q:dI:=⟨.ws l L,tm⟩;letI r:dI:=⟨.ws l H,Q⟩;letI u:dI:=⟨.ws l F,M⟩;letI v:dI:=⟨.ws l p,tr⟩;letI w:dI:=⟨.ws l t,C⟩;letI d:=[q,y,r,P,R,u,h,i,v,w,S];letI b:=(n:Int);letI f:=b.toNat;letI j:Int:=(0:Int);letI m:=lc f j;letI c:List Int:=m.set 0 (1:Int);letI x:dI:=⟨.ws l c,137⟩;letI a:dE:=List.set (d++[⟨.ws l m,137⟩]) 11 x;letI e:V:= .s N 0 0;letI aa:Nat:=dM (2*f);letI g:dI:=⟨.ws l (oO f k c p L (lc aa j)),137⟩;letI o:dE:=[⟨.lit Ek.zero,242⟩];letI z:V:= .s (E (5,0)) lz cz;letI ab:V:= .s (E (9,0)) l2 c2;(oS (eC (ep g0 Hg LR) f193.ntmps 200 [0,3,4,11,13,17,18,19,20] (dF 18 5 (dB f193) []) ⟨[(0,z),(2,.s (E (2,0)) n cx),(3,.s (E (1,0)) n s),(4,.s (E (0,0)) n T),(11,.i .i64 (n:Int)),(13,.i l k),(17,ab),(80,.t [.s (E (10,0)) lq cq,.s (E (8,0)) n cr])],d,[A],[]⟩))=(TP,[(0,z),(3,.s (E (1,0)) n s),(4,.s (E (0,0)) n T),(11,.i .i64 b),(13,.i l k),(17,ab),(18,.s (E (11,0)) f f),(19,.p (E (12,0))),(20,.i .i64 ((2:Int)))],[q,y,r,P,R,u,h,i,v,w,S,x,⟨.lit [.s (E (13,0)) f aa,.s (E (14,0)) n (dM (2*n)),e,e,e,e,e,e,e,e,e,e,e,e,e,e],242⟩,g,⟨.ws l (oO n k H p L (lc (dM (2*n)) j)),137⟩],[G,G,ed (As n n n b k (2,0) (8,0) (0,0) H p L) (ed G (ek 14 (List.set (a++o++[g]) 12 ⟨.lit (Ek.zero.set 0 (.s (E (13,0)) f aa)),242⟩))),G,G,G,G,ed (As f n n b k (11,0) (8,0) (0,0) c p L) (ed G (ek 13 (a++o))),G,G,D (1=1/\0<m.length),D (j<=j/\j<(f:Int)),D (j<=b/\b<=b/\j<b/\b<=(1048576:Int)),D (b<b)==A,G]):=I
def acf(n s T w C g u:Nat)(k:Int)(F t o:List Int)(P v j:es)(q y x l R h i r S m:dI)(f:dE):letI b:Nat:=dM (2*n);letI a:dE:=h::i::r::⟨.ws .u64 t,v⟩::S::m::⟨.lit [.s (E (13,0)) n b,.s (E (14,0)) n b,.s (E (15,0)) n b,.s (E (16,0)) n b,.s (E (17,0)) n b,.s (E (18,0)) n b,.s (E (19,0)) n b,.s (E (20,0)) n b,.s (E (21,0)) n b,.s (E (22,0)) n b,.s (E (23,0)) n b,.s (E (24,0)) n b,.s (E (25,0)) n b,.s (E (26,0)) n b,.s (E (27,0)) n b,.s (E (28,0)) n b],242⟩::⟨.ws .u64 o,j⟩::f;letI c:=(n:Int);letI e:=c.toNat;letI d:=n.min e;(oS (eC (ep g0 Hg LR) f193.ntmps 200 [0,3,4,11,13,17,18,19,21] TP ⟨[(0,.s (E (5,0)) w C),(3,.s (E (1,0)) n s),(4,.s (E (0,0)) n T),(11,.i .i64 (n:Int)),(13,.i .u64 k),(17,.s (E (9,0)) g u),(18,.s (E (11,0)) n n),(19,.p (E (12,0))),(20,.i .i64 16)],q::y::x::l::R::⟨.ws .u64 F,P⟩::a,[A],[]⟩))=(UP,[(0,.s (E (5,0)) e C),(3,.s (E (1,0)) n s),(4,.s (E (0,0)) n T),(11,.i .i64 c),(13,.i .u64 k),(17,.s (E (9,0)) e u),(18,.s (E (11,0)) n n),(19,.p (E (12,0))),(21,.i .i64 (U.i64.wrap (c-1)))],q::y::x::l::R::⟨.ws .u64 (dC F (jp d (kw 0 o)) 0),P⟩::a,[G,D (0<=c/\c<=(u:Int)),D (0+d<=o.length/\0+d<=F.length),G,G,D (0<=c/\c<=(C:Int)),G]):=I
def Kj(o:Nat)(k:U)(l:List Int):mZ o (.ws k l)=G:=rfl
def vI(o:Nat)(l:List V):mZ o (.lit l)=nd o l:=rfl
def pB(n:Nat)(M k a b:Int):Int:=wC n a M k (iM n b)
def I2{X k:Int}(T:0<=X)(h:X<pw n)(s:0<M)(q:M<pw n)(Q:dG p):letI a:=wC n X M k p;0<=a/\a<pw n:=by
  obtain⟨C,b⟩:=qA (k:=k) T (gA s) p 0 Q (uh _) O;unfold wC;split
  .exact⟨O,O⟩
  .exact⟨C,O⟩
def Bo{l:List Int}(f:n<=l.length)(d:dG l):l.take n=iM n (val (l.take n)):=by have h:=xz (l.take n) (dS d n);rw[gR,qk f]at h;exact h.symm
def tS(n:Nat)(l:List Int)(v:Int):Prop:=2*n<=l.length/\dG l/\val (l.take n)=v
def kV(n:Nat)(l:List Int)(v:Int):Prop:=n<=l.length/\dG l/\val (l.take n)=v
def tS.one{l:List Int}{v:Int}(h:tS n l v):kV n l v:=⟨by have:=h.1;omega,h.2⟩
def rV{b:Int}{c:List Int}(L:kV n H a)(Q:kV n p b)(d:kV n c M)(s:0<M)(o:2*n<=F.length)(u:dG F):tS n (oO n k H p c F) (pB n M k a b):=by obtain⟨g,w,rfl⟩:=L;obtain⟨j,f,rfl⟩:=Q;obtain⟨q,e,rfl⟩:=d;have i:=ez _ (dS w n);rw[show(H.take n).length=n by rw[gR];omega]at i;have h:=(ez _ (dS e n)).2;rw[show(c.take n).length=n by rw[gR];omega]at h;refine⟨by unfold oO;rw[HP o];exact o,QU u,?_⟩;unfold oO pB;rw[OM];have bd:=I2 (k:=k) i.1 i.2 s h (dS f n);rw[nL _ _ bd.1 bd.2,<-Bo j f]
def yx{b:Int}{x y w:Nat}{c:List Int}(L:kV n H a)(Q:kV n p b)(d:kV n c M)(s:0<M)(e:1<=n)(S:n<100000)(R:(c.getD 0 0*k+1)%18446744073709551616=0):As n n n (n:Int) k (x,0) (y,0) (w,0) H p c=G:=by unfold As;exact fG ⟨⟨K,K,K⟩,⟨K,K,K⟩,⟨e,S⟩,⟨L.2.1,Q.2.1,d.2.1⟩,⟨L.1,Q.1,d.1⟩,R,by rw[d.2.2];exact s⟩
def mY:2*n<=(lc (dM (2*n)) (0:Int)).length/\dG (lc (dM (2*n)) 0):=⟨by rw[fJ];exact(gL _).1,dP _⟩
def A9(h:1<=n):kV n ((lc n (0:Int)).set 0 1) 1:=by
  refine⟨Y,gu (dP _) ⟨O,O⟩,?_⟩;obtain⟨i,rfl⟩: ∃i,n=i+1:=⟨n-1,O⟩
  rw[sQ Y,CI,dJ];simp only[val];rw[kv];rfl
def vS(n:Nat)(M k R x:Int):Nat->Int
  |0=>pB n M k 1 R
  |1=>pB n M k x R
  |j+2=>pB n M k (vS n M k R x (j+1)) (pB n M k x R)
def NQ{f:Nat->V}: ∀l:List Nat,(∀a,V.wf o (f a)=G)->nd o (l.map f)=G
  |[],_=>rfl
  |a::l,h=>by show(V.wf o (f a)&&nd o (l.map f))=G;rw[h a,NQ l h];rfl
def Mt{f:Nat->dI}: ∀l:List Nat,(∀a,mZ o (f a).c=G)->ek o (l.map f)=G
  |[],_=>rfl
  |a::l,h=>by show(mZ o (f a).c&&ek o (l.map f))=G;rw[h a,Mt l h];rfl
def W8{j:Nat}(h:13+j<=o):nd o (afj n j)=G:=NQ _ λa=>by
  unfold ZG;cases H:Nat.blt a j with
  |true=>rw[nD]at H;show Nat.blt (13+a) o=G;rw[nD];omega
  |false=>rfl
def aLn{s T w C r x b d:Nat}{a1 ap:Int}{xs F rs t:List Int}{p:Nat->List Int}{c tx tz tr v:es}{y P R S:dI}{Q:V->dE->Prop}(h1:1<=n)(h2:n<100000)(hm:kV n L M)(hM:0<M)(hk:(L.getD 0 0*k+1)%18446744073709551616=0)(wy: ∀o,8<=o->mZ o y.c=G)(H: ∀o,8<=o->mZ o P.c=G)(u: ∀o,8<=o->mZ o R.c=G)(wh: ∀o,8<=o->mZ o h.c=G)(wi: ∀o,8<=o->mZ o i.c=G)(wq: ∀o,8<=o->mZ o S.c=G)(hd:d<14)(z:tS n (p 1) a1)(m:tS n (p (d+1)) ap):letI a:dI:=⟨.ws .u64 ((lc n 0).set 0 1),137⟩;letI e:dI:=⟨.ws .u64 xs,tx⟩;letI f:dI:=⟨.ws .u64 F,tz⟩;letI g:dI:=⟨.ws .u64 rs,tr⟩;letI j:dI:=⟨.ws .u64 t,v⟩;letI l:=ep g0 Hg LR;∀(hn: ∀pn,tS n pn (pB n M k ap a1)->Ev B l 193 f193.ntmps b [] TP (Oj n s T w C r x k ((d+3:Nat):Int)) (Oe n L c y e P R f h i g j S a (d+3) (OH p (d+2) pn)) Q),Ev B l 193 f193.ntmps b [] TP (Oj n s T w C r x k ((d+2:Nat):Int)) (Oe n L c y e P R f h i g j S a (d+2) p) Q:=by
  intro hn;have e:=xp n s T w C r x k L c y ⟨.ws .u64 xs,tx⟩ P R ⟨.ws .u64 F,tz⟩ h i ⟨.ws .u64 rs,tr⟩ ⟨.ws .u64 t,v⟩ S ⟨.ws .u64 ((lc n 0).set 0 1),137⟩ p d hd;refine fa (gK Gz (eP _)) e ?_ K (hn _ (rV m.one z.one hm hM mY.1 mY.2));have w1:nd (15+d) (afj n (d+2))=G:=W8 O;have w2:ek (15+d) (YJ p (d+2))=G:=Mt _ λ_=>rfl
  have q:8<=15+d:=O;simp only[yx m.one z.one hm hM h1 h2 hk,dX,fM,ek,iO,bT,Kj,vI,w1,w2,wy _ q,H _ q,u _ q,wh _ q,wi _ q,wq _ q,BH,and_self]
def apl{cy cm lz cz l2 c2 b:Nat}{R x:Int}{xs zs rs t:List Int}{tm tx tz tr v:es}{y P C S:dI}{Q:V->dE->Prop}(h1:1<=n)(h2:n<100000)(hm:kV n L M)(hM:0<M)(hk:(L.getD 0 0*k+1)%18446744073709551616=0)(T: ∀o,8<=o->mZ o y.c=G)(H: ∀o,8<=o->mZ o P.c=G)(u: ∀o,8<=o->mZ o C.c=G)(wh: ∀o,8<=o->mZ o h.c=G)(wi: ∀o,8<=o->mZ o i.c=G)(wq: ∀o,8<=o->mZ o S.c=G):letI e:dI:=⟨.ws .u64 ((lc n 0).set 0 1),137⟩;letI f:dI:=⟨.ws .u64 xs,tx⟩;letI g:dI:=⟨.ws .u64 zs,tz⟩;letI j:dI:=⟨.ws .u64 rs,tr⟩;letI l:dI:=⟨.ws .u64 t,v⟩;letI m:=ep g0 Hg LR;∀(r d:Nat),d+r=14-> ∀p:Nat->List Int,(∀a,1<=a->a<d+2->tS n (p a) (vS n M k R x a))->
    (∀s:Nat->List Int,s 0=p 0->s 1=p 1->(∀a,1<=a->a<16->tS n (s a) (vS n M k R x a))->Ev B m 193 f193.ntmps b [] TP (Oj n cy cm lz cz l2 c2 k 16) (Oe n L tm y f P C g h i j l S e 16 s) Q)->
    Ev B m 193 f193.ntmps b [] TP (Oj n cy cm lz cz l2 c2 k ((d+2:Nat):Int)) (Oe n L tm y f P C g h i j l S e (d+2) p) Q
  |0,d,e,p,c,F=>by obtain rfl:d=14:=e;exact F p K K c
  |r+1,d,e,p,c,F=>by
   refine aLn h1 h2 hm hM hk T H u wh wi wq O (c 1 (eT _) O) (c (d+1) O O) λq w=>?_
   refine apl h1 h2 hm hM hk T H u wh wi wq r (d+1) O _ (λa ha hb=>?_) λs e0 e1=>F s (e0.trans K) (e1.trans K)
   cases z:Nat.beq a (d+2)with
   |true=>rw[show OH p (d+2) q a=q by unfold OH;rw[z];rfl,iB z];exact w
   |false=>rw[show OH p (d+2) q a=p a by unfold OH;rw[z];rfl];exact c a ha (by have:=Nat.ne_of_beq_eq_false z;omega)
def Zg(n L H P s T R S:Nat)(i:Nat)(k:Int)(p:List Int)(ty:es)(q:dI)(F:dE):letI a:dE:=q::⟨.ws .u64 p,ty⟩::F;letI b:=(i:Int);(oS (eC (ep g0 [] []) f193.ntmps 200 [0,3,4,11,13,17,18,19,21,22,23] UP ⟨[(0,.s (E (R,0)) n H),(3,.s (E (1,0)) L s),(4,.s (E (0,0)) n T),(11,.i .i64 (n:Int)),(13,.i .u64 k),(17,.s (E (S,0)) n P),(18,.s (E (11,0)) n n),(19,.p (E (12,0))),(21,.i .i64 (i:Int))],a,[G],[]⟩))=(SM,[(0,.s (E (R,0)) n H),(3,.s (E (1,0)) L s),(4,.s (E (0,0)) n T),(11,.i .i64 (n:Int)),(13,.i .u64 k),(17,.s (E (S,0)) n P),(18,.s (E (11,0)) n n),(19,.p (E (12,0))),(21,.i .i64 b),(22,.i .u64 (p.getD b.toNat 0)),(23,.i .i64 0)],a,[D (b.toNat<p.length),D (0<=b/\b<(L:Int)),G]):=I
def aNt(n L H P s T R S:Nat)(k i l j:Int)(m:dE):letI a:Int:=1152921504606846976;letI b:V:= .s (E (R,0)) n H;letI c:V:= .s (E (S,0)) n P;(oS (eC (ep g0 [] []) f193.ntmps 32 [0,3,4,11,13,17,18,19,21,22,23,197,198,201] SM ⟨[(0,b),(3,.s (E (1,0)) L s),(4,.s (E (0,0)) n T),(11,.i .i64 (n:Int)),(13,.i .u64 k),(17,c),(18,.s (E (11,0)) n n),(19,.p (E (12,0))),(21,.i .i64 i),(22,.i .u64 l),(23,.i .i64 j)],m,[G,A,A],[]⟩))=(dF 47 5 (dB f193) [],[(0,b),(3,.s (E (1,0)) L s),(4,.s (E (0,0)) n T),(11,.i .i64 (n:Int)),(13,.i .u64 k),(17,c),(18,.s (E (11,0)) n n),(19,.p (E (12,0))),(21,.i .i64 i),(22,.i .u64 l),(23,.i .i64 j),(197,c),(198,b),(201,.p (E (12,(l.fdiv a).toNat)))],m,[D (0<=l.fdiv a/\l.fdiv (a:Int)<16),G,(j !=0)==A,(i !=U.i64.wrap ((L:Int)-1))==A,G,D (j<64)==G]):=I
abbrev By(n L H P s T R S:Nat)(k i l j:Int)(m:dE)(w f:Bool):Prop:=letI a:V:= .s (E (R,0)) n H;letI b:V:= .s (E (0,0)) n T;letI c:V:= .s (E (S,0)) n P;letI d:V:= .i .i64 (n:Int);letI e:V:= .i .u64 k;(mW (ep g0 [] []) (eC (ep g0 [] []) f193.ntmps 200 [0,3,4,11,13,17,18,19,21,22,23,169,170,171,172,173,174] SM ⟨[(0,a),(3,.s (E (1,0)) L s),(4,b),(11,.i .i64 (n:Int)),(13,e),(17,c),(18,.s (E (11,0)) n n),(19,.p (E (12,0))),(21,.i .i64 i),(22,.i .u64 l),(23,.i .i64 j)],m,[G,w,G],[]⟩))=(E (205,([c,a,a,b,e,d],E 175)),dF 43 7 (dB f193) [],[(0,a),(3,.s (E (1,0)) L s),(4,b),(11,d),(13,e),(17,c),(18,.s (E (11,0)) n n),(19,.p (E (12,0))),(21,.i .i64 i),(22,.i .u64 l),(23,.i .i64 j),(169,c),(170,a),(171,a),(172,b),(173,e),(174,d)],m,[f,(i !=U.i64.wrap ((L:Int)-1))==w,G,D (j<64)==G])
def asd(n L H P s T R S:Nat)(k i l j:Int)(m:dE):By n L H P s T R S k i l j m G G:=dR
def aze(n L H P s T R S:Nat)(k i l j:Int)(m:dE):By n L H P s T R S k i l j m A ((j !=0)==G):=dR
abbrev B7(n L H P s T R S:Nat)(k i l j:Int)(m:dE)(w f u u3 u4 o g v t:Nat)(F:Tmp):Prop:=letI a:V:= .s (E (S,0)) n P;letI b:V:= .s (E (R,0)) n H;letI c:V:= .s (E (0,0)) n T;letI d:V:= .i .i64 (n:Int);letI e:V:= .i .u64 k;(mW (ep g0 [] []) (eC (ep g0 [] []) f193.ntmps 200 [0,3,4,11,13,17,18,19,21,22,23,w,f,u,u3,u4,o] (dF g 7 (dB f193) []) ⟨[(0,b),(3,.s (E (1,0)) L s),(4,c),(11,.i .i64 (n:Int)),(13,e),(17,a),(18,.s (E (11,0)) n n),(19,.p (E (12,0))),(21,.i .i64 i),(22,.i .u64 l),(23,.i .i64 j),(v,a)],m,[],[]⟩))=(E (205,([b,a,a,c,e,d],E F)),dF t 7 (dB f193) [],[(0,b),(3,.s (E (1,0)) L s),(4,c),(11,d),(13,e),(17,a),(18,.s (E (11,0)) n n),(19,.p (E (12,0))),(21,.i .i64 i),(22,.i .u64 l),(23,.i .i64 j),(w,b),(f,a),(u,a),(u3,c),(u4,e),(o,d)],m,[])
def aAe(n L H P s T R S:Nat)(k i l j:Int)(m:dE):B7 n L H P s T R S k i l j m 176 177 178 179 180 181 43 175 44 182:=dR
def apb(n L H P s T R S:Nat)(k i l j:Int)(m:dE):letI a:V:= .s (E (R,0)) n H;letI b:V:= .s (E (0,0)) n T;letI c:V:= .s (E (S,0)) n P;letI d:V:= .i .i64 (n:Int);letI e:V:= .i .u64 k;(mW (ep g0 [] []) (eC (ep g0 [] []) f193.ntmps 200 [0,3,4,11,13,17,18,19,21,22,23,183,184,185,186,187,188] (dF 44 7 (dB f193) []) ⟨[(0,a),(3,.s (E (1,0)) L s),(4,b),(11,.i .i64 (n:Int)),(13,e),(17,c),(18,.s (E (11,0)) n n),(19,.p (E (12,0))),(21,.i .i64 i),(22,.i .u64 l),(23,.i .i64 j),(182,a)],m,[],[]⟩))=(E (205,([c,a,a,b,e,d],E 189)),dF 45 7 (dB f193) [],[(0,a),(3,.s (E (1,0)) L s),(4,b),(11,d),(13,e),(17,c),(18,.s (E (11,0)) n n),(19,.p (E (12,0))),(21,.i .i64 i),(22,.i .u64 l),(23,.i .i64 j),(183,c),(184,a),(185,a),(186,b),(187,e),(188,d)],m,[]):=I
def ayv(n L H P s T R S:Nat)(k i l j:Int)(m:dE):B7 n L H P s T R S k i l j m 190 191 192 193 194 195 45 189 46 196:=dR
def awx(n L H P s T R S:Nat)(k i l j:Int)(m:dE):letI a:V:= .s (E (R,0)) n H;letI b:Int:=1152921504606846976;letI c:V:= .s (E (S,0)) n P;(oS (eC (ep g0 [] []) f193.ntmps 9 [0,3,4,11,13,17,18,19,21,22,23,197,198,201] (dF 46 7 (dB f193) []) ⟨[(0,a),(3,.s (E (1,0)) L s),(4,.s (E (0,0)) n T),(11,.i .i64 (n:Int)),(13,.i .u64 k),(17,c),(18,.s (E (11,0)) n n),(19,.p (E (12,0))),(21,.i .i64 i),(22,.i .u64 l),(23,.i .i64 j),(196,a)],m,[],[]⟩))=(dF 47 5 (dB f193) [],[(0,a),(3,.s (E (1,0)) L s),(4,.s (E (0,0)) n T),(11,.i .i64 (n:Int)),(13,.i .u64 k),(17,c),(18,.s (E (11,0)) n n),(19,.p (E (12,0))),(21,.i .i64 i),(22,.i .u64 l),(23,.i .i64 j),(197,c),(198,a),(201,.p (E (12,(l.fdiv b).toNat)))],m,[D (0<=l.fdiv b/\l.fdiv (b:Int)<16),G]):=I
def rl_(n L y x s T R S r:Nat)(k i l j:Int)(t H w P p q u C m M o v:dI)(F:dE)(d:Nat)(z:d<16):letI a:dE:=t::H::w::P::p::q::u::C::m::M::o::v::⟨.lit [.s (E (13,0)) n r,.s (E (14,0)) n r,.s (E (15,0)) n r,.s (E (16,0)) n r,.s (E (17,0)) n r,.s (E (18,0)) n r,.s (E (19,0)) n r,.s (E (20,0)) n r,.s (E (21,0)) n r,.s (E (22,0)) n r,.s (E (23,0)) n r,.s (E (24,0)) n r,.s (E (25,0)) n r,.s (E (26,0)) n r,.s (E (27,0)) n r,.s (E (28,0)) n r],242⟩::F;letI b:V:= .s (E (R,0)) n y;letI c:V:= .s (E (S,0)) n x;letI e:V:= .s (E (0,0)) n T;letI f:V:= .i .i64 (n:Int);letI g:V:= .i .u64 k;letI h:V:= .s (E (13+d,0)) n r;(mW (ep g0 [] []) (eC (ep g0 [] []) f193.ntmps 200 [0,3,4,11,13,17,18,19,21,22,23,197,198,202,203,204,205] (dF 47 5 (dB f193) []) ⟨[(0,b),(3,.s (E (1,0)) L s),(4,e),(11,f),(13,g),(17,c),(18,.s (E (11,0)) n n),(19,.p (E (12,0))),(21,.i .i64 i),(22,.i .u64 l),(23,.i .i64 j),(197,c),(198,b),(201,.p (E (12,d)))],a,[],[]⟩))=(E (205,[c,b,h,e,g,f],E 206),dF 47 10 (dB f193) [],[(0,b),(3,.s (E (1,0)) L s),(4,e),(11,f),(13,g),(17,c),(18,.s (E (11,0)) n n),(19,.p (E (12,0))),(21,.i .i64 i),(22,.i .u64 l),(23,.i .i64 j),(197,c),(198,b),(202,h),(203,e),(204,g),(205,f)],a,[G]):=
  match d,z with|0,_|1,_|2,_|3,_|4,_|5,_|6,_|7,_|8,_|9,_|10,_|11,_|12,_|13,_|14,_|15,_=>dR|n+16,h=>absurd h O
def aIl(n L H P s T R S:Nat)(k i l j:Int)(m:dE):letI a:V:= .s (E (S,0)) n P;(oS (eC (ep g0 [] []) f193.ntmps 200 [0,3,4,11,13,17,18,19,21,22,23] (dF 47 10 (dB f193) []) ⟨[(0,.s (E (R,0)) n H),(3,.s (E (1,0)) L s),(4,.s (E (0,0)) n T),(11,.i .i64 (n:Int)),(13,.i .u64 k),(17,a),(18,.s (E (11,0)) n n),(19,.p (E (12,0))),(21,.i .i64 i),(22,.i .u64 l),(23,.i .i64 j),(206,a)],m,[],[]⟩))=(SM,[(0,a),(3,.s (E (1,0)) L s),(4,.s (E (0,0)) n T),(11,.i .i64 (n:Int)),(13,.i .u64 k),(17,.s (E (R,0)) n H),(18,.s (E (11,0)) n n),(19,.p (E (12,0))),(21,.i .i64 i),(22,.i .u64 (U.u64.wrap (l*16))),(23,.i .i64 (U.i64.wrap (j+4)))],m,[G]):=I
def aPf(n L H P s T R S:Nat)(k i l:Int)(m:dE):(oS (eC (ep g0 [] []) f193.ntmps 200 [0,3,4,11,13,17,18,19,21] SM ⟨[(0,.s (E (R,0)) n H),(3,.s (E (1,0)) L s),(4,.s (E (0,0)) n T),(11,.i .i64 (n:Int)),(13,.i .u64 k),(17,.s (E (S,0)) n P),(18,.s (E (11,0)) n n),(19,.p (E (12,0))),(21,.i .i64 i),(22,.i .u64 l),(23,.i .i64 64)],m,[A],[]⟩))=(UP,[(0,.s (E (R,0)) n H),(3,.s (E (1,0)) L s),(4,.s (E (0,0)) n T),(11,.i .i64 (n:Int)),(13,.i .u64 k),(17,.s (E (S,0)) n P),(18,.s (E (11,0)) n n),(19,.p (E (12,0))),(21,.i .i64 (U.i64.wrap (i-1)))],m,[G]):=I
def aHx(n L H P s T R S:Nat)(k:Int)(m:dE):letI a:V:= .s (E (0,0)) n T;letI b:V:= .s (E (S,0)) n P;letI c:V:= .s (E (R,0)) n H;letI d:V:= .s (E (11,0)) n n;letI e:V:= .i .u64 k;(mW (ep g0 [] []) (eC (ep g0 [] []) f193.ntmps 200 [4,17,211,212,213,214,215,216] UP ⟨[(0,c),(3,.s (E (1,0)) L s),(4,a),(11,.i .i64 (n:Int)),(13,e),(17,b),(18,d),(19,.p (E (12,0))),(21,.i .i64 (-1))],m,[A],[]⟩))=(E (205,([b,c,d,a,e,.i .i64 (n:Int)],E 217)),dF 50 7 (dB f193) [],[(4,a),(17,b),(211,b),(212,c),(213,d),(214,a),(215,e),(216,.i .i64 (n:Int))],m,[G]):=I
def aKk(n P T S:Nat)(m:dE):letI a:V:= .s (E (S,0)) n P;letI b:V:= .s (E (0,0)) n T;(mW (ep g0 [] []) (eC (ep g0 [] []) f193.ntmps 200 [17,218,219] (dF 50 7 (dB f193) []) ⟨[(4,b),(217,a)],m,[],[]⟩))=(E (77,([a,b],E 220)),dF 51 3 (dB f193) [],[(17,a),(218,a),(219,b)],m,[]):=I
def aJd(n P S:Nat)(c:Int)(m:dE):letI a:V:= .s (E (S,0)) n P;(mW (ep g0 [] []) (eC (ep g0 [] []) f193.ntmps 200 [237] (dF 51 3 (dB f193) []) ⟨[(17,a),(220,.i .i64 c)],m,[A],[]⟩))=(E (104,([a],E 238)),dF 55 2 (dB f193) [],[(237,a)],m,[D (c≥0)==A]):=I
def aOc(r:V)(m:dE):(gi f193.results.toList (et (ep g0 [] []) f193.ntmps N 200 (dF 55 2 (dB f193) []) ⟨[(238,r)],m,[],[]⟩))=(G,E r,m,[]):=I
theorem oR.Zb{P:Program}{R:Nat->Option Nat}{f:FuncId}{F:QF}(h:oR P R f F){args:List V}{r:V}(T:F args m=E (r,G)):eM P R f args m (λv u=>v=r/\u=m):=by intro q w y c;refine(h q m w args r T y c).mono ?_;rintro i S⟨l,a,rfl⟩;exact⟨l,r,m,⟨a.ln,a.len,a.new,a.rel,a.iY⟩,K,K,K⟩
theorem nbf{a b:Nat}(h:a≠b):(!(Nat.beq a b))=G:=by
  cases H:Nat.beq a b with
  |true=>exact(h (iB H)).elim
  |false=>rfl
theorem QL{z x y w i j cy cm:Nat}{P t ty tm:es}(o:m[z]?=E ⟨.ws .u64 F,P⟩)(r:m[x]?=E ⟨.ws .u64 H,t⟩)(g:m[y]?=E ⟨.ws .u64 ys,ty⟩)(C:m[w]?=E ⟨.ws .u64 ms,tm⟩)(l:x≠w)(a:y≠w)(c:x≠z)(v:y≠z)(S:w≠z)(q:ek m.length m=G)(s:2*n<=j)(f:2*n<=F.length)(u:dG F)(h:As n n n (n:Int) k (x,0) (y,0) (w,0) H ys ms=G):
    LL [.s (E (z,0)) i j,.s (E (x,0)) n R,.s (E (y,0)) n cy,.s (E (w,0)) n cm,.i .u64 k,.i .i64 (n:Int)] m=E (.s (E (z,0)) n j,m.set z ⟨.ws .u64 (oO n k H ys ms F),P⟩,G):=by
  have e:(D (True/\2*n<=j/\2*n<=F.length/\dG F))=G:=fG ⟨dD,s,f,u⟩;simp only[LL,o,r,g,C,h,nbf l,nbf a,nbf c,nbf v,nbf S,q];rw[e];rfl
theorem Oz(h:2*n<=F.length):(oO n k H ys ms F).length=F.length:=by unfold oO;exact HP h
def rX(q:dE)(cl:Nat->Nat)(n R S:Nat)(a:Int)(m:dE):Prop:=
  ∃y u w T c,m=q++y/\y.length=2/\m[R]?=E ⟨.ws .u64 u,T⟩/\m[S]?=E ⟨.ws .u64 w,c⟩/\tS n u a/\2*n<=w.length/\dG w/\ek m.length m=G/\u.length=cl R/\w.length=cl S
section
variable{n L cy cm cp:Nat}{k M:Int}{ms ys on:List Int}{tm ty to:es}{x2 x3 x4 x5 x6 x7 x8 x9 x10:dI}{rest0:dE}{cl:Nat->Nat}{pv:Nat->Int}{b:Nat}{Q:V->dE->Prop}
  (hl0:rest0.length=16)(h1:1<=n)(h2:n<100000)(hm:kV n ms M)(hM:0<M)(hk:(ms.getD 0 0*k+1)%18446744073709551616=0)(ho:kV n on 1)(hpd: ∀d,d<16-> ∃p tp,rest0[d]?=E ⟨.ws .u64 p,tp⟩/\tS n p (pv d))
include hl0 h1 h2 hm hM hk ho hpd
theorem vC{ca P cv y:Nat}{a v:Int}{m:dE}(hA:29<=R)(hB:29<=S)(aa:S<31)(C:R≠S)(q:2*n<=P):letI b:dE:=⟨.ws .u64 ms,tm⟩::⟨.ws .u64 ys,ty⟩::x2::x3::x4::x5::x6::x7::x8::x9::x10::⟨.ws .u64 on,to⟩::⟨.lit [.s (E (13,0)) n cp,.s (E (14,0)) n cp,.s (E (15,0)) n cp,.s (E (16,0)) n cp,.s (E (17,0)) n cp,.s (E (18,0)) n cp,.s (E (19,0)) n cp,.s (E (20,0)) n cp,.s (E (21,0)) n cp,.s (E (22,0)) n cp,.s (E (23,0)) n cp,.s (E (24,0)) n cp,.s (E (25,0)) n cp,.s (E (26,0)) n cp,.s (E (27,0)) n cp,.s (E (28,0)) n cp],242⟩::rest0;∀(h:rX b cl n R S a m)(hy: ∃j tr,m[y]?=E ⟨.ws .u64 j,tr⟩/\kV n j v)(s:y≠S)(t:y≠0),eM B g0 205 [.s (E (S,0)) n P,.s (E (R,0)) n ca,.s (E (y,0)) n cv,.s (E (0,0)) n cm,.i .u64 k,.i .i64 (n:Int)] m (λr m'=>r= .s (E (S,0)) n P/\rX b cl n S R (pB n M k a v) m'):=by
  intro h hy s t;obtain⟨tl,u,Br,ta,tb,rfl,F,H,l,x,f,z,g,c,i⟩:=h;obtain⟨j,tr,o,ry⟩:=hy;have e:=QL (n:=n) (i:=n) (j:=P) (R:=ca) (cy:=cv) (cm:=cm) (k:=k) l H o (w:=0) (ms:=ms) (tm:=tm) K O t C s O g q f z (yx x.one ry hm hM h1 h2 hk);refine((Sr g0).Zb e).mono ?_;rintro r m'⟨rfl,rfl⟩;have T:(⟨.ws .u64 ms,tm⟩::⟨.ws .u64 ys,ty⟩::x2::x3::x4::x5::x6::x7::x8::x9::x10::⟨.ws .u64 on,to⟩::⟨.lit [.s (E (13,0)) n cp,.s (E (14,0)) n cp,.s (E (15,0)) n cp,.s (E (16,0)) n cp,.s (E (17,0)) n cp,.s (E (18,0)) n cp,.s (E (19,0)) n cp,.s (E (20,0)) n cp,.s (E (21,0)) n cp,.s (E (22,0)) n cp,.s (E (23,0)) n cp,.s (E (24,0)) n cp,.s (E (25,0)) n cp,.s (E (26,0)) n cp,.s (E (27,0)) n cp,.s (E (28,0)) n cp],242⟩::rest0).length=29:=by simp[hl0]
  refine⟨K,tl.set (S-29) ⟨.ws .u64 (oO n k u j ms Br),tb⟩,oO n k u j ms Br,u,tb,ta,?_,by rw[gU];exact F,?_,?_,rV x.one ry hm hM f z,x.1,x.2.1,?_,by rw[Oz f];exact i,c⟩
  .rw [wT _ _ O,T]
  .rw [qj (by rw[gw,T];omega)]
  .rw [lI (ra C)];exact H
  .rw [gU];exact E0 g K
theorem aEj(h:rX (⟨.ws .u64 ms,tm⟩::⟨.ws .u64 ys,ty⟩::x2::x3::x4::x5::x6::x7::x8::x9::x10::⟨.ws .u64 on,to⟩::⟨.lit [.s (E (13,0)) n cp,.s (E (14,0)) n cp,.s (E (15,0)) n cp,.s (E (16,0)) n cp,.s (E (17,0)) n cp,.s (E (18,0)) n cp,.s (E (19,0)) n cp,.s (E (20,0)) n cp,.s (E (21,0)) n cp,.s (E (22,0)) n cp,.s (E (23,0)) n cp,.s (E (24,0)) n cp,.s (E (25,0)) n cp,.s (E (26,0)) n cp,.s (E (27,0)) n cp,.s (E (28,0)) n cp],242⟩::rest0) cl n R S a m){d:Nat}(z:d<16): ∃j s,m[13+d]?=E ⟨.ws .u64 j,s⟩/\kV n j (pv d):=by obtain⟨y,u,w,T,e,rfl,F,H,l,x,f,P,q,c,i⟩:=h;obtain⟨p,tp,g,r⟩:=hpd d z;refine⟨p,tp,?_,r.one⟩;rw[oF (by simp[hl0];omega),mE];exact g
end
theorem nN:eo B 205:=ga f205
section
variable{n L cy cm cp:Nat}{k M:Int}{ms ys on:List Int}{tm ty to:es}{x2 x3 x4 x5 x6 x7 x8 x9 x10:dI}{rest0:dE}{cl:Nat->Nat}{pv:Nat->Int}{b:Nat}{Q:V->dE->Prop}
  (hl0:rest0.length=16)(h1:1<=n)(h2:n<100000)(hm:kV n ms M)(hM:0<M)(hk:(ms.getD 0 0*k+1)%18446744073709551616=0)(ho:kV n on 1)(hpd: ∀d,d<16-> ∃p tp,rest0[d]?=E ⟨.ws .u64 p,tp⟩/\tS n p (pv d))
include hl0 h1 h2 hm hM hk ho hpd
theorem I4{H P:Nat}{a i l j:Int}{m:dE}(hb:b<=29)(hA:29<=R)(hB:29<=S)(o:R<31)(v:S<31)(C:R≠S)(q:2*n<=P):letI c:dE:=⟨.ws .u64 ms,tm⟩::⟨.ws .u64 ys,ty⟩::x2::x3::x4::x5::x6::x7::x8::x9::x10::⟨.ws .u64 on,to⟩::⟨.lit [.s (E (13,0)) n cp,.s (E (14,0)) n cp,.s (E (15,0)) n cp,.s (E (16,0)) n cp,.s (E (17,0)) n cp,.s (E (18,0)) n cp,.s (E (19,0)) n cp,.s (E (20,0)) n cp,.s (E (21,0)) n cp,.s (E (22,0)) n cp,.s (E (23,0)) n cp,.s (E (24,0)) n cp,.s (E (25,0)) n cp,.s (E (26,0)) n cp,.s (E (27,0)) n cp,.s (E (28,0)) n cp],242⟩::rest0;letI d:V:= .s (E (S,0)) n P;letI e:V:= .s (E (R,0)) n H;letI f:Int:=1152921504606846976;∀(h:rX c cl n R S a m)(t:0<=l)(g:l<18446744073709551616)(next: ∀u,rX c cl n S R (pB n M k a (pv (l/f).toNat)) u->
      Ev B (ep g0 [] []) 193 f193.ntmps b [] SM [(0,d),(3,.s (E (1,0)) L cy),(4,.s (E (0,0)) n cm),(11,.i .i64 (n:Int)),(13,.i .u64 k),(17,e),(18,.s (E (11,0)) n n),(19,.p (E (12,0))),(21,.i .i64 i),(22,.i .u64 (U.u64.wrap (l*16))),(23,.i .i64 (U.i64.wrap (j+4)))] u Q),Ev B (ep g0 [] []) 193 f193.ntmps b [] (dF 47 5 (dB f193) []) [(0,e),(3,.s (E (1,0)) L cy),(4,.s (E (0,0)) n cm),(11,.i .i64 (n:Int)),(13,.i .u64 k),(17,d),(18,.s (E (11,0)) n n),(19,.p (E (12,0))),(21,.i .i64 i),(22,.i .u64 l),(23,.i .i64 j),(197,d),(198,e),(201,.p (E (12,(l.fdiv f).toNat)))] m Q:=by
  intro h t g next;have w:l.fdiv 1152921504606846976=l/1152921504606846976:=kB _ J;rw[w];have z:(l/1152921504606846976).toNat<16:=O;generalize(l/1152921504606846976).toNat=d at z next⊢;have x:=vC (ca:=H) (cv:=cp) (cm:=cm) hl0 h1 h2 hm hM hk ho hpd hA hB v C q h (aEj hl0 h1 h2 hm hM hk ho hpd h z) O O;have aa:29<=m.length:=by obtain⟨y,_,_,_,_,rfl,F,_⟩:=h;simp[hl0]
  have s:m.length=31:=by obtain⟨y,_,_,_,_,rfl,F,_⟩:=h;simp[hl0,F]
  have fin: ∀(r:V)(u:dE),(r= .s (E (S,0)) n P/\rX (⟨.ws .u64 ms,tm⟩::⟨.ws .u64 ys,ty⟩::x2::x3::x4::x5::x6::x7::x8::x9::x10::⟨.ws .u64 on,to⟩::⟨.lit [.s (E (13,0)) n cp,.s (E (14,0)) n cp,.s (E (15,0)) n cp,.s (E (16,0)) n cp,.s (E (17,0)) n cp,.s (E (18,0)) n cp,.s (E (19,0)) n cp,.s (E (20,0)) n cp,.s (E (21,0)) n cp,.s (E (22,0)) n cp,.s (E (23,0)) n cp,.s (E (24,0)) n cp,.s (E (25,0)) n cp,.s (E (26,0)) n cp,.s (E (27,0)) n cp,.s (E (28,0)) n cp],242⟩::rest0) cl n S R (pB n M k a (pv d)) u)-> ∃T,fA f193.ntmps [(0,.s (E (R,0)) n H),(3,.s (E (1,0)) L cy),(4,.s (E (0,0)) n cm),(11,.i .i64 (n:Int)),(13,.i .u64 k),(17,.s (E (S,0)) n P),(18,.s (E (11,0)) n n),(19,.p (E (12,0))),(21,.i .i64 i),(22,.i .u64 l),(23,.i .i64 j),(197,.s (E (S,0)) n P),(198,.s (E (R,0)) n H),(202,.s (E (13+d,0)) n cp),(203,.s (E (0,0)) n cm),(204,.i .u64 k),(205,.i .i64 (n:Int))] (E 206) r=E T/\Ev B (ep g0 [] []) 193 f193.ntmps b [] (dF 47 10 (dB f193) []) T u Q:=by rintro r u⟨rfl,hh⟩;refine⟨_,K,?_⟩;refine Ev.fq [0,3,4,11,13,17,18,19,21,22,23,206] ?_;exact fa lP (aIl n L H P cy cm R S k i l j u) K K (next u hh)
  obtain⟨y,Ar,Br,ta,tb,rfl,_⟩:=h;exact dY lP (rl_ n L H P cy cm R S cp k i l j _ _ _ _ _ _ _ _ _ _ _ _ (rest0++y) d z) K K K nN x (by show fZ ((⟨.ws .u64 ms,tm⟩::⟨.ws .u64 ys,ty⟩::x2::x3::x4::x5::x6::x7::x8::x9::x10::⟨.ws .u64 on,to⟩::⟨.lit [.s (E (13,0)) n cp,.s (E (14,0)) n cp,.s (E (15,0)) n cp,.s (E (16,0)) n cp,.s (E (17,0)) n cp,.s (E (18,0)) n cp,.s (E (19,0)) n cp,.s (E (20,0)) n cp,.s (E (21,0)) n cp,.s (E (22,0)) n cp,.s (E (23,0)) n cp,.s (E (24,0)) n cp,.s (E (25,0)) n cp,.s (E (26,0)) n cp,.s (E (27,0)) n cp,.s (E (28,0)) n cp],242⟩::rest0)++y).length _=G;rw[s];simp[fZ,V.wf,tQ,o,v];omega) λr u hq _=>fin r u hq
end
def sq4(n:Nat)(M k a:Int):Int:=
  pB n M k (pB n M k (pB n M k (pB n M k a a) (pB n M k a a)) (pB n M k (pB n M k a a) (pB n M k a a))) (pB n M k (pB n M k (pB n M k a a) (pB n M k a a)) (pB n M k (pB n M k a a) (pB n M k a a)))
def rnd(n:Nat)(M k:Int)(pv:Nat->Int)(a:Int)(d:Nat):Int:=pB n M k (sq4 n M k a) (pv d)
def xr:Nat->Int->List Nat
  |0,_=>[]
  |r+1,y=>(y/1152921504606846976).toNat::xr r (y*16%18446744073709551616)
def Gf(n:Nat)(M k:Int)(pv:Nat->Int)(ys:List Int):Nat->Int->Int
  |0,a=>a
  |r+1,a=>Gf n M k pv ys r ((xr 16 (ys.getD r 0)).foldl (rnd n M k pv) a)
theorem ada{g m T:Int}(h1:g=pB n M k a a)(h2:m=pB n M k g g)(l:T=pB n M k m m):sq4 n M k a=pB n M k T T:=by subst l;subst h2;subst h1;rfl
theorem qz{cl:Nat->Nat}{cp:Nat}{on:List Int}{tm ty to:es}{x2 x3 x4 x5 x6 x7 x8 x9 x10:dI}{rest0:dE}(hl0:rest0.length=16)(h:rX (⟨.ws .u64 ms,tm⟩::⟨.ws .u64 ys,ty⟩::x2::x3::x4::x5::x6::x7::x8::x9::x10::⟨.ws .u64 on,to⟩::⟨.lit [.s (E (13,0)) n cp,.s (E (14,0)) n cp,.s (E (15,0)) n cp,.s (E (16,0)) n cp,.s (E (17,0)) n cp,.s (E (18,0)) n cp,.s (E (19,0)) n cp,.s (E (20,0)) n cp,.s (E (21,0)) n cp,.s (E (22,0)) n cp,.s (E (23,0)) n cp,.s (E (24,0)) n cp,.s (E (25,0)) n cp,.s (E (26,0)) n cp,.s (E (27,0)) n cp,.s (E (28,0)) n cp],242⟩::rest0) cl n R S a m):m.length=31:=by obtain⟨y,_,_,_,_,rfl,F,_⟩:=h;simp[hl0,F]
theorem xX{cl:Nat->Nat}{q:dE}(h:rX q cl n R S a m): ∃j s,m[R]?=E ⟨.ws .u64 j,s⟩/\kV n j a:=by obtain⟨y,u,_,T,_,rfl,F,H,_,x,_⟩:=h;exact⟨u,T,H,x.one⟩
section
variable{n L cy cm cp:Nat}{k M:Int}{ms ys on:List Int}{tm ty to:es}{x2 x3 x4 x5 x6 x7 x8 x9 x10:dI}{rest0:dE}{cl:Nat->Nat}{pv:Nat->Int}{b:Nat}{Q:V->dE->Prop}
  (hl0:rest0.length=16)(h1:1<=n)(h2:n<100000)(hm:kV n ms M)(hM:0<M)(hk:(ms.getD 0 0*k+1)%18446744073709551616=0)(ho:kV n on 1)(hpd: ∀d,d<16-> ∃p tp,rest0[d]?=E ⟨.ws .u64 p,tp⟩/\tS n p (pv d))(hcl: ∀i,2*n<=cl i)
include hl0 h1 h2 hm hM hk ho hpd hcl
theorem aCz{a i l j:Int}{m:dE}(hb:b<=29)(T:29<=R)(w:29<=S)(o:R<31)(z:S<31)(C:R≠S):letI c:dE:=⟨.ws .u64 ms,tm⟩::⟨.ws .u64 ys,ty⟩::x2::x3::x4::x5::x6::x7::x8::x9::x10::⟨.ws .u64 on,to⟩::⟨.lit [.s (E (13,0)) n cp,.s (E (14,0)) n cp,.s (E (15,0)) n cp,.s (E (16,0)) n cp,.s (E (17,0)) n cp,.s (E (18,0)) n cp,.s (E (19,0)) n cp,.s (E (20,0)) n cp,.s (E (21,0)) n cp,.s (E (22,0)) n cp,.s (E (23,0)) n cp,.s (E (24,0)) n cp,.s (E (25,0)) n cp,.s (E (26,0)) n cp,.s (E (27,0)) n cp,.s (E (28,0)) n cp],242⟩::rest0;letI d:V:= .s (E (S,0)) n (cl S);letI e:V:= .s (E (R,0)) n (cl R);∀(h:rX c cl n R S a m)(t:0<=l)(g:l<18446744073709551616)(hj:j<64)(hL:L<100000)(f:i≠(L:Int)-1∨j≠0)(next: ∀u,rX c cl n S R (rnd n M k pv a (l/1152921504606846976).toNat) u->
      Ev B (ep g0 [] []) 193 f193.ntmps b [] SM [(0,d),(3,.s (E (1,0)) L cy),(4,.s (E (0,0)) n cm),(11,.i .i64 (n:Int)),(13,.i .u64 k),(17,e),(18,.s (E (11,0)) n n),(19,.p (E (12,0))),(21,.i .i64 i),(22,.i .u64 (U.u64.wrap (l*16))),(23,.i .i64 (U.i64.wrap (j+4)))] u Q),Ev B (ep g0 [] []) 193 f193.ntmps b [] SM [(0,e),(3,.s (E (1,0)) L cy),(4,.s (E (0,0)) n cm),(11,.i .i64 (n:Int)),(13,.i .u64 k),(17,d),(18,.s (E (11,0)) n n),(19,.p (E (12,0))),(21,.i .i64 i),(22,.i .u64 l),(23,.i .i64 j)] m Q:=by
  intro h t g hj hL f next;have iL:U.i64.wrap ((L:Int)-1)=(L:Int)-1:=iy O;obtain⟨H,e1⟩: ∃s,s=pB n M k a a:=⟨_,K⟩
  obtain⟨s2,e2⟩: ∃s,s=pB n M k H H:=⟨_,K⟩
  obtain⟨s3,e3⟩: ∃s,s=pB n M k s2 s2:=⟨_,K⟩
  have y: ∀(r:V)(q:dE),(r= .s (E (S,0)) n (cl S)/\rX (⟨.ws .u64 ms,tm⟩::⟨.ws .u64 ys,ty⟩::x2::x3::x4::x5::x6::x7::x8::x9::x10::⟨.ws .u64 on,to⟩::⟨.lit [.s (E (13,0)) n cp,.s (E (14,0)) n cp,.s (E (15,0)) n cp,.s (E (16,0)) n cp,.s (E (17,0)) n cp,.s (E (18,0)) n cp,.s (E (19,0)) n cp,.s (E (20,0)) n cp,.s (E (21,0)) n cp,.s (E (22,0)) n cp,.s (E (23,0)) n cp,.s (E (24,0)) n cp,.s (E (25,0)) n cp,.s (E (26,0)) n cp,.s (E (27,0)) n cp,.s (E (28,0)) n cp],242⟩::rest0) cl n S R H q)-> ∃e',fA f193.ntmps [(0,.s (E (R,0)) n (cl R)),(3,.s (E (1,0)) L cy),(4,.s (E (0,0)) n cm),(11,.i .i64 (n:Int)),(13,.i .u64 k),(17,.s (E (S,0)) n (cl S)),(18,.s (E (11,0)) n n),(19,.p (E (12,0))),(21,.i .i64 i),(22,.i .u64 l),(23,.i .i64 j),(169,.s (E (S,0)) n (cl S)),(170,.s (E (R,0)) n (cl R)),(171,.s (E (R,0)) n (cl R)),(172,.s (E (0,0)) n cm),(173,.i .u64 k),(174,.i .i64 (n:Int))] (E 175) r=E e'/\
   Ev B (ep g0 [] []) 193 f193.ntmps b [] (dF 43 7 (dB f193) []) e' q Q:=by
    rintro r q⟨rfl,g1⟩;refine⟨_,K,?_⟩;refine Ev.fq [0,3,4,11,13,17,18,19,21,22,23,175] ?_
    refine dY lP (aAe n L (cl R) (cl S) cy cm R S k i l j q) K K K nN
      (vC (ca:=cl S) (cv:=cl S) (cm:=cm) hl0 h1 h2 hm hM hk ho hpd w T o (ra C) (hcl R) g1 (xX g1) (ra C) O) (by rw[qz hl0 g1];simp[fZ,V.wf,tQ,o,z]) ?_
    rintro r m2⟨rfl,v⟩_;rw[<-e2]at v;refine⟨_,K,?_⟩;refine Ev.fq [0,3,4,11,13,17,18,19,21,22,23,182] ?_
    refine dY lP (apb n L (cl R) (cl S) cy cm R S k i l j m2) K K K nN
      (vC (ca:=cl R) (cv:=cl R) (cm:=cm) hl0 h1 h2 hm hM hk ho hpd T w z C (hcl S) v (xX v) C O) (by rw[qz hl0 v];simp[fZ,V.wf,tQ,o,z]) ?_
    rintro r m3⟨rfl,F⟩_;rw[<-e3]at F;refine⟨_,K,?_⟩;refine Ev.fq [0,3,4,11,13,17,18,19,21,22,23,189] ?_
    refine dY lP (ayv n L (cl R) (cl S) cy cm R S k i l j m3) K K K nN
      (vC (ca:=cl S) (cv:=cl S) (cm:=cm) hl0 h1 h2 hm hM hk ho hpd w T o (ra C) (hcl R) F (xX F) (ra C) O) (by rw[qz hl0 F];simp[fZ,V.wf,tQ,o,z]) ?_
    rintro r m4⟨rfl,g4⟩_;rw[<-ada e1 e2 e3]at g4;refine⟨_,K,?_⟩;refine Ev.fq [0,3,4,11,13,17,18,19,21,22,23,196] ?_;refine fa lP (awx n L (cl R) (cl S) cy cm R S k i l j m4) ?_ K (I4 hl0 h1 h2 hm hM hk ho hpd hb T w o z C (hcl S) g4 t g next);have aa:l.fdiv 1152921504606846976=l/1152921504606846976:=kB _ J;rw[aa];simp only[dK,dJ,eu,ew,Nat.reduceAdd,Nat.reduceLT];omega
  have x:=vC (ca:=cl R) (cv:=cl R) (cm:=cm) hl0 h1 h2 hm hM hk ho hpd T w z C (hcl S) h (xX h) C O;rw[<-e1]at x;by_cases hi:i=(L:Int)-1
  .have ab:j≠0:=by
    rcases f with h|h
    .exact(h hi).elim
    .exact h
   refine dY lP (aze n L (cl R) (cl S) cy cm R S k i l j m) ?_ K K nN x (by rw[qz hl0 h];simp[fZ,V.wf,tQ,o,z]) λr u P _=>y r u P
   simp only[iL];simp only[dK,dJ,eu,ew,Nat.reduceAdd,Nat.reduceLT];omega
  .refine dY lP (asd n L (cl R) (cl S) cy cm R S k i l j m) ?_ K K nN x (by rw[qz hl0 h];simp[fZ,V.wf,tQ,o,z]) λr u P _=>y r u P
   simp only[iL];simp only[dK,dJ,eu,ew,Nat.reduceAdd,Nat.reduceLT];omega
theorem aGa{a l:Int}{m:dE}(H:b<=29)(T:29<=R)(w:29<=S)(o:R<31)(z:S<31)(C:R≠S):letI c:dE:=⟨.ws .u64 ms,tm⟩::⟨.ws .u64 ys,ty⟩::x2::x3::x4::x5::x6::x7::x8::x9::x10::⟨.ws .u64 on,to⟩::⟨.lit [.s (E (13,0)) n cp,.s (E (14,0)) n cp,.s (E (15,0)) n cp,.s (E (16,0)) n cp,.s (E (17,0)) n cp,.s (E (18,0)) n cp,.s (E (19,0)) n cp,.s (E (20,0)) n cp,.s (E (21,0)) n cp,.s (E (22,0)) n cp,.s (E (23,0)) n cp,.s (E (24,0)) n cp,.s (E (25,0)) n cp,.s (E (26,0)) n cp,.s (E (27,0)) n cp,.s (E (28,0)) n cp],242⟩::rest0;letI d:V:= .s (E (S,0)) n (cl S);letI e:V:= .s (E (R,0)) n (cl R);letI f:V:= .i .i64 ((L:Int)-1);∀(h:rX c cl n R S a m)(t:0<=l)(g:l<18446744073709551616)(q:L<100000)(next: ∀u,rX c cl n S R (pB n M k a (pv (l/1152921504606846976).toNat)) u->
      Ev B (ep g0 [] []) 193 f193.ntmps b [] SM [(0,d),(3,.s (E (1,0)) L cy),(4,.s (E (0,0)) n cm),(11,.i .i64 (n:Int)),(13,.i .u64 k),(17,e),(18,.s (E (11,0)) n n),(19,.p (E (12,0))),(21,f),(22,.i .u64 (U.u64.wrap (l*16))),(23,.i .i64 (U.i64.wrap (0+4)))] u Q),Ev B (ep g0 [] []) 193 f193.ntmps b [] SM [(0,e),(3,.s (E (1,0)) L cy),(4,.s (E (0,0)) n cm),(11,.i .i64 (n:Int)),(13,.i .u64 k),(17,d),(18,.s (E (11,0)) n n),(19,.p (E (12,0))),(21,f),(22,.i .u64 l),(23,.i .i64 0)] m Q:=by
  intro h t g q next;have j:U.i64.wrap ((L:Int)-1)=(L:Int)-1:=iy O;refine fa lP (aNt n L (cl R) (cl S) cy cm R S k ((L:Int)-1) l 0 m) ?_ K (I4 hl0 h1 h2 hm hM hk ho hpd H T w o z C (hcl S) h t g next);have s:l.fdiv 1152921504606846976=l/1152921504606846976:=kB _ J;rw[s,j];simp only[dK,dJ,eu,ew,Nat.reduceAdd,Nat.reduceLT];omega
theorem inner{i:Int}(H:b<=29)(q:L<100000)(g: -9223372036854775808<=i-1/\i-1<=9223372036854775807):letI c:dE:=⟨.ws .u64 ms,tm⟩::⟨.ws .u64 ys,ty⟩::x2::x3::x4::x5::x6::x7::x8::x9::x10::⟨.ws .u64 on,to⟩::⟨.lit [.s (E (13,0)) n cp,.s (E (14,0)) n cp,.s (E (15,0)) n cp,.s (E (16,0)) n cp,.s (E (17,0)) n cp,.s (E (18,0)) n cp,.s (E (19,0)) n cp,.s (E (20,0)) n cp,.s (E (21,0)) n cp,.s (E (22,0)) n cp,.s (E (23,0)) n cp,.s (E (24,0)) n cp,.s (E (25,0)) n cp,.s (E (26,0)) n cp,.s (E (27,0)) n cp,.s (E (28,0)) n cp],242⟩::rest0;∀(r:Nat)(R S:Nat)(a l:Int)(m:dE),29<=R->29<=S->R<31->S<31->R≠S->rX c cl n R S a m->
    0<=l->l<18446744073709551616->r<=16->(r<16∨i≠(L:Int)-1)->
    (∀(x s:Nat)(u:dE),29<=x->29<=s->x<31->s<31->x≠s->rX c cl n x s ((xr r l).foldl (rnd n M k pv) a) u->
     Ev B (ep g0 [] []) 193 f193.ntmps b [] UP [(0,.s (E (x,0)) n (cl x)),(3,.s (E (1,0)) L cy),(4,.s (E (0,0)) n cm),(11,.i .i64 (n:Int)),(13,.i .u64 k),(17,.s (E (s,0)) n (cl s)),(18,.s (E (11,0)) n n),(19,.p (E (12,0))),(21,.i .i64 (i-1))] u Q)->
    Ev B (ep g0 [] []) 193 f193.ntmps b [] SM [(0,.s (E (R,0)) n (cl R)),(3,.s (E (1,0)) L cy),(4,.s (E (0,0)) n cm),(11,.i .i64 (n:Int)),(13,.i .u64 k),(17,.s (E (S,0)) n (cl S)),(18,.s (E (11,0)) n n),(19,.p (E (12,0))),(21,.i .i64 i),(22,.i .u64 l),(23,.i .i64 (64-4*(r:Int)))] m Q:=by
  intro r
  induction r with
  |zero=>
   intro R S a l m T w o z C h _ _ _ _ next;have e:=aPf n L (cl R) (cl S) cy cm R S k i l m;rw[iy g]at e;exact fa lP e K K (next R S m T w o z C h)
  |succ r v=>
   intro R S a l m T w o z C h t f hr j next;refine aCz hl0 h1 h2 hm hM hk ho hpd hcl H T w o z C h t f O q O ?_;intro u F;have P:U.i64.wrap (64-4*((r+1:Nat):Int)+4)=64-4*(r:Int):=jw;have y:U.u64.wrap (l*16)=l*16%18446744073709551616:=K;rw[P,y];refine v S R _ _ u w T z o (ra C) F (j7 _ J) (j6 _ J) O O ?_;exact next
theorem outer(H:b<=29)(q:L<100000)(l:L<=ys.length)(j:dG ys):letI c:dE:=⟨.ws .u64 ms,tm⟩::⟨.ws .u64 ys,ty⟩::x2::x3::x4::x5::x6::x7::x8::x9::x10::⟨.ws .u64 on,to⟩::⟨.lit [.s (E (13,0)) n cp,.s (E (14,0)) n cp,.s (E (15,0)) n cp,.s (E (16,0)) n cp,.s (E (17,0)) n cp,.s (E (18,0)) n cp,.s (E (19,0)) n cp,.s (E (20,0)) n cp,.s (E (21,0)) n cp,.s (E (22,0)) n cp,.s (E (23,0)) n cp,.s (E (24,0)) n cp,.s (E (25,0)) n cp,.s (E (26,0)) n cp,.s (E (27,0)) n cp,.s (E (28,0)) n cp],242⟩::rest0;∀(r:Nat)(R S:Nat)(a:Int)(m:dE),29<=R->29<=S->R<31->S<31->R≠S->rX c cl n R S a m->r<L->
    (∀(x s:Nat)(u:dE),29<=x->29<=s->x<31->s<31->x≠s->rX c cl n x s (Gf n M k pv ys r a) u->
     Ev B (ep g0 [] []) 193 f193.ntmps b [] UP [(0,.s (E (x,0)) n (cl x)),(3,.s (E (1,0)) L cy),(4,.s (E (0,0)) n cm),(11,.i .i64 (n:Int)),(13,.i .u64 k),(17,.s (E (s,0)) n (cl s)),(18,.s (E (11,0)) n n),(19,.p (E (12,0))),(21,.i .i64 (-1))] u Q)->
    Ev B (ep g0 [] []) 193 f193.ntmps b [] UP [(0,.s (E (R,0)) n (cl R)),(3,.s (E (1,0)) L cy),(4,.s (E (0,0)) n cm),(11,.i .i64 (n:Int)),(13,.i .u64 k),(17,.s (E (S,0)) n (cl S)),(18,.s (E (11,0)) n n),(19,.p (E (12,0))),(21,.i .i64 ((r:Int)-1))] m Q:=by
  intro r
  induction r with
  |zero=>
   intro R S a m T w o z C h _ next;exact next R S m T w o z C h
  |succ r v=>
   intro R S a m T w o z C h hr next;rw[(O:((r+1:Nat):Int)-1=(r:Int))];have P:=h;obtain⟨y,_,_,_,_,rfl,_⟩:=P;have e:=Zg n L (cl R) (cl S) cy cm R S r k ys ty ⟨.ws .u64 ms,tm⟩ (x2::x3::x4::x5::x6::x7::x8::x9::x10::⟨.ws .u64 on,to⟩::⟨.lit [.s (E (13,0)) n cp,.s (E (14,0)) n cp,.s (E (15,0)) n cp,.s (E (16,0)) n cp,.s (E (17,0)) n cp,.s (E (18,0)) n cp,.s (E (19,0)) n cp,.s (E (20,0)) n cp,.s (E (21,0)) n cp,.s (E (22,0)) n cp,.s (E (23,0)) n cp,.s (E (24,0)) n cp,.s (E (25,0)) n cp,.s (E (26,0)) n cp,.s (E (27,0)) n cp,.s (E (28,0)) n cp],242⟩::(rest0++y));simp only[dU]at e;have F:=eg j r;refine fa lP e (by simp only[dK,dJ,eu,ew,Nat.reduceAdd,Nat.reduceLT];omega) K ?_;exact inner hl0 h1 h2 hm hM hk ho hpd hcl H q O 16 R S a _ _ T w o z C h F.1 F.2 (eT _) O λx s u g1 g2 g3 t g f=>v x s _ u g1 g2 g3 t g f O next
theorem rounds{a:Int}{m:dE}(H:b<=29)(v:0<L)(q:L<100000)(l:L<=ys.length)(j:dG ys)(T:29<=R)(w:29<=S)(o:R<31)(z:S<31)(C:R≠S):letI c:dE:=⟨.ws .u64 ms,tm⟩::⟨.ws .u64 ys,ty⟩::x2::x3::x4::x5::x6::x7::x8::x9::x10::⟨.ws .u64 on,to⟩::⟨.lit [.s (E (13,0)) n cp,.s (E (14,0)) n cp,.s (E (15,0)) n cp,.s (E (16,0)) n cp,.s (E (17,0)) n cp,.s (E (18,0)) n cp,.s (E (19,0)) n cp,.s (E (20,0)) n cp,.s (E (21,0)) n cp,.s (E (22,0)) n cp,.s (E (23,0)) n cp,.s (E (24,0)) n cp,.s (E (25,0)) n cp,.s (E (26,0)) n cp,.s (E (27,0)) n cp,.s (E (28,0)) n cp],242⟩::rest0;∀(h:rX c cl n R S a m)(next: ∀(x s:Nat)(u:dE),29<=x->29<=s->x<31->s<31->x≠s->
      rX c cl n x s (Gf n M k pv ys (L-1) ((xr 15 (ys.getD (L-1) 0*16%18446744073709551616)).foldl (rnd n M k pv) (pB n M k a (pv (ys.getD (L-1) 0/1152921504606846976).toNat)))) u->
      Ev B (ep g0 [] []) 193 f193.ntmps b [] UP [(0,.s (E (x,0)) n (cl x)),(3,.s (E (1,0)) L cy),(4,.s (E (0,0)) n cm),(11,.i .i64 (n:Int)),(13,.i .u64 k),(17,.s (E (s,0)) n (cl s)),(18,.s (E (11,0)) n n),(19,.p (E (12,0))),(21,.i .i64 (-1))] u Q),Ev B (ep g0 [] []) 193 f193.ntmps b [] UP [(0,.s (E (R,0)) n (cl R)),(3,.s (E (1,0)) L cy),(4,.s (E (0,0)) n cm),(11,.i .i64 (n:Int)),(13,.i .u64 k),(17,.s (E (S,0)) n (cl S)),(18,.s (E (11,0)) n n),(19,.p (E (12,0))),(21,.i .i64 ((L:Int)-1))] m Q:=by
  intro h next;have P:=h;obtain⟨y,_,_,_,_,rfl,_⟩:=P;have e:=Zg n L (cl R) (cl S) cy cm R S (L-1) k ys ty ⟨.ws .u64 ms,tm⟩ (x2::x3::x4::x5::x6::x7::x8::x9::x10::⟨.ws .u64 on,to⟩::⟨.lit [.s (E (13,0)) n cp,.s (E (14,0)) n cp,.s (E (15,0)) n cp,.s (E (16,0)) n cp,.s (E (17,0)) n cp,.s (E (18,0)) n cp,.s (E (19,0)) n cp,.s (E (20,0)) n cp,.s (E (21,0)) n cp,.s (E (22,0)) n cp,.s (E (23,0)) n cp,.s (E (24,0)) n cp,.s (E (25,0)) n cp,.s (E (26,0)) n cp,.s (E (27,0)) n cp,.s (E (28,0)) n cp],242⟩::(rest0++y));rw[(O:((L-1:Nat):Int)=(L:Int)-1)]at e;rw[(O:((L:Int)-1).toNat=L-1)]at e;have f:=eg j (L-1);refine fa lP e (by simp only[dK,dJ,eu,ew,Nat.reduceAdd,Nat.reduceLT];omega) K ?_;refine aGa hl0 h1 h2 hm hM hk ho hpd hcl H T w o z C h f.1 f.2 q ?_;intro u F;have e2:U.u64.wrap (ys.getD (L-1) 0*16)=ys.getD (L-1) 0*16%18446744073709551616:=K;rw[(J:U.i64.wrap (0+4)=64-4*((15:Nat):Int)),e2];refine inner hl0 h1 h2 hm hM hk ho hpd hcl H q O 15 S R _ _ u w T z o (ra C) F (j7 _ J) (j6 _ J) O O ?_;intro x s g g1 g2 g3 g4 t r;rw[(O:(L:Int)-1-1=((L-1:Nat):Int)-1)];exact outer hl0 h1 h2 hm hM hk ho hpd hcl H q l j (L-1) x s _ g g1 g2 g3 g4 t r O next
end
theorem Ev.aCd{P:Program}{C s:fw}{f:FuncId}{b:Nat}{l:Ds}{t:List Item}{e:eZ}{Q:V->dE->Prop}(T: ∀g,C.mw g=N)(h:Ev P C f n b l t e m Q):Ev P s f n b l t e m Q:=by intro q a w R H y j _ x z o;exact h q a w R H y j (λg i c=>by rw[T g]at c;cases c) x z o
theorem Qx:eo B 77:=ga f77
theorem O5:eo B 104:=ga f104
theorem adg{z x c y:Nat}{P t:es}(o:m[z]?=E ⟨.ws .u64 F,P⟩)(h:m[x]?=E ⟨.ws .u64 H,t⟩)(f:z≠x)(r:kV n F a)(S:kV n H M)(h2:n<100000)(q:ek m.length m=G)(g:a<M):
    YV [.s (E (z,0)) n c,.s (E (x,0)) n y] m=E (.i .i64 (-1),G):=by
  have e:(D (n<4294967296/\0+n<=F.length/\0+n<=H.length/\dG F/\dG H))=G:=fG ⟨O,by have:=r.1;omega,by have:=S.1;omega,r.2.1,S.2.1⟩;simp only[YV,o,h,nbf f,q,gh,r.2.2,S.2.2,zq,kT];rw[e];have:vA a M= -1:=by unfold vA;rw[if_pos g]
  rw[this];rfl
theorem Vz{z c:Nat}{P:es}(o:m[z]?=E ⟨.ws .u64 F,P⟩)(r:kV n F a)(h2:n<100000)(s:n<=c)(q:ek m.length m=G):
    PR [.s (E (z,0)) n c] m=E (.s (E (z,0)) (ib F n) c,G):=by
  have e:(D (n<4294967296/\0+n<=F.length/\n<=c))=G:=fG ⟨O,by have:=r.1;omega,s⟩;simp only[PR,o,q,ir]at e⊢;rw[e];rfl
section
variable{n L cy cm cp:Nat}{k M:Int}{ms ys on:List Int}{tm ty to:es}{x2 x3 x4 x5 x6 x7 x8 x9 x10:dI}{rest0:dE}{cl:Nat->Nat}{pv:Nat->Int}{b:Nat}{Q:V->dE->Prop}
  (hl0:rest0.length=16)(h1:1<=n)(h2:n<100000)(hm:kV n ms M)(hM:0<M)(hk:(ms.getD 0 0*k+1)%18446744073709551616=0)(ho:kV n on 1)(hpd: ∀d,d<16-> ∃p tp,rest0[d]?=E ⟨.ws .u64 p,tp⟩/\tS n p (pv d))(hcl: ∀i,2*n<=cl i)
include hl0 h1 h2 hm hM hk ho hpd hcl
theorem aeg{a:Int}{m:dE}(hb:b<=29)(hA:29<=R)(hB:29<=S)(f:R<31)(z:S<31)(C:R≠S):letI c:dE:=⟨.ws .u64 ms,tm⟩::⟨.ws .u64 ys,ty⟩::x2::x3::x4::x5::x6::x7::x8::x9::x10::⟨.ws .u64 on,to⟩::⟨.lit [.s (E (13,0)) n cp,.s (E (14,0)) n cp,.s (E (15,0)) n cp,.s (E (16,0)) n cp,.s (E (17,0)) n cp,.s (E (18,0)) n cp,.s (E (19,0)) n cp,.s (E (20,0)) n cp,.s (E (21,0)) n cp,.s (E (22,0)) n cp,.s (E (23,0)) n cp,.s (E (24,0)) n cp,.s (E (25,0)) n cp,.s (E (26,0)) n cp,.s (E (27,0)) n cp,.s (E (28,0)) n cp],242⟩::rest0;∀(h:rX c cl n R S a m)(H:pB n M k a 1<M)(o: ∀(u y:dE)(w:List Int)(e:es),u=c++y->ek u.length u=G->u.length=31->u[S]?=E ⟨.ws .u64 w,e⟩->tS n w (pB n M k a 1)->w.length=cl S->
      Ev B (ep g0 [] []) 193 f193.ntmps b [] (dF 55 2 (dB f193) []) [(238,.s (E (S,0)) (ib w n) (cl S))] u Q),Ev B (ep g0 [] []) 193 f193.ntmps b [] UP [(0,.s (E (R,0)) n (cl R)),(3,.s (E (1,0)) L cy),(4,.s (E (0,0)) n cm),(11,.i .i64 (n:Int)),(13,.i .u64 k),(17,.s (E (S,0)) n (cl S)),(18,.s (E (11,0)) n n),(19,.p (E (12,0))),(21,.i .i64 (-1))] m Q:=by
  intro h H o
  have g: ∃j s,m[11]?=E ⟨.ws .u64 j,s⟩/\kV n j 1:=by obtain⟨y,_,_,_,_,rfl,_⟩:=h;exact⟨on,to,K,ho⟩
  refine dY lP (aHx n L (cl R) (cl S) cy cm R S k m) K K K nN
    (vC (ca:=cl R) (cv:=n) (cm:=cm) hl0 h1 h2 hm hM hk ho hpd hA hB z C (hcl S) h g O O) (by rw[qz hl0 h];simp[fZ,V.wf,tQ,f,z]) ?_
  rintro r m1⟨rfl,v⟩_;refine⟨_,K,?_⟩;have t:=qz hl0 v;obtain⟨y,w,_,e,_,rfl,aa,l,_,P,_,_,q,T,_⟩:=v;refine Ev.fq [4,217] ?_
  refine dY lP (aKk n (cl S) cm S _) K K K Qx
    ((C7 _).Zb (adg l (x:=0) (H:=ms) (t:=tm) K O P.one hm h2 q H)) (by rw[t];simp[fZ,V.wf,tQ,z]) ?_
  rintro r F⟨rfl,rfl⟩_;refine⟨_,K,?_⟩;refine Ev.fq [17,220] ?_
  refine dY lP (aJd n (cl S) S (-1) _) K K K O5
    ((NV _).Zb (Vz l P.one h2 (by have:=hcl S;omega) q)) (by rw[t];simp[fZ,V.wf,tQ,z]) ?_
  rintro r F⟨rfl,rfl⟩_;refine⟨_,K,?_⟩;refine Ev.fq [238] ?_;exact o _ y w e K q t l P T
end
def yb(k:U)(l:List Int):(eH.ws k l).iQ=G:=rfl
def vJ(l:List V):(eH.lit l).iQ=G:=rfl
def sM:eH.dead.iQ=A:=rfl
def adk{cy cm lz cz l2 c2 b:Nat}{R x:Int}{xs zs rs P p0:List Int}{tm tx tz tr ab:es}{y sb tb qb:dI}{Q:V->dE->Prop}(h1:1<=n)(h2:n<100000)(hm:kV n ms M)(hM:0<M)(hk:(ms.getD 0 0*k+1)%18446744073709551616=0)(wy: ∀C,8<=C->mZ C y.c=G)(aa: ∀C,8<=C->mZ C sb.c=G)(S: ∀C,8<=C->mZ C tb.c=G)(wh: ∀C,8<=C->mZ C h.c=G)(wi: ∀C,8<=C->mZ C i.c=G)(wq: ∀C,8<=C->mZ C qb.c=G)(ac:tS n L (vS n M k R x 1)):letI a:Nat:=dM (2*n);letI d:V:= .s N 0 0;letI e:U:= .u64;letI f:dI:=⟨.ws e ((lc n 0).set 0 1),137⟩;letI g:dI:=⟨.ws e p0,137⟩;letI j:dI:=⟨.ws e L,137⟩;letI l:dI:=⟨.ws e ms,tm⟩;letI m:dI:=⟨.ws e xs,tx⟩;letI o:dI:=⟨.ws e zs,tz⟩;letI q:dI:=⟨.ws e rs,tr⟩;letI r:dI:=⟨.ws e P,ab⟩;letI t:=ep g0 Hg LR;letI u:V:= .s (E (5,0)) lz cz;letI v:V:= .s (E (9,0)) l2 c2;∀(hn: ∀p2 p3 p4 p5 p6 p7 p8 p9 H z T c s w:List Int,tS n p2 (vS n M k R x 2)->tS n p3 (vS n M k R x 3)->tS n p4 (vS n M k R x 4)->tS n p5 (vS n M k R x 5)->tS n p6 (vS n M k R x 6)->tS n p7 (vS n M k R x 7)->tS n p8 (vS n M k R x 8)->tS n p9 (vS n M k R x 9)->tS n H (vS n M k R x 10)->tS n z (vS n M k R x 11)->tS n T (vS n M k R x 12)->tS n c (vS n M k R x 13)->tS n s (vS n M k R x 14)->tS n w (vS n M k R x 15)->Ev B t 193 f193.ntmps b [] TP [(0,u),(3,.s (E (1,0)) n cy),(4,.s (E (0,0)) n cm),(11,.i .i64 (n:Int)),(13,.i e k),(17,v),(18,.s (E (11,0)) n n),(19,.p (E (12,0))),(20,.i .i64 16)] [l,y,m,sb,tb,o,h,i,q,r,qb,f,⟨.lit [.s (E (13,0)) n a,.s (E (14,0)) n a,.s (E (15,0)) n a,.s (E (16,0)) n a,.s (E (17,0)) n a,.s (E (18,0)) n a,.s (E (19,0)) n a,.s (E (20,0)) n a,.s (E (21,0)) n a,.s (E (22,0)) n a,.s (E (23,0)) n a,.s (E (24,0)) n a,.s (E (25,0)) n a,.s (E (26,0)) n a,.s (E (27,0)) n a,.s (E (28,0)) n a],242⟩,g,j,⟨.ws e p2,137⟩,⟨.ws e p3,137⟩,⟨.ws e p4,137⟩,⟨.ws e p5,137⟩,⟨.ws e p6,137⟩,⟨.ws e p7,137⟩,⟨.ws e p8,137⟩,⟨.ws e p9,137⟩,⟨.ws e H,137⟩,⟨.ws e z,137⟩,⟨.ws e T,137⟩,⟨.ws e c,137⟩,⟨.ws e s,137⟩,⟨.ws e w,137⟩] Q),Ev B t 193 f193.ntmps b [] TP [(0,u),(3,.s (E (1,0)) n cy),(4,.s (E (0,0)) n cm),(11,.i .i64 (n:Int)),(13,.i e k),(17,v),(18,.s (E (11,0)) n n),(19,.p (E (12,0))),(20,.i .i64 2)] [l,y,m,sb,tb,o,h,i,q,r,qb,f,⟨.lit [.s (E (13,0)) n a,.s (E (14,0)) n a,d,d,d,d,d,d,d,d,d,d,d,d,d,d],242⟩,g,j] Q:=by
  intro hn;refine apl (R:=R) (x:=x) h1 h2 hm hM hk wy aa S wh wi wq 14 0 K (λa=>bif Nat.beq a 0 then p0 else L) (λa ha hb=>by have e:a=1:=O;subst e;exact ac) λp e0 e1 F=>?_
  have e0:p 0=p0:=e0;have e1:p 1=L:=e1;subst e0 e1;exact hn (p 2) (p 3) (p 4) (p 5) (p 6) (p 7) (p 8) (p 9) (p 10) (p 11) (p 12) (p 13) (p 14) (p 15) (F 2 J J) (F 3 J J) (F 4 J J) (F 5 J J) (F 6 J J) (F 7 J J) (F 8 J J) (F 9 J J) (F 10 J J) (F 11 J J) (F 12 J J) (F 13 J J) (F 14 J J) (F 15 J J)
def yq(n:Nat)(M k R x:Int)(p:List Int):Int:=(pB n M k (Gf n M k (vS n M k R x) p (n-1) ((xr 15 (p.getD (n-1) 0*16%18446744073709551616)).foldl (rnd n M k (vS n M k R x)) (pB n M k (vS n M k R x 0) (vS n M k R x (p.getD (n-1) 0/1152921504606846976).toNat)))) 1)
def TJ{cx cy cm lz cz cr u l2 lq cq:Nat}{R x:Int}{rs t:List Int}{tm ty tx tz tr v:es}{P m:dI}{Q:V->dE->Prop}(h1:1<=n)(h2:n<100000)(hm:kV n L M)(hM:0<M)(hk:(L.getD 0 0*k+1)%18446744073709551616=0)(ab: ∀o,8<=o->mZ o P.c=G)(aa: ∀o,8<=o->mZ o m.c=G)(wh: ∀o,8<=o->mZ o h.c=G)(wi: ∀o,8<=o->mZ o i.c=G)(y:dI)(h' i':dI)(JA: ∀τ:Nat->Nat,(∀j,j<8->τ j=j)->P.iU τ=P/\m.iU τ=m/\h.iU τ=h/\i.iU τ=i)(ap:P.c.iQ=G)(ac:m.c.iQ=G)(sh:h.c.iQ=G)(ad:y.c.iQ=G)(aq:h'.c.iQ=G)(hR:kV n rs R)(hx:kV n H x)(aw:n<=ys.length)(ao:dG ys)(hz:2*n<=F.length)(ay:F.length=cz)(wz:dG F)(av:2*n<=t.length)(az:t.length=u)(an:dG t)(aF:l2<=u)(al: ∀S,(S=29∨S=30)->P=y.iU (sg [0,1,2,3,4,5,S,6,7] 31)/\h=h'.iU (sg [0,1,2,3,4,5,S,6,7] 31)/\(i'.c.iQ=G->i=i'.iU (sg [0,1,2,3,4,5,S,6,7] 31))/\m=m.iU (sg [0,1,2,3,4,5,S,6,7] 31)):letI a:U:= .u64;letI b:=yq n M k R x ys;letI d:dI:=⟨.ws a L,tm⟩;letI e:dI:=⟨.ws a ys,ty⟩;letI f:dI:=⟨.ws a H,tx⟩;∀(hV:b<M)(hQ: ∀(Rr:List Int)(tr:es),tS n Rr (b)->(Rr.length=cz∨Rr.length=u)->Q (.s (E (6,0)) (ib Rr n) Rr.length) [d,e,f,y,m,⟨.dead,0⟩,⟨.ws a Rr,tr⟩,h',i']),Ev B (ep g0 Hg LR) 193 f193.ntmps 6 [] (dF 18 5 (dB f193) []) [(0,.s (E (5,0)) lz cz),(2,.s (E (2,0)) n cx),(3,.s (E (1,0)) n cy),(4,.s (E (0,0)) n cm),(11,.i .i64 (n:Int)),(13,.i a k),(17,.s (E (9,0)) l2 u),(80,.t [.s (E (10,0)) lq cq,.s (E (8,0)) n cr])]
      [d,e,f,P,m,⟨.ws a F,tz⟩,h,i,⟨.ws a rs,tr⟩,⟨.ws a t,v⟩,⟨.dead,0⟩] Q:=by
  intro hV hQ;have e:=aMb n cx cy cm lz cz cr u l2 lq cq k L H F rs t tm tx tz tr v ⟨.ws .u64 ys,ty⟩ P m h i ⟨.dead,0⟩;simp only[dU]at e;have nn:D ((n:Int)<(n:Int))=A:=Y;refine fa (gK Gz (eP _)) e ?_ K ?_
  .have z0:0<(lc n (0:Int)).length:=by rw[fJ];omega
   have n0:(0:Int)<(n:Int):=O;simp only[yx (A9 h1) hR hm hM h1 h2 hk,yx hx hR hm hM h1 h2 hk,dX,fM,ek,nd,V.wf,tQ,iO,iv,bT,nn];have t1:mZ 14 (.lit (Ek.zero.set 0 (.s (E (13,0)) n (dM (2*n)))))=G:=I;have t2:mZ 13 (.lit Ek.zero)=G:=I;have t3: ∀o,mZ o .dead=G:=λ_=>rfl
   simp[ek,ab,aa,wh,wi,Kj,t1,t2,t3]
   all_goals first|omega|trivial|skip
  refine adk (R:=R) (x:=x) h1 h2 hm hM hk (λ_ _=>rfl) ab aa wh wi (λ_ _=>rfl) (rV hx hR hm hM mY.1 mY.2) ?_;intro p2 p3 p4 p5 p6 p7 p8 p9 p z T c s w r2 r3 r4 r5 r6 r7 r8 r9 ak aj ah ag af ae;have r0:tS n (oO n k ((lc n 0).set 0 1) rs L (lc (dM (2*n)) 0)) (vS n M k R x 0):=rV (A9 h1) hR hm hM mY.1 mY.2;have r1:tS n (oO n k H rs L (lc (dM (2*n)) 0)) (vS n M k R x 1):=rV hx hR hm hM mY.1 mY.2;generalize oO n k ((lc n 0).set 0 1) rs L (lc (dM (2*n)) 0)=r at r0⊢;generalize oO n k H rs L (lc (dM (2*n)) 0)=p1 at r1⊢;clear e;have e:=acf n cy cm lz cz l2 u k F t r tz v 137 ⟨.ws .u64 L,tm⟩ ⟨.ws .u64 ys,ty⟩ ⟨.ws .u64 H,tx⟩ P m h i ⟨.ws .u64 rs,tr⟩ ⟨.dead,0⟩ ⟨.ws .u64 ((lc n 0).set 0 1),137⟩ [⟨.ws .u64 p1,137⟩,⟨.ws .u64 p2,137⟩,⟨.ws .u64 p3,137⟩,⟨.ws .u64 p4,137⟩,⟨.ws .u64 p5,137⟩,⟨.ws .u64 p6,137⟩,⟨.ws .u64 p7,137⟩,⟨.ws .u64 p8,137⟩,⟨.ws .u64 p9,137⟩,⟨.ws .u64 p,137⟩,⟨.ws .u64 z,137⟩,⟨.ws .u64 T,137⟩,⟨.ws .u64 c,137⟩,⟨.ws .u64 s,137⟩,⟨.ws .u64 w,137⟩];have mm:Nat.min n n=n:=mo n;have i1:U.i64.wrap ((n:Int)-1)=(n:Int)-1:=iy O;simp only[dU,mm,i1,gh]at e;have ar:(r.take n).length=n:=by rw[gR];have:=r0.1;omega
  have zf:=front (F:=F) (R:=r.take n) O;rw[ar]at zf;have zl:(dC F (r.take n) 0).length=F.length:=fP O;have zw:dG (dC F (r.take n) 0):=eS wz (dS r0.2.1 n);refine fa (gK Gz (eP _)) e ?_ K ?_
  .have:=r0.1;simp only[dK,dJ,eu,ew,Nat.reduceAdd,Nat.reduceLT];omega
  generalize aE:dC F (r.take n) 0=zr at zf zl zw⊢;refine mU (C:=ep g0 [] []) (by simp only[mC]) ?_
  refine kL [0,1,2,3,4,5,6,7,8,9,10,11,12,13,14,15,16,17,18,19,20,21,22,23,24,25,26,27,28,5,9] [] [(0,.s (E (29,0)) n cz),(3,.s (E (1,0)) n cy),(4,.s (E (0,0)) n cm),(11,.i .i64 (n:Int)),(13,.i .u64 k),(17,.s (E (30,0)) n u),(18,.s (E (11,0)) n n),(19,.p (E (12,0))),(21,.i .i64 ((n:Int)-1))]
    ((⟨.ws .u64 L,tm⟩::⟨.ws .u64 ys,ty⟩::⟨.ws .u64 H,tx⟩::P::m::⟨.dead,0⟩::h::i::⟨.dead,0⟩::⟨.dead,0⟩::⟨.dead,0⟩::⟨.ws .u64 ((lc n 0).set 0 1),137⟩::⟨.lit [.s (E (13,0)) n (dM (2*n)),.s (E (14,0)) n (dM (2*n)),.s (E (15,0)) n (dM (2*n)),.s (E (16,0)) n (dM (2*n)),.s (E (17,0)) n (dM (2*n)),.s (E (18,0)) n (dM (2*n)),.s (E (19,0)) n (dM (2*n)),.s (E (20,0)) n (dM (2*n)),.s (E (21,0)) n (dM (2*n)),.s (E (22,0)) n (dM (2*n)),.s (E (23,0)) n (dM (2*n)),.s (E (24,0)) n (dM (2*n)),.s (E (25,0)) n (dM (2*n)),.s (E (26,0)) n (dM (2*n)),.s (E (27,0)) n (dM (2*n)),.s (E (28,0)) n (dM (2*n))],242⟩::[⟨.ws .u64 r,137⟩,⟨.ws .u64 p1,137⟩,⟨.ws .u64 p2,137⟩,⟨.ws .u64 p3,137⟩,⟨.ws .u64 p4,137⟩,⟨.ws .u64 p5,137⟩,⟨.ws .u64 p6,137⟩,⟨.ws .u64 p7,137⟩,⟨.ws .u64 p8,137⟩,⟨.ws .u64 p9,137⟩,⟨.ws .u64 p,137⟩,⟨.ws .u64 z,137⟩,⟨.ws .u64 T,137⟩,⟨.ws .u64 c,137⟩,⟨.ws .u64 s,137⟩,⟨.ws .u64 w,137⟩])++[⟨.ws .u64 zr,tz⟩,⟨.ws .u64 t,v⟩]) (λ_ _ h=>by cases h) K ?_ K ?_ K K ?_
  .obtain⟨q1,q2,q3,q4⟩:=JA (sg [0,1,2,3,4,5,6,7,8,9,10,11,12,13,14,15,16,17,18,19,20,21,22,23,24,25,26,27,28,5,9] 29) J;refine⟨λ_=>rfl,λ_=>rfl,λ_=>rfl,λ_=>kC E q1.symm,λ_=>kC E q2.symm,(λh=>by cases h),λ_=>kC E q3.symm,λ_=>kC E q4.symm,(λh=>by cases h),(λh=>by cases h),(λh=>by cases h),λ_=>rfl,λ_=>rfl,λ_=>rfl,λ_=>rfl,λ_=>rfl,λ_=>rfl,λ_=>rfl,λ_=>rfl,λ_=>rfl,λ_=>rfl,λ_=>rfl,λ_=>rfl,λ_=>rfl,λ_=>rfl,λ_=>rfl,λ_=>rfl,λ_=>rfl,λ_=>rfl,λ_=>rfl,λ_=>rfl,dD⟩
  .simp only[ym,sP,mH,yb,vJ,sM,ap,ac,sh,gq,gr];cases i.c.iQ<;>decide
  refine rounds (tm:=tm) (ty:=ty) (to:=137) (cp:=dM (2*n)) (x2:=⟨.ws .u64 H,tx⟩) (x3:=P) (x4:=m) (x5:=⟨.dead,0⟩) (x6:=h) (x7:=i) (x8:=⟨.dead,0⟩) (x9:=⟨.dead,0⟩) (x10:=⟨.dead,0⟩) (cl:=λj=>bif Nat.beq j 29 then cz else u) (pv:=vS n M k R x) (R:=29) (S:=30) (a:=vS n M k R x 0) (rest0:=[⟨.ws .u64 r,137⟩,⟨.ws .u64 p1,137⟩,⟨.ws .u64 p2,137⟩,⟨.ws .u64 p3,137⟩,⟨.ws .u64 p4,137⟩,⟨.ws .u64 p5,137⟩,⟨.ws .u64 p6,137⟩,⟨.ws .u64 p7,137⟩,⟨.ws .u64 p8,137⟩,⟨.ws .u64 p9,137⟩,⟨.ws .u64 p,137⟩,⟨.ws .u64 z,137⟩,⟨.ws .u64 T,137⟩,⟨.ws .u64 c,137⟩,⟨.ws .u64 s,137⟩,⟨.ws .u64 w,137⟩]) K h1 h2 hm hM hk (A9 h1) ?_ ?_ O O h2 aw ao O O O O O ?_ ?_
  .intro d hd;rcases(O:d=0∨d=1∨d=2∨d=3∨d=4∨d=5∨d=6∨d=7∨d=8∨d=9∨d=10∨d=11∨d=12∨d=13∨d=14∨d=15)with rfl|rfl|rfl|rfl|rfl|rfl|rfl|rfl|rfl|rfl|rfl|rfl|rfl|rfl|rfl|rfl
   .exact⟨r,137,K,r0⟩
   .exact⟨p1,137,K,r1⟩
   .exact⟨p2,137,K,r2⟩
   .exact⟨p3,137,K,r3⟩
   .exact⟨p4,137,K,r4⟩
   .exact⟨p5,137,K,r5⟩
   .exact⟨p6,137,K,r6⟩
   .exact⟨p7,137,K,r7⟩
   .exact⟨p8,137,K,r8⟩
   .exact⟨p9,137,K,r9⟩
   .exact⟨p,137,K,ak⟩
   .exact⟨z,137,K,aj⟩
   .exact⟨T,137,K,ah⟩
   .exact⟨c,137,K,ag⟩
   .exact⟨s,137,K,af⟩
   .exact⟨w,137,K,ae⟩
  .intro j;cases Nat.beq j 29 with
   |true=>simp only[gq];omega
   |false=>simp only[gr];omega
  .refine⟨[⟨.ws .u64 zr,tz⟩,⟨.ws .u64 t,v⟩],zr,t,tz,v,K,K,K,K,⟨O,zw,by rw[zf];exact r0.2.2⟩,av,an,?_,by rw[zl];exact ay,az⟩;have t3: ∀o,mZ o .dead=G:=λ_=>rfl
   have w8: ∀l:List V,mZ 31 (.lit l)=nd 31 l:=λ_=>rfl
   simp only[ym,sP,eI,fb];simp[ek,ab,aa,wh,wi,Kj,w8,t3,nd,V.wf,tQ]
  intro g S m' hA hB aD aB aC hH;refine aeg (tm:=tm) (ty:=ty) (to:=137) (cp:=dM (2*n)) (x2:=⟨.ws .u64 H,tx⟩) (x3:=P) (x4:=m) (x5:=⟨.dead,0⟩) (x6:=h) (x7:=i) (x8:=⟨.dead,0⟩) (x9:=⟨.dead,0⟩) (x10:=⟨.dead,0⟩) (pv:=vS n M k R x) (b:=6) (rest0:=[⟨.ws .u64 r,137⟩,⟨.ws .u64 p1,137⟩,⟨.ws .u64 p2,137⟩,⟨.ws .u64 p3,137⟩,⟨.ws .u64 p4,137⟩,⟨.ws .u64 p5,137⟩,⟨.ws .u64 p6,137⟩,⟨.ws .u64 p7,137⟩,⟨.ws .u64 p8,137⟩,⟨.ws .u64 p9,137⟩,⟨.ws .u64 p,137⟩,⟨.ws .u64 z,137⟩,⟨.ws .u64 T,137⟩,⟨.ws .u64 c,137⟩,⟨.ws .u64 s,137⟩,⟨.ws .u64 w,137⟩]) K h1 h2 hm hM hk (A9 h1) ?_ ?_ O hA hB aD aB aC hH hV ?_
  .intro d hd;rcases(O:d=0∨d=1∨d=2∨d=3∨d=4∨d=5∨d=6∨d=7∨d=8∨d=9∨d=10∨d=11∨d=12∨d=13∨d=14∨d=15)with rfl|rfl|rfl|rfl|rfl|rfl|rfl|rfl|rfl|rfl|rfl|rfl|rfl|rfl|rfl|rfl
   .exact⟨r,137,K,r0⟩
   .exact⟨p1,137,K,r1⟩
   .exact⟨p2,137,K,r2⟩
   .exact⟨p3,137,K,r3⟩
   .exact⟨p4,137,K,r4⟩
   .exact⟨p5,137,K,r5⟩
   .exact⟨p6,137,K,r6⟩
   .exact⟨p7,137,K,r7⟩
   .exact⟨p8,137,K,r8⟩
   .exact⟨p9,137,K,r9⟩
   .exact⟨p,137,K,ak⟩
   .exact⟨z,137,K,aj⟩
   .exact⟨T,137,K,ah⟩
   .exact⟨c,137,K,ag⟩
   .exact⟨s,137,K,af⟩
   .exact⟨w,137,K,ae⟩
  .intro j;cases Nat.beq j 29 with
   |true=>simp only[gq];omega
   |false=>simp only[gr];omega
  intro m' tl Br tB ax wf hl aA rB lB;subst ax;have q:S=29∨S=30:=O
  have am:Br.length=cz∨Br.length=u:=by
    rcases q with h|h
    .left;rw[lB,h];rfl
    .right;rw[lB,h];rfl
  obtain⟨w1,w2,w3,w4⟩:=al S q;rw[show(bif Nat.beq S 29 then cz else u)=Br.length from lB.symm];refine kL [0,1,2,3,4,5,S,6,7] [] [(238,.s (E (6,0)) (ib Br n) Br.length)] [⟨.ws .u64 L,tm⟩,⟨.ws .u64 ys,ty⟩,⟨.ws .u64 H,tx⟩,y,m,⟨.dead,0⟩,⟨.ws .u64 Br,tB⟩,h',i'] (λ_ _ h=>by cases h) K ?_ ?_ ?_ ?_ K ?_
  .rw [hl];exact⟨λ_=>rfl,λ_=>rfl,λ_=>rfl,λ_=>kC E w1,λ_=>kC E w4,(λh=>by cases h),λ_=>aA,λ_=>kC E w2,λh=>kC E (w3 h),dD⟩
  .rw [hl];rcases q with rfl|rfl<;>rfl
  .simp only[mH,yb,vJ,sM,ad,ac,aq,gq,gr];rcases q with rfl|rfl<;>cases i'.c.iQ<;>decide
  .rw [hl];rcases q with rfl|rfl<;>rfl
  exact Ev.done lP (aOc _ _) K (hQ Br tB rB am)
end Go.Proofs.YtiggidfngfkanaaGreatDoor
