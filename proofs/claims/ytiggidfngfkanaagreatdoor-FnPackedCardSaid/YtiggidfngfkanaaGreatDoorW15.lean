/- FnPacked, part 15. No condition. -/
import Derived.Test.YtiggidfngfkanaaGreatDoorW14
namespace Go.Proofs.YtiggidfngfkanaaGreatDoor
open Go Go.Proofs.Tryz
set_option maxRecDepth 100000
set_option maxHeartbeats 4000000
set_option linter.all false
open Bool renaming false->A, true->G
open Decidable renaming decide->D
open Go renaming IntKind->U, TypeId->es
open Go.Proofs.Tryz renaming prog->B
open List renaming drop->kw
open Option renaming none->N, some->E
variable{C F H M Q S T i o q s t u u3 u4 v w x:Int}{d:Nat}
def aei{v t:Nat}:letI a:Nat:=115792089237316195423570985008687907853269984665640564039457584007913129639936;∀(Q:v<a)(s:t<a){c q:List Int}(h:bL v++c=bL t++q),v=t:=by
  intro Q s c q h;have M:bL v=bL t:=(JV h K).1;have get: ∀i,(bL v).getD i 0=(bL t).getD i 0:=λi=>by rw[M]
  have H: ∀j r,j<8->r<4->iI v j r=iI t j r:=by
    intro j r b y
    match j,r,b,y with
    |0,0,_,_=>exact get 31
    |0,1,_,_=>exact get 30
    |0,2,_,_=>exact get 29
    |0,3,_,_=>exact get 28
    |1,0,_,_=>exact get 27
    |1,1,_,_=>exact get 26
    |1,2,_,_=>exact get 25
    |1,3,_,_=>exact get 24
    |2,0,_,_=>exact get 23
    |2,1,_,_=>exact get 22
    |2,2,_,_=>exact get 21
    |2,3,_,_=>exact get 20
    |3,0,_,_=>exact get 19
    |3,1,_,_=>exact get 18
    |3,2,_,_=>exact get 17
    |3,3,_,_=>exact get 16
    |4,0,_,_=>exact get 15
    |4,1,_,_=>exact get 14
    |4,2,_,_=>exact get 13
    |4,3,_,_=>exact get 12
    |5,0,_,_=>exact get 11
    |5,1,_,_=>exact get 10
    |5,2,_,_=>exact get 9
    |5,3,_,_=>exact get 8
    |6,0,_,_=>exact get 7
    |6,1,_,_=>exact get 6
    |6,2,_,_=>exact get 5
    |6,3,_,_=>exact get 4
    |7,0,_,_=>exact get 3
    |7,1,_,_=>exact get 2
    |7,2,_,_=>exact get 1
    |7,3,_,_=>exact get 0
  have z: ∀j,j<8->fL v j=fL t j:=λj b=>by rw[<-FJ v j,<-FJ t j];unfold Ft;rw[H j 0 b J,H j 1 b J,H j 2 b J,H j 3 b J]
  have p:dg v=dg t:=by unfold dg;rw[z 0 J,z 1 J,z 2 J,z 3 J,z 4 J,z 5 J,z 6 J,z 7 J]
  have e:=fK Q;rw[p,fK s]at e;exact e.symm
noncomputable def J4(l:List Int):Nat:=Classical.epsilon λv=>v<115792089237316195423570985008687907853269984665640564039457584007913129639936/\ ∃y,l=bL v++y
noncomputable def I3(l:List Int):Bool:= @decide (∃v,v<115792089237316195423570985008687907853269984665640564039457584007913129639936/\ ∃y,l=bL v++y) (Classical.propDecidable _)
def A6{v:Nat}(Q:v<115792089237316195423570985008687907853269984665640564039457584007913129639936)(y:List Int):J4 (bL v++y)=v:=by have:=K6 (p:=λu=>u<115792089237316195423570985008687907853269984665640564039457584007913129639936/\ ∃t,bL v++y=bL u++t) ⟨v,Q,y,K⟩;obtain⟨M,t,S⟩:=this;exact(aei Q M S).symm
def MC{v:Nat}(Q:v<115792089237316195423570985008687907853269984665640564039457584007913129639936)(y:List Int):I3 (bL v++y)=G:=by unfold I3;exact@fG _ (Classical.propDecidable _) ⟨v,Q,y,K⟩
noncomputable def F27:QF:=λargs m=>match args with
  |[.s (E a) 32 _]=>match m[a.1]? with
   |some ⟨.ws .u8 l,_⟩=>E (.g (dg (J4 l)),ed (ed (I3 l) (Nat.beq a.2 0)) (ek m.length m))
   |_=>N
  |_=>N
def abq(R:Nat->Option Nat):oR B R 27 F27:=by
  refine gD λargs m r h=>?_
  unfold F27 at h;split at h
  .rename_i a F;split at h
   .rename_i l j c;simp only[eJ,ef]at h;obtain⟨rfl,d⟩:=h;obtain⟨M,i⟩:=dN d;obtain⟨S,b⟩:=dN M;obtain⟨v,Q,y,rfl⟩:= @fU _ (Classical.propDecidable _) S;rw[A6 Q];obtain⟨a,o⟩:=a;have b:=iB b;simp only at b c;subst b;exact qc [a] (arv (v:=v) (F:=F) (y:=y) (ty:=j)) ⟨c,K,dD⟩ Y i K K
   .cases h
  .cases h
noncomputable def F13:QF:=λargs m=>match args with
  |[]=>E (.g (dg BD),ek m.length m)
  |_=>N
def aiy(R:Nat->Option Nat):oR B R 13 F13:=by
  refine gD λargs m r h=>?_
  unfold F13 at h;split at h
  .simp only[eJ,ef]at h;obtain⟨rfl,d⟩:=h;exact gZ amn d K K
  .cases h
noncomputable def F16:QF:=λargs m=>match args with
  |[]=>E (.g (oB zQ zW),ek m.length m)
  |_=>N
def aii(R:Nat->Option Nat):oR B R 16 F16:=by
  refine gD λargs m r h=>?_
  unfold F16 at h;split at h
  .simp only[eJ,ef]at h;obtain⟨rfl,d⟩:=h;exact gZ aug d K K
  .cases h
noncomputable def Wi(a p:List V):Bool:= @decide (∃x y,a=dg x/\p=dg y/\x<y/\y<115792089237316195423570985008687907853269984665640564039457584007913129639936) (Classical.propDecidable _)
noncomputable def F38:QF:=λargs m=>match args with
  |[.g a,.g p]=>E (.g (dg (num a)),ed (Wi a p) (ek m.length m))
  |_=>N
def ack(R:Nat->Option Nat):oR B R 38 F38:=by
  refine gD λargs m r h=>?_
  unfold F38 at h;split at h
  .simp only[eJ,ef]at h;obtain⟨rfl,d⟩:=h;obtain⟨M,i⟩:=dN d;obtain⟨x,y,rfl,rfl,S,l⟩:= @fU _ (Classical.propDecidable _) M;rw[fK (fI S l)];exact gZ (aum S l) i K K
  .cases h
noncomputable def Xy(k:Nat):Nat:=tC (qi k 64 ⟨0,0,0⟩)
noncomputable def YN(k:Nat):Nat:=aar (qi k 64 ⟨0,0,0⟩)
noncomputable def okT(a p:List V):Bool:= @decide (∃k,k<115792089237316195423570985008687907853269984665640564039457584007913129639936/\a=dg k/\p=oB zQ zW/\(qi k 64 ⟨0,0,0⟩).z≠0) (Classical.propDecidable _)
noncomputable def F15:QF:=λargs m=>match args with
  |[.g a,.g p]=>E (.g (oB (Xy (num a)) (YN (num a))),ed (okT a p) (ek m.length m))
  |_=>N
def aid(R:Nat->Option Nat):oR B R 15 F15:=by
  refine gD λargs m r h=>?_
  unfold F15 at h;split at h
  .simp only[eJ,ef]at h;obtain⟨rfl,d⟩:=h;obtain⟨M,i⟩:=dN d;obtain⟨k,a,rfl,rfl,l⟩:= @fU _ (Classical.propDecidable _) M;rw[fK a];exact gZ (aAi l) i K K
  .cases h
noncomputable abbrev L27:List (Nat×QF):=[(27,F27)]
def aPx:ji B (ep gz [] L27):=gy dD ⟨⟨ga f27,abq gz⟩,dD⟩
def aLo{v F:Nat}(Q:v<115792089237316195423570985008687907853269984665640564039457584007913129639936){y:List Int}{ty:es}:letI a:dE:=[⟨.ws .u8 (bL v++y),ty⟩];eM B gz 8 [.s (E (0,0)) 32 F] a (λr m=>r= .g (dg v)/\m=a):=by
  have e:dg v=dg (J4 (bL v++y)):=by rw[A6 Q]
  rw[e];exact kG (C:=ep gz [] L27) (eB aPx) f8 N 100 [] (o:=G) (b:=eb [I3 (bL v++y)]) I (by rw[MC Q];rfl) K K K I
noncomputable def F8:QF:=λargs m=>match args with
  |[.s (E a) 32 _]=>match m[a.1]? with
   |some ⟨.ws .u8 l,_⟩=>E (.g (dg (J4 l)),ed (ed (I3 l) (Nat.beq a.2 0)) (ek m.length m))
   |_=>N
  |_=>N
def arx(R:Nat->Option Nat):oR B R 8 F8:=by
  refine gD λargs m r h=>?_
  unfold F8 at h;split at h
  .rename_i a F;split at h
   .rename_i l j c;simp only[eJ,ef]at h;obtain⟨rfl,d⟩:=h;obtain⟨M,i⟩:=dN d;obtain⟨S,b⟩:=dN M;obtain⟨v,Q,y,rfl⟩:= @fU _ (Classical.propDecidable _) S;rw[A6 Q];obtain⟨a,o⟩:=a;have b:=iB b;simp only at b c;subst b;exact qc [a] (aLo (v:=v) (F:=F) (y:=y) (ty:=j) Q) ⟨c,K,dD⟩ Y i K K
   .cases h
  .cases h
noncomputable abbrev LPt:List (Nat×QF):=[(8,F8),(13,F13),(38,F38),(16,F16),(15,F15)]
def abo:ji B (ep gz [] LPt):=gy dD ⟨⟨ga f8,arx gz⟩,⟨ga f13,aiy gz⟩,⟨ga f38,ack gz⟩,⟨ga f16,aii gz⟩,⟨ga f15,aid gz⟩,dD⟩
def atR(r:Nat):List Item->Bool
  | .code (.region q _ _)::_=>Nat.beq q r
  |_=>A
def dO(r:Nat):Code->List Item->List Item
  | .seq a b,k=>bif rI r a then dO r a (.code b::k)else dO r b k
  | .cond _ a b,k=>bif rI r a then dO r a k else dO r b k
  | .block id a,k=>dO r a (.inBlock id::k)
  | .loop a,k=>dO r a (.inLoop a::k)
  | .region id T d,k=> .code (.region id T d)::k
  |_,k=>k
def fF(C:fw)(n:Nat)(i:Option (List Nat))(r:Nat):Nat->List Item->St->List Item×St
  |0,t,s=>(t,s)
  |k+1,t,s=>match vo C n i t s with
   |some (a,H)=>bif atR r a then(a,H)else fF C n i r k a H
   |none=>(t,s)
section
variable{P:Program}{C:fw}{n:Nat}
def EA{i:Option (List Nat)}{r:Nat}: ∀(fuel:Nat){t a:List Item}{s H:St},fF C n i r fuel t s=(a,H)->eb H.ob=G->eb s.ob=G
  |0,_,_,_,_,h,F=>by cases h;exact F
  |fuel+1,t,a,s,H,h,F=>by
   unfold fF at h;split at h
   .rename_i v g M;generalize atR r v=q at h;cases q with
    |true=>cases h;exact wN M F
    |false=>exact wN M (EA fuel h F)
   .cases h;exact F
variable{f:FuncId}{b:Nat}{Q:V->dE->Prop}
def NS(c:RD P C){i:Option (List Nat)}{r:Nat}: ∀(fuel:Nat){t a:List Item}{s H:St},fF C n i r fuel t s=(a,H)->eb H.ob=G->
    Ev P C f n b [] a H.e H.m Q->Ev P C f n b [] t s.e s.m Q
  |0,_,_,_,_,h,_,R=>by cases h;exact R
  |fuel+1,t,a,s,H,h,F,R=>by
   unfold fF at h;split at h
   .rename_i v g M;generalize atR r v=q at h;cases q with
    |true=>cases h;exact CS c M F R
    |false=>exact CS c M (EA fuel h F) (NS c fuel h F R)
   .cases h;exact R
def jV(c:RD P C){t:List Item}{e:eZ}{m:dE}{i:Option (List Nat)}{r:Nat}{j:Nat}{z:List Bool}{l:List Nat}{a:List Item}{y:eZ}{u:dE}{o:Bool}
    (h:(nJ l (fF C n i r j t ⟨e,m,z,[]⟩))=(a,y,u,o))(F:o=G)
    (R:Ev P C f n b [] a y u Q):Ev P C f n b [] t e m Q:=by
  unfold nJ at h;subst F;generalize L:fF C n i r j t ⟨e,m,z,[]⟩=x at h;obtain⟨v,g⟩:=x;simp only[ef]at h;obtain⟨rfl,rfl,rfl,F⟩:=h;exact NS (s:=⟨e,m,z,[]⟩) c j L F (Ev.fq l R)
end
def cT(c:Nat):List Int:=[2*c,0,(536870912-256*c:Nat)%536870912,(2048*c-1:Nat),0,0,0,33554432*c,0]
def mn:List Int:=cT 0++cT 1++cT 2++cT 3++cT 4++cT 5++cT 6++cT 7
abbrev gc(k:Nat):Nat->Option Nat:=λg=>bif Nat.beq g 3 then E k else N
def AZ(c:Nat):List Int->List Int
  |[q,F,y,H,M,p,v,n,e]=>[U.u32.wrap (q+(cT c).getD 0 0),F,U.u32.wrap (y+(cT c).getD 2 0),U.u32.wrap (H+(cT c).getD 3 0),M,p,v,U.u32.wrap (n+(cT c).getD 7 0),e]
  |l=>l
def UT(R:Nat->Option Nat):ji B (ep R [] []):=gy dD dD
def ale{c:Nat}(s:c<8){q F y H M p v n e:Int}{ty Q:es}:letI a:=[q,F,y,H,M,p,v,n,e];letI b:dI:=⟨.ws .u32 mn,Q⟩;eM B (gc 1) 94 [.p (E (0,0)),.i .u32 c] [⟨.ws .u32 a,ty⟩,b]
    (λr m=>r= .t []/\m=[⟨.ws .u32 (AZ c a),ty⟩,b]):=by
  match c,s with
  |0,_=>exact kG (C:=ep (gc 1) [] []) (eB (UT (gc 1))) f94 (E [0,1]) 100 [] (o:=G) (b:=G) I K K K K I
  |1,_=>exact kG (C:=ep (gc 1) [] []) (eB (UT (gc 1))) f94 (E [0,1]) 100 [] (o:=G) (b:=G) I K K K K I
  |2,_=>exact kG (C:=ep (gc 1) [] []) (eB (UT (gc 1))) f94 (E [0,1]) 100 [] (o:=G) (b:=G) I K K K K I
  |3,_=>exact kG (C:=ep (gc 1) [] []) (eB (UT (gc 1))) f94 (E [0,1]) 100 [] (o:=G) (b:=G) I K K K K I
  |4,_=>exact kG (C:=ep (gc 1) [] []) (eB (UT (gc 1))) f94 (E [0,1]) 100 [] (o:=G) (b:=G) I K K K K I
  |5,_=>exact kG (C:=ep (gc 1) [] []) (eB (UT (gc 1))) f94 (E [0,1]) 100 [] (o:=G) (b:=G) I K K K K I
  |6,_=>exact kG (C:=ep (gc 1) [] []) (eB (UT (gc 1))) f94 (E [0,1]) 100 [] (o:=G) (b:=G) I K K K K I
  |7,_=>exact kG (C:=ep (gc 1) [] []) (eB (UT (gc 1))) f94 (E [0,1]) 100 [] (o:=G) (b:=G) I K K K K I
noncomputable def isT(l:List Int):Bool:= @decide (l=mn) (Classical.propDecidable _)
def J9:isT mn=G:=by unfold isT;exact@fG _ (Classical.propDecidable _) K
noncomputable def F94(g:Nat):jB:=λargs m=>match args with
  |[.p (E a),.i .u32 c]=>match m[a.1]?,m[g]? with
   |some ⟨.ws .u32 [q,F,y,H,M,p,v,n,e],j⟩,E ⟨.ws .u32 R,_⟩=>E (.t [],m.set a.1 ⟨.ws .u32 (AZ c.toNat [q,F,y,H,M,p,v,n,e]),j⟩,ed (D (0<=c/\c<8)) (ed (ed (Nat.beq a.2 0) (!(Nat.beq a.1 g))) (ed (isT R) (ek m.length m))))
   |_,_=>N
  |_=>N
def Uc{R:Nat->Option Nat}{g:Nat}(hg:R 3=E g):qI B R 94 (F94 g):=by
  refine mD λargs m r m' T=>?_
  unfold F94 at T;split at T
  .rename_i a c;split at T
   .rename_i x w y H M p v n f j L Q t C;simp only[eJ,ef]at T;obtain⟨rfl,rfl,F⟩:=T;obtain⟨d,F⟩:=dN F;obtain⟨h2,F⟩:=dN F;obtain⟨h3,b⟩:=dN F;obtain⟨u,h5⟩:=dN h2;have s:L=mn:= @fU _ (Classical.propDecidable _) h3;subst s;obtain⟨l,aa⟩:=fU d;obtain⟨k,rfl⟩:=fy l;obtain⟨a,o⟩:=a;have u:=iB u;have S:a≠g:=HH h5;simp only at u t;subst u;have P:k<8:=O;refine⟨gc 1,[a,g],_,_,_,_,ale (c:=k) P (q:=x) (F:=w) (y:=y) (H:=H) (M:=M) (p:=p) (v:=v) (n:=n) (e:=f) (ty:=j) (Q:=Q),⟨t,K,C,K,dD⟩,by simp[S],?_,b,K,K,?_⟩
    .intro q i h;unfold gc at h;cases z:Nat.beq q 3
     .rw [z]at h;cases h
     .rw [z]at h;cases h;have:=iB z;subst this;exact⟨g,K,hg⟩
    .simp only[fW,iC,ft,kw,eI,fb]
     have e:(m.set a (dI.iU (sg [a,g] m.length) ⟨.ws .u32 (AZ k [x,w,y,H,M,p,v,n,f]),j⟩)).set g (dI.iU (sg [a,g] m.length) ⟨.ws .u32 mn,Q⟩)=m.set a ⟨.ws .u32 (AZ k [x,w,y,H,M,p,v,n,f]),j⟩:=by refine fu ?_;rw[lI S];exact C
     rw[e,jx];rfl
   .cases T
  .cases T
def rE:List Int->List Int->Int->Bool->List Int×Int
  |a::r,b::n,c,A=>((eA .and .u32 (U.u32.wrap (U.u32.wrap (a+b)+c)) 536870911)::(rE r n ((U.u32.wrap (U.u32.wrap (a+b)+c)).fdiv 536870912) G).1,(rE r n ((U.u32.wrap (U.u32.wrap (a+b)+c)).fdiv 536870912) G).2)
  |a::r,b::n,c,G=>((eA .and .u32 (U.u32.wrap (U.u32.wrap (a+b)+c)) 268435455)::(rE r n ((U.u32.wrap (U.u32.wrap (a+b)+c)).fdiv 268435456) A).1,(rE r n ((U.u32.wrap (U.u32.wrap (a+b)+c)).fdiv 268435456) A).2)
  |_,_,c,_=>([],c)
def adn:QF:=λargs m=>match args with
  |[.i .u32 x]=>E (.i .u32 4294967295,ed (D (0<x/\x<=2147483648)) (ek m.length m))
  |_=>N
def aam(M:0<x)(S:x<=2147483648):eM B gz 119 [.i .u32 x] [] (λr m=>r= .i .u32 4294967295/\m=[]):=by
  have e:(4294967295:Int)=U.u32.wrap ((U.u32.wrap (x-1)).fdiv 2147483648-1):=by rw[kB _ O,wa,wa];omega
  rw[e];exact kG (C:=ep gz [] []) (eB (UT gz)) f119 N 100 [] (o:=G) (b:=G) I K K K K I
def YC(R:Nat->Option Nat):oR B R 119 adn:=by
  refine gD λargs m r h=>?_
  unfold adn at h;split at h
  .simp only[eJ,ef]at h;obtain⟨rfl,d⟩:=h;obtain⟨M,i⟩:=dN d;obtain⟨S,l⟩:=fU M;exact gZ (aam S l) i K K
  .cases h
noncomputable abbrev CF:fw:=ep (gc 2) [(94,F94 2)] [(119,adn)]
def Jz:ji B CF:=gy ⟨⟨ga f94,Uc K⟩,dD⟩ ⟨⟨ga f119,YC _⟩,dD⟩
abbrev W(x:Int):Int:=U.u32.wrap x
abbrev AN(x m:Int):Int:=eA .and .u32 x m
abbrev pg(l:List Int)(j:Nat)(f:Int->Int):List Int:=l.set j (f (l.getD j 0))
def e0c(i:Nat)(l:List Int):List Int:=pg l (i+1) λv=>W (v+(l.getD i 0).fdiv 536870912)
def LZ(i:Nat)(l:List Int):Int:=AN ((e0c i l).getD i 0) 536870911
def e0(i:Nat)(l:List Int):List Int:=(e0c i l).set i 0
def ea0(i:Nat)(l:List Int):List Int:=pg (pg (e0 i l) (i+2) λv=>W (v+AN (W (LZ i l*128)) 536870911)) (i+3) λv=>W (v+(LZ i l).fdiv 4194304)
def ea(b:Bool)(i:Nat)(l:List Int):List Int:=pg (bif b then pg (ea0 i l) (i+3) λv=>W (v+268435456)else ea0 i l) (i+3) λv=>W (v-AN (W (LZ i l*1024)) 268435455)
def ebf(i:Nat)(x s:Int)(l:List Int):List Int:=pg (pg l (i+4) λv=>W (v-s)) (i+4) λv=>W (v-x.fdiv 262144)
def eb1(i:Nat)(x s:Int)(l:List Int):List Int:=pg (pg (pg l (i+4) λv=>W (v+536870912)) (i+4) λv=>W (v-s)) (i+4) λv=>W (v-x.fdiv 262144)
def aup(i:Nat)(x s:Int)(l:List Int):List Int:=pg (eb1 i x s l) (i+5) λv=>W (v-1)
def eb2(i:Nat)(x s:Int)(l:List Int):List Int:=pg (pg (eb1 i x s l) (i+5) λv=>W (v+268435456)) (i+5) λv=>W (v-1)
def ZS(i:Nat)(x s:Int)(l:List Int):List Int:=pg (eb2 i x s l) (i+6) λv=>W (v-1)
def ZW(i:Nat)(x s:Int)(l:List Int):List Int:=pg (pg (eb2 i x s l) (i+6) λv=>W (v+536870912)) (i+6) λv=>W (v-1)
def ec0(b:Bool)(i:Nat)(x s:Int)(l:List Int):List Int:=
  pg (pg (pg (bif b then pg l (i+7) λv=>W (v+268435456)else l) (i+7) λv=>W (v-s)) (i+7) λv=>W (v-AN (W (x*16777216)) 268435455)) (i+8) λv=>W (v+AN (W (x*268435456)) 536870911)
def ec(P L:Bool)(i:Nat)(x s:Int)(l:List Int):List Int:=
  let R:=bif L then pg (ec0 P i x s l) (i+8) λv=>W (v+536870912)else ec0 P i x s l
  let g:=bif P then pg R (i+8) λv=>W (v-1)else R
  let q:=pg g (i+8) λv=>W (v-x.fdiv 16)
  bif L then pg q (i+9) λv=>W (v+AN (W (x.fdiv 2-1)) 4294967295)else pg q (i+9) λv=>W (v+AN (x.fdiv 2) 4294967295)
def o0c(j:Nat)(l:List Int):List Int:=pg l (j+1) λv=>W (v+(l.getD j 0).fdiv 268435456)
def M8(j:Nat)(l:List Int):Int:=AN ((o0c j l).getD j 0) 268435455
def o0(j:Nat)(l:List Int):List Int:=(o0c j l).set j 0
def oa0(j:Nat)(l:List Int):List Int:=pg (pg (o0 j l) (j+2) λv=>W (v+AN (W (M8 j l*128)) 268435455)) (j+3) λv=>W (v+(M8 j l).fdiv 2097152)
def oa(b:Bool)(j:Nat)(l:List Int):List Int:=pg (bif b then pg (oa0 j l) (j+3) λv=>W (v+536870912)else oa0 j l) (j+3) λv=>W (v-AN (W (M8 j l*2048)) 536870911)
def obf(j:Nat)(x s:Int)(l:List Int):List Int:=pg (pg l (j+4) λv=>W (v-s)) (j+4) λv=>W (v-x.fdiv 262144)
def ob1(j:Nat)(x s:Int)(l:List Int):List Int:=pg (pg (pg l (j+4) λv=>W (v+268435456)) (j+4) λv=>W (v-s)) (j+4) λv=>W (v-x.fdiv 262144)
def anj(j:Nat)(x s:Int)(l:List Int):List Int:=pg (ob1 j x s l) (j+5) λv=>W (v-1)
def ob2(j:Nat)(x s:Int)(l:List Int):List Int:=pg (pg (ob1 j x s l) (j+5) λv=>W (v+536870912)) (j+5) λv=>W (v-1)
def Y1(j:Nat)(x s:Int)(l:List Int):List Int:=pg (ob2 j x s l) (j+6) λv=>W (v-1)
def Zw(j:Nat)(x s:Int)(l:List Int):List Int:=pg (pg (ob2 j x s l) (j+6) λv=>W (v+268435456)) (j+6) λv=>W (v-1)
def oc(P L:Bool)(j:Nat)(x s:Int)(l:List Int):List Int:=
  let R:=pg (pg (bif P then pg l (j+7) λv=>W (v+536870912)else l) (j+7) λv=>W (v-s)) (j+7) λv=>W (v-AN (W (x*33554432)) 536870911)
  let g:=pg (pg (bif L then pg R (j+8) λv=>W (v+268435456)else R) (j+8) λv=>W (v-bif P then 1 else 0)) (j+8) λv=>W (v-x.fdiv 16)
  bif L then pg g (j+9) λv=>W (v+AN (W (x-1)) 4294967295)else pg g (j+9) λv=>W (v+AN x 4294967295)
def sH(a c:Nat)(p q:Nat->Int)(b:List Int):List Int:=(List.range a).map p++(b++(List.range c).map q)
def aFz(d:Nat)(z:d<5){w S u u3 u4 o i v F t:Int}{p q:Nat->Int}{H n R:List Int}{T m C k:es}:letI a:=[w,S,u,u3,u4,o,i,v,F,t];letI b:eZ:=[(0,.p (E (0,0))),(4,.p (E (3,0))),(9,.i .i64 ((2*d:Nat):Int))];letI c:dI:=⟨.ws .u32 H,T⟩;letI e:dI:=⟨.ws .u64 n,m⟩;letI f:dI:=⟨.ws .u32 R,C⟩;(nJ [0,4,9] (fF CF f93.ntmps (E [0,4,9]) 84 400 (dO 33 (dB f93) []) ⟨b,[c,e,f,⟨.ws .u32 (sH (2*d) (8-2*d) p q a),k⟩],[A],[]⟩))=(dO 84 (dB f93) [],b,[c,e,f,⟨.ws .u32 (sH (2*d) (8-2*d) p q (e0 0 a)),k⟩],eb [D ((LZ 0 a)>0)==A]):=by match d,z with|0,_|1,_|2,_|3,_|4,_=>((show _=_;kernel_rfl))
def aLu(d:Nat)(z:d<5)(b:Bool){w S u u3 u4 o i v F t:Int}{p q:Nat->Int}{H n R:List Int}{T m C k:es}:letI a:=[w,S,u,u3,u4,o,i,v,F,t];letI c:V:= .i .i64 ((2*d:Nat):Int);letI e:dI:=⟨.ws .u32 H,T⟩;letI f:dI:=⟨.ws .u64 n,m⟩;letI g:dI:=⟨.ws .u32 R,C⟩;(nJ [0,4,6,7,9,10,11] (fF CF f93.ntmps (E [0,4,9]) 47 400 (dO 33 (dB f93) []) ⟨[(0,.p (E (0,0))),(4,.p (E (3,0))),(9,c)],[e,f,g,⟨.ws .u32 (sH (2*d) (8-2*d) p q a),k⟩],[G,b],[]⟩))=(dO 47 (dB f93) [],[(0,.p (E (0,0))),(4,.p (E (3,0))),(6,.i .u32 (LZ 0 a)),(7,.i .u32 4294967295),(9,c),(10,.i .u32 (bif b then 1 else 0)),(11,.i .u32 0)],[e,f,g,⟨.ws .u32 (sH (2*d) (8-2*d) p q (ea b 0 a)),k⟩],eb [D ((ea0 0 a).getD 3 0<268435456)==b,D (0<(LZ 0 a)/\(LZ 0 a)<=2147483648),D ((LZ 0 a)>0)==G]):=by match d,z with|0,_|1,_|2,_|3,_|4,_=>(cases b<;>(show _=_;kernel_rfl))
def aoq(d:Nat)(z:d<5){w S u u3 u4 o i v F t x l:Int}{p q:Nat->Int}{H n R:List Int}{T m C k:es}:letI a:=[w,S,u,u3,u4,o,i,v,F,t];letI b:U:= .u32;letI c:V:= .i .i64 ((2*d:Nat):Int);letI e:dI:=⟨.ws .u64 n,m⟩;letI f:dI:=⟨.ws b H,T⟩;letI g:dI:=⟨.ws b R,C⟩;letI h:V:= .i b 4294967295;(nJ [0,4,6,7,9,11] (fF CF f93.ntmps (E [0,4,9]) 62 400 (dO 47 (dB f93) []) ⟨[(0,.p (E (0,0))),(4,.p (E (3,0))),(6,.i b x),(7,h),(9,c),(10,.i b l),(11,.i b 0)],[f,e,g,⟨.ws b (sH (2*d) (8-2*d) p q a),k⟩],[A],[]⟩))=(dO 62 (dB f93) [],[(0,.p (E (0,0))),(4,.p (E (3,0))),(6,.i b x),(7,h),(9,c),(11,.i b 0)],[f,e,g,⟨.ws b (sH (2*d) (8-2*d) p q (ebf 0 x l a)),k⟩],eb [D (u4<536870912)==A]):=by match d,z with|0,_|1,_|2,_|3,_|4,_=>((show _=_;kernel_rfl))
def acp(d:Nat)(z:d<5){w S u u3 u4 o i v F t x l:Int}{p q:Nat->Int}{H n R:List Int}{T m C k:es}:letI a:=[w,S,u,u3,u4,o,i,v,F,t];letI b:U:= .u32;letI c:V:= .i .i64 ((2*d:Nat):Int);letI e:dI:=⟨.ws .u64 n,m⟩;letI f:dI:=⟨.ws b H,T⟩;letI g:dI:=⟨.ws b R,C⟩;letI h:V:= .i b 4294967295;(nJ [0,4,6,7,9,11] (fF CF f93.ntmps (E [0,4,9]) 62 400 (dO 47 (dB f93) []) ⟨[(0,.p (E (0,0))),(4,.p (E (3,0))),(6,.i b x),(7,h),(9,c),(10,.i b l),(11,.i b 0)],[f,e,g,⟨.ws b (sH (2*d) (8-2*d) p q a),k⟩],[G,A],[]⟩))=(dO 62 (dB f93) [],[(0,.p (E (0,0))),(4,.p (E (3,0))),(6,.i b x),(7,h),(9,c),(11,.i b 0)],[f,e,g,⟨.ws b (sH (2*d) (8-2*d) p q (aup 0 x l a)),k⟩],eb [D (o<268435456)==A,D (u4<536870912)==G]):=by match d,z with|0,_|1,_|2,_|3,_|4,_=>((show _=_;kernel_rfl))
def UZ(d:Nat)(z:d<5){w S u u3 u4 o i v F t x l:Int}{p q:Nat->Int}{H n R:List Int}{T m C k:es}:letI a:=[w,S,u,u3,u4,o,i,v,F,t];letI b:U:= .u32;letI c:V:= .i .i64 ((2*d:Nat):Int);letI e:dI:=⟨.ws .u64 n,m⟩;letI f:dI:=⟨.ws b H,T⟩;letI g:dI:=⟨.ws b R,C⟩;letI h:V:= .i b 4294967295;(nJ [0,4,6,7,9,11] (fF CF f93.ntmps (E [0,4,9]) 62 400 (dO 47 (dB f93) []) ⟨[(0,.p (E (0,0))),(4,.p (E (3,0))),(6,.i b x),(7,h),(9,c),(10,.i b l),(11,.i b 0)],[f,e,g,⟨.ws b (sH (2*d) (8-2*d) p q a),k⟩],[G,G,A],[]⟩))=(dO 62 (dB f93) [],[(0,.p (E (0,0))),(4,.p (E (3,0))),(6,.i b x),(7,h),(9,c),(11,.i b 0)],[f,e,g,⟨.ws b (sH (2*d) (8-2*d) p q (ZS 0 x l a)),k⟩],eb [D (i<536870912)==A,D (o<268435456)==G,D (u4<536870912)==G]):=by match d,z with|0,_|1,_|2,_|3,_|4,_=>((show _=_;kernel_rfl))
def Xw(d:Nat)(z:d<5){w S u u3 u4 o i v F t x l:Int}{p q:Nat->Int}{H n R:List Int}{T m C k:es}:letI a:=[w,S,u,u3,u4,o,i,v,F,t];letI b:U:= .u32;letI c:V:= .i .i64 ((2*d:Nat):Int);letI e:dI:=⟨.ws .u64 n,m⟩;letI f:dI:=⟨.ws b H,T⟩;letI g:dI:=⟨.ws b R,C⟩;letI h:V:= .i b 4294967295;(nJ [0,4,6,7,9,11] (fF CF f93.ntmps (E [0,4,9]) 62 400 (dO 47 (dB f93) []) ⟨[(0,.p (E (0,0))),(4,.p (E (3,0))),(6,.i b x),(7,h),(9,c),(10,.i b l),(11,.i b 0)],[f,e,g,⟨.ws b (sH (2*d) (8-2*d) p q a),k⟩],[G,G,G],[]⟩))=(dO 62 (dB f93) [],[(0,.p (E (0,0))),(4,.p (E (3,0))),(6,.i b x),(7,h),(9,c),(11,.i b 1)],[f,e,g,⟨.ws b (sH (2*d) (8-2*d) p q (ZW 0 x l a)),k⟩],eb [D (i<536870912)==G,D (o<268435456)==G,D (u4<536870912)==G]):=by match d,z with|0,_|1,_|2,_|3,_|4,_=>((show _=_;kernel_rfl))
def aGu(d:Nat)(z:d<5)(P L:Bool){w S u u3 u4 o i v F t x y:Int}{p q:Nat->Int}{H n R:List Int}{T m C k:es}:letI a:=[w,S,u,u3,u4,o,i,v,F,t];letI b:V:= .i .i64 ((2*d:Nat):Int);letI c:dI:=⟨.ws .u32 H,T⟩;letI e:dI:=⟨.ws .u64 n,m⟩;letI f:dI:=⟨.ws .u32 R,C⟩;(nJ [0,4,9] (fF CF f93.ntmps (E [0,4,9]) 84 400 (dO 62 (dB f93) []) ⟨[(0,.p (E (0,0))),(4,.p (E (3,0))),(6,.i .u32 x),(7,.i .u32 4294967295),(9,b),(11,.i .u32 y)],[c,e,f,⟨.ws .u32 (sH (2*d) (8-2*d) p q a),k⟩],[P,L],[]⟩))=(dO 84 (dB f93) [],[(0,.p (E (0,0))),(4,.p (E (3,0))),(9,b)],[c,e,f,⟨.ws .u32 (sH (2*d) (8-2*d) p q (ec P L 0 x y a)),k⟩],eb [D ((ec0 P 0 x y a).getD 8 0<536870912)==L,D (v<268435456)==P]):=by match d,z with|0,_|1,_|2,_|3,_|4,_=>(cases P<;>cases L<;>(show _=_;kernel_rfl))
def aDk(d:Nat)(z:d<4){w S u u3 u4 o i v F t:Int}{p q:Nat->Int}{H n R:List Int}{T m C k:es}:letI a:=[w,S,u,u3,u4,o,i,v,F,t];letI b:dI:=⟨.ws .u32 H,T⟩;letI c:dI:=⟨.ws .u64 n,m⟩;letI e:dI:=⟨.ws .u32 R,C⟩;(nJ [0,4,9] (fF CF f93.ntmps (E [0,4,9]) 33 400 (dO 84 (dB f93) []) ⟨[(0,.p (E (0,0))),(4,.p (E (3,0))),(9,.i .i64 ((2*d:Nat):Int))],[b,c,e,⟨.ws .u32 (sH (2*d+1) (7-2*d) p q a),k⟩],[A,A],[]⟩))=(dO 33 (dB f93) [],[(0,.p (E (0,0))),(4,.p (E (3,0))),(9,.i .i64 ((2*d+2:Nat):Int))],[b,c,e,⟨.ws .u32 (sH (2*d+1) (7-2*d) p q (o0 0 a)),k⟩],eb [D ((M8 0 a)>0)==A]):=by match d,z with|0,_|1,_|2,_|3,_=>((show _=_;kernel_rfl))
def aKw(d:Nat)(z:d<4)(b:Bool){w S u u3 u4 o i v F t:Int}{p q:Nat->Int}{H n R:List Int}{T m C k:es}:letI a:=[w,S,u,u3,u4,o,i,v,F,t];letI c:V:= .i .i64 ((2*d:Nat):Int);letI e:U:= .u32;letI f:dI:=⟨.ws .u64 n,m⟩;letI g:dI:=⟨.ws e H,T⟩;letI h:dI:=⟨.ws e R,C⟩;(nJ [0,4,6,7,9,12,13,14] (fF CF f93.ntmps (E [0,4,9]) 100 400 (dO 84 (dB f93) []) ⟨[(0,.p (E (0,0))),(4,.p (E (3,0))),(9,c)],[g,f,h,⟨.ws e (sH (2*d+1) (7-2*d) p q a),k⟩],[A,G,b],[]⟩))=(dO 100 (dB f93) [],[(0,.p (E (0,0))),(4,.p (E (3,0))),(6,.i e (M8 0 a)),(7,.i e 4294967295),(9,c),(12,.i e (bif b then 1 else 0)),(13,.i e 0),(14,.i e 0)],[g,f,h,⟨.ws e (sH (2*d+1) (7-2*d) p q (oa b 0 a)),k⟩],eb [D ((oa0 0 a).getD 3 0<536870912)==b,D (0<(M8 0 a)/\(M8 0 a)<=2147483648),D ((M8 0 a)>0)==G]):=by match d,z with|0,_|1,_|2,_|3,_=>(cases b<;>(show _=_;kernel_rfl))
def axn(d:Nat)(z:d<4){w S u u3 u4 o i v F t x s:Int}{p q:Nat->Int}{H n R:List Int}{T m C k:es}:letI a:=[w,S,u,u3,u4,o,i,v,F,t];letI b:U:= .u32;letI c:V:= .i .i64 ((2*d:Nat):Int);letI e:dI:=⟨.ws .u64 n,m⟩;letI f:dI:=⟨.ws b H,T⟩;letI g:dI:=⟨.ws b R,C⟩;letI h:V:= .i b 0;letI j:V:= .i b 4294967295;(nJ [0,4,6,7,9,13,14] (fF CF f93.ntmps (E [0,4,9]) 115 400 (dO 100 (dB f93) []) ⟨[(0,.p (E (0,0))),(4,.p (E (3,0))),(6,.i b x),(7,j),(9,c),(12,.i b s),(13,h),(14,h)],[f,e,g,⟨.ws b (sH (2*d+1) (7-2*d) p q a),k⟩],[A],[]⟩))=(dO 115 (dB f93) [],[(0,.p (E (0,0))),(4,.p (E (3,0))),(6,.i b x),(7,j),(9,c),(13,h),(14,h)],[f,e,g,⟨.ws b (sH (2*d+1) (7-2*d) p q (obf 0 x s a)),k⟩],eb [D (u4<268435456)==A]):=by match d,z with|0,_|1,_|2,_|3,_=>((show _=_;kernel_rfl))
def acv(d:Nat)(z:d<4){w S u u3 u4 o i v F t x s:Int}{p q:Nat->Int}{H n R:List Int}{T m C k:es}:letI a:=[w,S,u,u3,u4,o,i,v,F,t];letI b:U:= .u32;letI c:V:= .i .i64 ((2*d:Nat):Int);letI e:dI:=⟨.ws .u64 n,m⟩;letI f:dI:=⟨.ws b H,T⟩;letI g:dI:=⟨.ws b R,C⟩;letI h:V:= .i b 0;letI j:V:= .i b 4294967295;(nJ [0,4,6,7,9,13,14] (fF CF f93.ntmps (E [0,4,9]) 115 400 (dO 100 (dB f93) []) ⟨[(0,.p (E (0,0))),(4,.p (E (3,0))),(6,.i b x),(7,j),(9,c),(12,.i b s),(13,h),(14,h)],[f,e,g,⟨.ws b (sH (2*d+1) (7-2*d) p q a),k⟩],[G,A],[]⟩))=(dO 115 (dB f93) [],[(0,.p (E (0,0))),(4,.p (E (3,0))),(6,.i b x),(7,j),(9,c),(13,h),(14,h)],[f,e,g,⟨.ws b (sH (2*d+1) (7-2*d) p q (anj 0 x s a)),k⟩],eb [D (o<536870912)==A,D (u4<268435456)==G]):=by match d,z with|0,_|1,_|2,_|3,_=>((show _=_;kernel_rfl))
def VG(d:Nat)(z:d<4){w S u u3 u4 o i v F t x s:Int}{p q:Nat->Int}{H n R:List Int}{T m C k:es}:letI a:=[w,S,u,u3,u4,o,i,v,F,t];letI b:U:= .u32;letI c:V:= .i .i64 ((2*d:Nat):Int);letI e:dI:=⟨.ws .u64 n,m⟩;letI f:dI:=⟨.ws b H,T⟩;letI g:dI:=⟨.ws b R,C⟩;letI h:V:= .i b 0;letI j:V:= .i b 4294967295;(nJ [0,4,6,7,9,13,14] (fF CF f93.ntmps (E [0,4,9]) 115 400 (dO 100 (dB f93) []) ⟨[(0,.p (E (0,0))),(4,.p (E (3,0))),(6,.i b x),(7,j),(9,c),(12,.i b s),(13,h),(14,h)],[f,e,g,⟨.ws b (sH (2*d+1) (7-2*d) p q a),k⟩],[G,G,A],[]⟩))=(dO 115 (dB f93) [],[(0,.p (E (0,0))),(4,.p (E (3,0))),(6,.i b x),(7,j),(9,c),(13,h),(14,h)],[f,e,g,⟨.ws b (sH (2*d+1) (7-2*d) p q (Y1 0 x s a)),k⟩],eb [D (i<268435456)==A,D (o<536870912)==G,D (u4<268435456)==G]):=by match d,z with|0,_|1,_|2,_|3,_=>((show _=_;kernel_rfl))
def U1(d:Nat)(z:d<4){w S u u3 u4 o i v F t x s:Int}{p q:Nat->Int}{H n R:List Int}{T m C k:es}:letI a:=[w,S,u,u3,u4,o,i,v,F,t];letI b:U:= .u32;letI c:V:= .i .i64 ((2*d:Nat):Int);letI e:dI:=⟨.ws .u64 n,m⟩;letI f:dI:=⟨.ws b H,T⟩;letI g:dI:=⟨.ws b R,C⟩;letI h:V:= .i b 4294967295;(nJ [0,4,6,7,9,13,14] (fF CF f93.ntmps (E [0,4,9]) 115 400 (dO 100 (dB f93) []) ⟨[(0,.p (E (0,0))),(4,.p (E (3,0))),(6,.i b x),(7,h),(9,c),(12,.i b s),(13,.i b 0),(14,.i b 0)],[f,e,g,⟨.ws b (sH (2*d+1) (7-2*d) p q a),k⟩],[G,G,G],[]⟩))=(dO 115 (dB f93) [],[(0,.p (E (0,0))),(4,.p (E (3,0))),(6,.i b x),(7,h),(9,c),(13,.i b 1),(14,.i b 0)],[f,e,g,⟨.ws b (sH (2*d+1) (7-2*d) p q (Zw 0 x s a)),k⟩],eb [D (i<268435456)==G,D (o<536870912)==G,D (u4<268435456)==G]):=by match d,z with|0,_|1,_|2,_|3,_=>((show _=_;kernel_rfl))
def aCw(d:Nat)(z:d<4)(P L:Bool){w S u u3 u4 o i v F t x h:Int}{p q:Nat->Int}{H n R:List Int}{T m C k:es}:letI a:=[w,S,u,u3,u4,o,i,v,F,t];letI b:dI:=⟨.ws .u32 H,T⟩;letI c:dI:=⟨.ws .u64 n,m⟩;letI e:dI:=⟨.ws .u32 R,C⟩;(nJ [0,4,9] (fF CF f93.ntmps (E [0,4,9]) 33 400 (dO 115 (dB f93) []) ⟨[(0,.p (E (0,0))),(4,.p (E (3,0))),(6,.i .u32 x),(7,.i .u32 4294967295),(9,.i .i64 ((2*d:Nat):Int)),(13,.i .u32 h),(14,.i .u32 0)],[b,c,e,⟨.ws .u32 (sH (2*d+1) (7-2*d) p q a),k⟩],[P,L],[]⟩))=(dO 33 (dB f93) [],[(0,.p (E (0,0))),(4,.p (E (3,0))),(9,.i .i64 ((2*d+2:Nat):Int))],[b,c,e,⟨.ws .u32 (sH (2*d+1) (7-2*d) p q (oc P L 0 x h a)),k⟩],eb [D (F<268435456)==L,D (v<536870912)==P]):=by match d,z with|0,_|1,_|2,_|3,_=>(cases P<;>cases L<;>(show _=_;kernel_rfl))
def PD:Bool->Int->Int->Int->Int->Int
  |false,p,q,b,c=>W (W (W (W ((W (p.fdiv 4294967296)).fdiv 33554432+(W q).fdiv 268435456)+AN (W (W (q.fdiv 4294967296)*16)) 536870911)+AN (W b) 536870911)+c)
  |true,p,q,b,c=>W (W (W (W ((W (p.fdiv 4294967296)).fdiv 33554432+(W q).fdiv 536870912)+AN (W (W (q.fdiv 4294967296)*8)) 268435455)+AN (W b) 268435455)+c)
def TS:Bool->Int->Int->List Int->Int->List Int
  |false,p,q,b::r,c=>AN (PD A p q b c) 536870911::TS G q b r ((PD A p q b c).fdiv 536870912)
  |true,p,q,b::r,c=>AN (PD G p q b c) 268435455::TS A q b r ((PD G p q b c).fdiv 268435456)
  |_,p,q,[],c=>[W (W (W ((W (p.fdiv 4294967296)).fdiv 33554432+(W q).fdiv 536870912)+W (W (q.fdiv 4294967296)*8))+c)]
def nm1(T P:Int):Int:=W (eA .or .u32 ((W T).fdiv 536870912) (AN (W (W (T.fdiv 4294967296)*8)) 268435455)+AN (W P) 268435455)
def J5:List Int->List Int
  |T::P::r=>AN (W T) 536870911::AN (nm1 T P) 268435455::TS A T P r ((nm1 T P).fdiv 268435456)
  |_=>[]
def Dp:Bool->List Int->Int->List Int×Int
  |_,[t],c=>([AN (W (t+c)) 536870911],(W (t+c)).fdiv 536870912)
  |false,t::u::r,c=>(AN (W (W (t+c)+AN (W (u*268435456)) 536870911)) 536870911::(Dp G (u::r) ((W (W (t+c)+AN (W (u*268435456)) 536870911)).fdiv 536870912)).1,(Dp G (u::r) ((W (W (t+c)+AN (W (u*268435456)) 536870911)).fdiv 536870912)).2)
  |true,t::r,c=>(AN (W (t.fdiv 2+c)) 268435455::(Dp A r ((W (t.fdiv 2+c)).fdiv 268435456)).1,(Dp A r ((W (t.fdiv 2+c)).fdiv 268435456)).2)
  |_,_,c=>([],c)
def Rx(l:List Int):Int:=(Dp A (l.drop 9) 0).2
def fin(l:List Int):List Int:=AZ (Rx l).toNat (Dp A (l.drop 9) 0).1
def aef{M z o j v n f p e Q r h S y x l i t F H w P L q u C s:Int}{bs R:List Int}{T m g k:es}:letI a:=[M,z,o,j,v,n,f,p,e,Q,r,h,S,y,x,l,i,t];letI b:dI:=⟨.ws .u64 bs,m⟩;letI c:dI:=⟨.ws .u32 R,g⟩;letI d:dI:=⟨.ws .u32 a,k⟩;(runN CF f93.results.toList (fe CF f93.ntmps (E [0,4,5,15]) N 5000 (dO 84 (dB f93) []) ⟨[(0,.p (E (0,0))),(4,.p (E (3,0))),(9,.i .i64 8)],[⟨.ws .u32 [F,H,w,P,L,q,u,C,s],T⟩,b,c,d],[G],[]⟩))=
    (G,E (.t [],G),[⟨.ws .u32 (fin a),T⟩,b,c,d],eb [ed (D (0<=Rx a/\Rx a<8)) (ed G (isT R))]):=I
section
def Gt(k:Nat)(R:k<=32)(C:0<=x)(M:x<4294967296):AN x ((2^k-1:Nat):Int)=x%((2^k:Nat):Int):=by obtain⟨a,rfl⟩:=fy C;have t:a<2^32:=O;have g:2^k<=2^32:=zU J R;have h:0<2^k:=Cl J;show U.u32.wrap ((BitVec.ofInt 32 a&&&BitVec.ofInt 32 ((2^k-1:Nat):Int)).toNat:Int)=_;rw[Gk,jG _ _ t,jG _ _ O,Cs,wa];have:a%2^k<2^k:=iD _ h;rw[<-uC];omega
def DN(C:0<=x)(M:x<4294967296):AN x 536870911=x%536870912:=Gt 29 J C M
def DS(C:0<=x)(M:x<4294967296):AN x 268435455=x%268435456:=Gt 28 J C M
def Wg(C:0<=x)(M:x<4294967296):AN x 4294967295=x:=by have:=Gt 32 J C M;rw[show((2^32-1:Nat):Int)=4294967295 from K,show((2^32:Nat):Int)=4294967296 from K]at this;rw[this];omega
def qe(x:Int):W x=x%4294967296:=wa x
def fd(n:Nat):x.fdiv (n:Int)=x/n:=kB _ O
def mA:Bool->List Int->Int
  |false,u::r=>u+536870912*mA G r
  |true,u::r=>u+268435456*mA A r
  |_,[]=>0
def eW(C:0<=x)(M:x<4294967296):W x=x:=by rw[qe];omega
def fd1:x.fdiv 2=x/2:=fd 2
def fd4:x.fdiv 16=x/16:=fd 16
def Yu:x.fdiv 262144=x/262144:=fd 262144
def ayh:x.fdiv 2097152=x/2097152:=fd 2097152
def alm:x.fdiv 4194304=x/4194304:=fd 4194304
def HC:x.fdiv 268435456=x/268435456:=fd 268435456
def He:x.fdiv 536870912=x/536870912:=fd 536870912
def CR(m:Int)(h:0<=x)(d:0<=m):AN (W (x*m)) 536870911=x*m%536870912:=by have:0<=x*m:=jL h d;generalize x*m=y at*;rw[DN (by rw[qe];omega) (by rw[qe];omega),qe];omega
def IT(m:Int)(h:0<=x)(d:0<=m):AN (W (x*m)) 268435455=x*m%268435456:=by have:0<=x*m:=jL h d;generalize x*m=y at*;rw[DS (by rw[qe];omega) (by rw[qe];omega),qe];omega
def bd(S x:Int):Prop:=0<=x/\x<S
variable{u0 u1 u2 u3 u4 u5 u6 u7 u8 u9:Int}{r:List Int}
def agd(b:Bool)(C:bd 0x90000108 u0)(M:bd 0x60000088 u1)(S:bd 0x70000100 u2)(l:bd 0x50000000 u3):letI a:=u0::u1::u2::u3::r;letI c:Int:=536870912;letI d:=u0%c;letI e:Int:=268435456;∀(H:D ((ea0 0 a).getD 3 0<e)=b),LZ 0 a=d/\ ∃j m g,ea b 0 a=0::j::m::g::r/\bd 0x60000090 j/\bd 0x90000100 m/\bd 0x50000080 g/\
      j+m*2^28+g*2^57=u1+u0/c+u2*2^28+(d*128%c)*2^28+(u3+d/4194304-d*1024%e+(bif b then e else 0))*2^57:=by
  intro H;obtain⟨a0,T⟩:=C;obtain⟨a1,P⟩:=M;obtain⟨a2,q⟩:=S;obtain⟨a3,p⟩:=l;have L:AN u0 536870911=u0%536870912:=DN a0 O;have k:LZ 0 (u0::u1::u2::u3::r)=u0%536870912:=L;refine⟨k,?_⟩;have n:(ea0 0 (u0::u1::u2::u3::r)).getD 3 0=W (u3+(AN u0 536870911).fdiv 4194304):=K;rw[n,L,alm]at H
  have f:ea b 0 (u0::u1::u2::u3::r)=0::W (u1+u0.fdiv 536870912)::W (u2+AN (W (AN u0 536870911*128)) 536870911)::W ((bif b then W (W (u3+(AN u0 536870911).fdiv 4194304)+268435456)else W (u3+(AN u0 536870911).fdiv 4194304))-AN (W (AN u0 536870911*1024)) 268435455)::r:=by cases b<;>rfl
  rw[f,L,alm,He,CR 128 O O,IT 1024 O O];have u:0<=u0%536870912:=O;have v:u0%536870912<536870912:=O;generalize o:u0%536870912=x at*;have y:W (u1+u0/536870912)=u1+u0/536870912:=eW O O;have i:W (u2+x*128%536870912)=u2+x*128%536870912:=eW O O;have h:W (u3+x/4194304)=u3+x/4194304:=eW O O;rw[h]at H;rw[y,i,h];have z:=H;refine⟨_,_,_,K,⟨O,O⟩,⟨O,O⟩,?_,?_⟩
  .cases b
   .have:=mS z;simp only[gr];rw[eW O O];exact⟨O,O⟩
   .have:=fU z;simp only[gq];rw[eW (x:=u3+x/4194304+268435456) O O,eW O O];exact⟨O,O⟩
  .cases b
   .have:=mS z;simp only[gr];rw[eW O O];omega
   .have:=fU z;simp only[gq];rw[eW (x:=u3+x/4194304+268435456) O O,eW O O];omega
section
variable{x s a0 a1 a2 a3 a4 a5 a6:Int}
def Xq(L:bd 536870912 x)(v:bd 2 s)(u:bd 0x70000000 u4)(c: ¬u4<536870912):ebf 0 x s (a0::a1::a2::a3::u4::r)=a0::a1::a2::a3::(u4-s-x/262144)::r:=by obtain⟨F,H⟩:=L;obtain⟨Q,g⟩:=v;obtain⟨T,P⟩:=u;show a0::a1::a2::a3::W (W (u4-s)-x.fdiv 262144)::r=_;rw[Yu,eW (x:=u4-s) O O,eW O O]
def FN(L:bd 536870912 x)(v:bd 2 s)(u:bd 0x70000000 u4):W (W (W (u4+536870912)-s)-x.fdiv 262144)=u4+536870912-s-x/262144:=by obtain⟨F,H⟩:=L;obtain⟨Q,g⟩:=v;obtain⟨T,P⟩:=u;rw[Yu,eW (x:=u4+536870912) O O,eW (x:=u4+536870912-s) O O,eW O O]
def S6(L:bd 536870912 x)(v:bd 2 s)(u:bd 0x70000000 u4)(y:bd 0x50000000 u5)(w: ¬u5<268435456):
    aup 0 x s (a0::a1::a2::a3::u4::u5::r)=a0::a1::a2::a3::(u4+536870912-s-x/262144)::(u5-1)::r:=by
  show a0::a1::a2::a3::W (W (W (u4+536870912)-s)-x.fdiv 262144)::W (u5-1)::r=_;obtain⟨T,P⟩:=y;rw[FN L v u,eW (x:=u5-1) O O]
def OG(L:bd 536870912 x)(v:bd 2 s)(u:bd 0x70000000 u4)(y:bd 0x50000000 u5)(C:bd 0x70000000 u6)(c: ¬u6<536870912):
    ZS 0 x s (a0::a1::a2::a3::u4::u5::u6::r)=a0::a1::a2::a3::(u4+536870912-s-x/262144)::(u5+268435456-1)::(u6-1)::r:=by
  show a0::a1::a2::a3::W (W (W (u4+536870912)-s)-x.fdiv 262144)::W (W (u5+268435456)-1)::W (u6-1)::r=_;obtain⟨T,P⟩:=y;obtain⟨t,m⟩:=C;rw[FN L v u,eW (x:=u5+268435456) O O,eW (x:=u5+268435456-1) O O,eW (x:=u6-1) O O]
def N3(L:bd 536870912 x)(v:bd 2 s)(u:bd 0x70000000 u4)(y:bd 0x50000000 u5)(C:bd 0x70000000 u6):
    ZW 0 x s (a0::a1::a2::a3::u4::u5::u6::r)=a0::a1::a2::a3::(u4+536870912-s-x/262144)::(u5+268435456-1)::(u6+536870912-1)::r:=by
  show a0::a1::a2::a3::W (W (W (u4+536870912)-s)-x.fdiv 262144)::W (W (u5+268435456)-1)::W (W (u6+536870912)-1)::r=_;obtain⟨T,P⟩:=y;obtain⟨t,m⟩:=C;rw[FN L v u,eW (x:=u5+268435456) O O,eW (x:=u5+268435456-1) O O,eW (x:=u6+536870912) O O,eW (x:=u6+536870912-1) O O]
def ahg(P h:Bool)(L:bd 536870912 x)(M:2<=x)(v:bd 2 s)(c:bd 0x50000000 u7)(e:bd 0x50000000 u8)(d:bd 0x40000000 u9):letI a:=a0::a1::a2::a3::a4::a5::a6::u7::u8::u9::r;letI b:Int:=268435456;∀(k:D (u7<b)=P)(u:D ((ec0 P 0 x s a).getD 8 0<536870912)=h),∃
      n y l,ec P h 0 x s a=a0::a1::a2::a3::a4::a5::a6::n::y::l::r/\bd 0x50000000 n/\bd 0x70000000 y/\bd 0x50000000 l/\
      n+y*2^28+l*2^57=u7+u8*2^28+u9*2^57-s-x*16777216%b+(x*b%536870912)*2^28-(x/16)*2^28+(x/2)*2^57:=by
  intro k u;obtain⟨F,H⟩:=L;obtain⟨Q,g⟩:=v;obtain⟨t,m⟩:=c;obtain⟨e0,T⟩:=e;obtain⟨q,o⟩:=d;have p:(ec0 P 0 x s (a0::a1::a2::a3::a4::a5::a6::u7::u8::u9::r)).getD 8 0=W (u8+AN (W (x*268435456)) 536870911):=by cases P<;>rfl
  rw[p,CR 268435456 O O]at u
  have f:ec P h 0 x s (a0::a1::a2::a3::a4::a5::a6::u7::u8::u9::r)=a0::a1::a2::a3::a4::a5::a6::
   W (W ((bif P then W (u7+268435456)else u7)-s)-AN (W (x*16777216)) 268435455)::
   W ((bif P then W ((bif h then W (W (u8+AN (W (x*268435456)) 536870911)+536870912)else W (u8+AN (W (x*268435456)) 536870911))-1)else(bif h then W (W (u8+AN (W (x*268435456)) 536870911)+536870912)else W (u8+AN (W (x*268435456)) 536870911)))-x.fdiv 16)::
   W (u9+(bif h then AN (W (x.fdiv 2-1)) 4294967295 else AN (x.fdiv 2) 4294967295))::r:=by cases P<;>cases h<;>rfl
  rw[f,CR 268435456 O O,IT 16777216 O O,fd4,fd1,Wg (x:=x/2) O O,eW (x:=x/2-1) O O,Wg (x:=x/2-1) O O];rw[eW (x:=u8+x*268435456%536870912) O O]at u⊢;refine⟨_,_,_,K,?_⟩;cases P<;>cases h<;>simp only[gq,gr]
  .have k:=mS k;have u:=mS u;rw[eW (x:=u7-s) O O,eW (x:=u7-s-_) O O,eW (x:=u8+x*268435456%536870912-x/16) O O,eW (x:=u9+x/2) O O];exact⟨⟨O,O⟩,⟨O,O⟩,⟨O,O⟩,O⟩
  .have k:=mS k;have u:=fU u;rw[eW (x:=u7-s) O O,eW (x:=u7-s-_) O O,eW (x:=u8+x*268435456%536870912+536870912) O O,eW (x:=u8+x*268435456%536870912+536870912-x/16) O O,eW (x:=u9+(x/2-1)) O O];exact⟨⟨O,O⟩,⟨O,O⟩,⟨O,O⟩,O⟩
  .have k:=fU k;have u:=mS u;rw[eW (x:=u7+268435456) O O,eW (x:=u7+268435456-s) O O,eW (x:=u7+268435456-s-_) O O,eW (x:=u8+x*268435456%536870912-1) O O,eW (x:=u8+x*268435456%536870912-1-x/16) O O,eW (x:=u9+x/2) O O];exact⟨⟨O,O⟩,⟨O,O⟩,⟨O,O⟩,O⟩
  .have k:=fU k;have u:=fU u;rw[eW (x:=u7+268435456) O O,eW (x:=u7+268435456-s) O O,eW (x:=u7+268435456-s-_) O O,eW (x:=u8+x*268435456%536870912+536870912) O O,eW (x:=u8+x*268435456%536870912+536870912-1) O O,eW (x:=u8+x*268435456%536870912+536870912-1-x/16) O O,eW (x:=u9+(x/2-1)) O O];exact⟨⟨O,O⟩,⟨O,O⟩,⟨O,O⟩,O⟩
end
def aip(b:Bool)(C:bd 0x60000090 u0)(M:bd 0x90000100 u1)(S:bd 0x50000080 u2)(l:bd 0x70000000 u3):letI a:=u0::u1::u2::u3::r;letI c:Int:=268435456;letI d:=u0%c;letI e:Int:=536870912;∀(H:D ((oa0 0 a).getD 3 0<e)=b),M8 0 a=d/\ ∃j m g,oa b 0 a=0::j::m::g::r/\bd 0x90000108 j/\bd 0x60000088 m/\bd 0x70000100 g/\
      j+m*2^29+g*2^57=u1+u0/c+u2*2^29+(d*128%c)*2^29+(u3+d/2097152-d*2048%e+(bif b then e else 0))*2^57:=by
  intro H;obtain⟨a0,T⟩:=C;obtain⟨a1,P⟩:=M;obtain⟨a2,q⟩:=S;obtain⟨a3,p⟩:=l;have L:AN u0 268435455=u0%268435456:=DS a0 O;have k:M8 0 (u0::u1::u2::u3::r)=u0%268435456:=L;refine⟨k,?_⟩;have n:(oa0 0 (u0::u1::u2::u3::r)).getD 3 0=W (u3+(AN u0 268435455).fdiv 2097152):=K;rw[n,L,ayh]at H
  have f:oa b 0 (u0::u1::u2::u3::r)=0::W (u1+u0.fdiv 268435456)::W (u2+AN (W (AN u0 268435455*128)) 268435455)::W ((bif b then W (W (u3+(AN u0 268435455).fdiv 2097152)+536870912)else W (u3+(AN u0 268435455).fdiv 2097152))-AN (W (AN u0 268435455*2048)) 536870911)::r:=by cases b<;>rfl
  rw[f,L,ayh,HC,IT 128 O O,CR 2048 O O];have u:0<=u0%268435456:=O;have v:u0%268435456<268435456:=O;generalize o:u0%268435456=x at*;have y:W (u1+u0/268435456)=u1+u0/268435456:=eW O O;have i:W (u2+x*128%268435456)=u2+x*128%268435456:=eW O O;have h:W (u3+x/2097152)=u3+x/2097152:=eW O O;rw[h]at H;rw[y,i,h];have z:=H;refine⟨_,_,_,K,⟨O,O⟩,⟨O,O⟩,?_,?_⟩
  .cases b
   .have:=mS z;simp only[gr];rw[eW O O];exact⟨O,O⟩
   .have:=fU z;simp only[gq];rw[eW (x:=u3+x/2097152+536870912) O O,eW O O];exact⟨O,O⟩
  .cases b
   .have:=mS z;simp only[gr];rw[eW O O];omega
   .have:=fU z;simp only[gq];rw[eW (x:=u3+x/2097152+536870912) O O,eW O O];omega
section
variable{x s a0 a1 a2 a3 a4 a5 a6:Int}
def Yy(L:bd 268435456 x)(v:bd 2 s)(u:bd 0x50000000 u4)(c: ¬u4<268435456):obf 0 x s (a0::a1::a2::a3::u4::r)=a0::a1::a2::a3::(u4-s-x/262144)::r:=by obtain⟨F,H⟩:=L;obtain⟨Q,g⟩:=v;obtain⟨T,P⟩:=u;show a0::a1::a2::a3::W (W (u4-s)-x.fdiv 262144)::r=_;rw[Yu,eW (x:=u4-s) O O,eW O O]
def FQ(L:bd 268435456 x)(v:bd 2 s)(u:bd 0x50000000 u4):W (W (W (u4+268435456)-s)-x.fdiv 262144)=u4+268435456-s-x/262144:=by obtain⟨F,H⟩:=L;obtain⟨Q,g⟩:=v;obtain⟨T,P⟩:=u;rw[Yu,eW (x:=u4+268435456) O O,eW (x:=u4+268435456-s) O O,eW O O]
def Tx(L:bd 268435456 x)(v:bd 2 s)(u:bd 0x50000000 u4)(y:bd 0x70000000 u5)(w: ¬u5<536870912):
    anj 0 x s (a0::a1::a2::a3::u4::u5::r)=a0::a1::a2::a3::(u4+268435456-s-x/262144)::(u5-1)::r:=by
  show a0::a1::a2::a3::W (W (W (u4+268435456)-s)-x.fdiv 262144)::W (u5-1)::r=_;obtain⟨T,P⟩:=y;rw[FQ L v u,eW (x:=u5-1) O O]
def OI(L:bd 268435456 x)(v:bd 2 s)(u:bd 0x50000000 u4)(y:bd 0x70000000 u5)(C:bd 0x50000000 u6)(c: ¬u6<268435456):
    Y1 0 x s (a0::a1::a2::a3::u4::u5::u6::r)=a0::a1::a2::a3::(u4+268435456-s-x/262144)::(u5+536870912-1)::(u6-1)::r:=by
  show a0::a1::a2::a3::W (W (W (u4+268435456)-s)-x.fdiv 262144)::W (W (u5+536870912)-1)::W (u6-1)::r=_;obtain⟨T,P⟩:=y;obtain⟨t,m⟩:=C;rw[FQ L v u,eW (x:=u5+536870912) O O,eW (x:=u5+536870912-1) O O,eW (x:=u6-1) O O]
def OV(L:bd 268435456 x)(v:bd 2 s)(u:bd 0x50000000 u4)(y:bd 0x70000000 u5)(C:bd 0x50000000 u6):
    Zw 0 x s (a0::a1::a2::a3::u4::u5::u6::r)=a0::a1::a2::a3::(u4+268435456-s-x/262144)::(u5+536870912-1)::(u6+268435456-1)::r:=by
  show a0::a1::a2::a3::W (W (W (u4+268435456)-s)-x.fdiv 262144)::W (W (u5+536870912)-1)::W (W (u6+268435456)-1)::r=_;obtain⟨T,P⟩:=y;obtain⟨t,m⟩:=C;rw[FQ L v u,eW (x:=u5+536870912) O O,eW (x:=u5+536870912-1) O O,eW (x:=u6+268435456) O O,eW (x:=u6+268435456-1) O O]
def adi(P a:Bool)(L:bd 268435456 x)(M:1<=x)(v:bd 2 s)(c:bd 0x70000000 u7)(e:bd 0x50000000 u8)(d:bd 0x40000000 u9)
    (k:D (u7<536870912)=P)(u:D (u8<268435456)=a):
    ∃
     n y l,oc P a 0 x s (a0::a1::a2::a3::a4::a5::a6::u7::u8::u9::r)=a0::a1::a2::a3::a4::a5::a6::n::y::l::r/\bd 0x70000000 n/\bd 0x50000000 y/\bd 0x50000000 l/\
     n+y*2^29+l*2^57=u7+u8*2^29+u9*2^57-s-x*33554432%536870912-(x/16)*2^29+x*2^57:=by
  obtain⟨F,H⟩:=L;obtain⟨Q,g⟩:=v;obtain⟨t,m⟩:=c;obtain⟨e0,T⟩:=e;obtain⟨q,o⟩:=d
  have f:oc P a 0 x s (a0::a1::a2::a3::a4::a5::a6::u7::u8::u9::r)=a0::a1::a2::a3::a4::a5::a6::
   W (W ((bif P then W (u7+536870912)else u7)-s)-AN (W (x*33554432)) 536870911)::
   W (W ((bif a then W (u8+268435456)else u8)-bif P then 1 else 0)-x.fdiv 16)::
   W (u9+(bif a then AN (W (x-1)) 4294967295 else AN x 4294967295))::r:=by cases P<;>cases a<;>rfl
  rw[f,CR 33554432 O O,fd4,Wg (x:=x) O O,eW (x:=x-1) O O,Wg (x:=x-1) O O];refine⟨_,_,_,K,?_⟩;cases P<;>cases a<;>simp only[gq,gr]
  .have k:=mS k;have u:=mS u;rw[eW (x:=u7-s) O O,eW (x:=u7-s-_) O O,eW (x:=u8-0) O O,eW (x:=u8-0-x/16) O O,eW (x:=u9+x) O O];exact⟨⟨O,O⟩,⟨O,O⟩,⟨O,O⟩,O⟩
  .have k:=mS k;have u:=fU u;rw[eW (x:=u7-s) O O,eW (x:=u7-s-_) O O,eW (x:=u8+268435456) O O,eW (x:=u8+268435456-0) O O,eW (x:=u8+268435456-0-x/16) O O,eW (x:=u9+(x-1)) O O];exact⟨⟨O,O⟩,⟨O,O⟩,⟨O,O⟩,O⟩
  .have k:=fU k;have u:=mS u;rw[eW (x:=u7+536870912) O O,eW (x:=u7+536870912-s) O O,eW (x:=u7+536870912-s-_) O O,eW (x:=u8-1) O O,eW (x:=u8-1-x/16) O O,eW (x:=u9+x) O O];exact⟨⟨O,O⟩,⟨O,O⟩,⟨O,O⟩,O⟩
  .have k:=fU k;have u:=fU u;rw[eW (x:=u7+536870912) O O,eW (x:=u7+536870912-s) O O,eW (x:=u7+536870912-s-_) O O,eW (x:=u8+268435456) O O,eW (x:=u8+268435456-1) O O,eW (x:=u8+268435456-1-x/16) O O,eW (x:=u9+(x-1)) O O];exact⟨⟨O,O⟩,⟨O,O⟩,⟨O,O⟩,O⟩
end
end
def esc{w S u u3 u4 o i:Int}{H bs R:List Int}{T m C k:es}{p q:Nat->Int}{b:Nat}{Q:V->dE->Prop}(z:d<5)(L:bd 536870912 x)(M:2<=x)(r:bd 2 s)(h7:bd 0x50000000 v)(h8:bd 0x50000000 F)(h9:bd 0x40000000 t):letI a:V:= .i .i64 ((2*d:Nat):Int);letI c:dI:=⟨.ws .u32 H,T⟩;letI e:dI:=⟨.ws .u64 bs,m⟩;letI f:dI:=⟨.ws .u32 R,C⟩;∀(next: ∀n y l:Int,bd 0x50000000 n->bd 0x70000000 y->bd 0x50000000 l->n+y*2^28+l*2^57=v+F*2^28+t*2^57-s-x*16777216%268435456+(x*268435456%536870912)*2^28-(x/16)*2^28+(x/2)*2^57->Ev B CF 93 f93.ntmps b [] (dO 84 (dB f93) []) [(0,.p (E (0,0))),(4,.p (E (3,0))),(9,a)] [c,e,f,⟨.ws .u32 (sH (2*d) (8-2*d) p q [w,S,u,u3,u4,o,i,n,y,l]),k⟩] Q),Ev B CF 93 f93.ntmps b [] (dO 62 (dB f93) []) [(0,.p (E (0,0))),(4,.p (E (3,0))),(6,.i .u32 x),(7,.i .u32 4294967295),(9,a),(11,.i .u32 s)] [c,e,f,⟨.ws .u32 (sH (2*d) (8-2*d) p q [w,S,u,u3,u4,o,i,v,F,t]),k⟩] Q:=by
  intro next;obtain⟨g,h⟩: ∃q,D (v<268435456)=q:=⟨_,K⟩
  obtain⟨P,j⟩: ∃q,D ((ec0 g 0 x s [w,S,u,u3,u4,o,i,v,F,t]).getD 8 0<536870912)=q:=⟨_,K⟩
  obtain⟨n,y,l,el,b7,b8,b9,ev⟩:=ahg g P L M r h7 h8 h9 h j;refine jV (eB Jz) (aGu d z g P) (by rw[h,j];cases g<;>cases P<;>rfl) ?_;rw[el];exact next n y l b7 b8 b9 ev
def esb{u0 u1 u2 u3 T n t:Int}{xs bs tb:List Int}{ta tc td te:es}{p q:Nat->Int}{b:Nat}{Q:V->dE->Prop}(z:d<5)(L:bd 536870912 x)(v:bd 2 s)(u:bd 0x70000000 u4)(y:bd 0x50000000 o)(C:bd 0x70000000 i):letI a:U:= .u32;letI c:V:= .i .i64 ((2*d:Nat):Int);letI e:dI:=⟨.ws .u64 bs,tc⟩;letI f:dI:=⟨.ws a xs,ta⟩;letI g:dI:=⟨.ws a tb,td⟩;letI h:V:= .i a 4294967295;∀(next: ∀k P R H:Int,bd 0x70000000 k->bd 0x50000000 P->bd 0x70000000 R->bd 2 H->k+P*2^29+R*2^57=u4+o*2^29+i*2^57-s-x/262144+H*2^86->Ev B CF 93 f93.ntmps b [] (dO 62 (dB f93) []) [(0,.p (E (0,0))),(4,.p (E (3,0))),(6,.i a x),(7,h),(9,c),(11,.i a H)] [f,e,g,⟨.ws a (sH (2*d) (8-2*d) p q [u0,u1,u2,u3,k,P,R,T,n,t]),te⟩] Q),Ev B CF 93 f93.ntmps b [] (dO 47 (dB f93) []) [(0,.p (E (0,0))),(4,.p (E (3,0))),(6,.i a x),(7,h),(9,c),(10,.i a s),(11,.i a 0)] [f,e,g,⟨.ws a (sH (2*d) (8-2*d) p q [u0,u1,u2,u3,u4,o,i,T,n,t]),te⟩] Q:=by
  intro next;have M:=L;have w:=v;have m:=u;have S:=y;have F:=C;obtain⟨x0,x1⟩:=M;obtain⟨s0,s1⟩:=w;obtain⟨y0,y1⟩:=m;obtain⟨y2,y3⟩:=S;obtain⟨y4,y5⟩:=F;by_cases j:u4<536870912
  .by_cases l:o<268435456
   .by_cases r:i<536870912
    .refine jV (eB Jz) (Xw d z) (by rw[fG j,fG l,fG r];rfl) ?_;rw[N3 L v u y C];exact next _ _ _ 1 ⟨O,O⟩ ⟨O,O⟩ ⟨O,O⟩ ⟨O,O⟩ O
    .refine jV (eB Jz) (UZ d z) (by rw[fG j,fG l,nB r];rfl) ?_;rw[OG L v u y C r];exact next _ _ _ 0 ⟨O,O⟩ ⟨O,O⟩ ⟨O,O⟩ ⟨O,O⟩ O
   .refine jV (eB Jz) (acp d z) (by rw[fG j,nB l];rfl) ?_;rw[S6 L v u y l];exact next _ _ _ 0 ⟨O,O⟩ ⟨O,O⟩ ⟨O,O⟩ ⟨O,O⟩ O
  .refine jV (eB Jz) (aoq d z) (by rw[nB j];rfl) ?_;rw[Xq L v u j];exact next _ _ _ 0 ⟨O,O⟩ ⟨O,O⟩ ⟨O,O⟩ ⟨O,O⟩ O
def osc{w S u u3 u4 o i:Int}{H bs R:List Int}{T m C k:es}{p q:Nat->Int}{b:Nat}{Q:V->dE->Prop}(z:d<4)(L:bd 268435456 x)(M:1<=x)(g:bd 2 s)(h7:bd 0x70000000 v)(h8:bd 0x50000000 F)(h9:bd 0x40000000 t):letI a:dI:=⟨.ws .u32 H,T⟩;letI c:dI:=⟨.ws .u64 bs,m⟩;letI e:dI:=⟨.ws .u32 R,C⟩;∀(next: ∀n y l:Int,bd 0x70000000 n->bd 0x50000000 y->bd 0x50000000 l->n+y*2^29+l*2^57=v+F*2^29+t*2^57-s-x*33554432%536870912-(x/16)*2^29+x*2^57->Ev B CF 93 f93.ntmps b [] (dO 33 (dB f93) []) [(0,.p (E (0,0))),(4,.p (E (3,0))),(9,.i .i64 ((2*d+2:Nat):Int))] [a,c,e,⟨.ws .u32 (sH (2*d+1) (7-2*d) p q [w,S,u,u3,u4,o,i,n,y,l]),k⟩] Q),Ev B CF 93 f93.ntmps b [] (dO 115 (dB f93) []) [(0,.p (E (0,0))),(4,.p (E (3,0))),(6,.i .u32 x),(7,.i .u32 4294967295),(9,.i .i64 ((2*d:Nat):Int)),(13,.i .u32 s),(14,.i .u32 0)] [a,c,e,⟨.ws .u32 (sH (2*d+1) (7-2*d) p q [w,S,u,u3,u4,o,i,v,F,t]),k⟩] Q:=by
  intro next;obtain⟨f,h⟩: ∃q,D (v<536870912)=q:=⟨_,K⟩
  obtain⟨P,j⟩: ∃q,D (F<268435456)=q:=⟨_,K⟩
  obtain⟨n,y,l,el,b7,b8,b9,ev⟩:=adi (a0:=w) (a1:=S) (a2:=u) (a3:=u3) (a4:=u4) (a5:=o) (a6:=i) (r:=[]) f P L M g h7 h8 h9 h j;refine jV (eB Jz) (aCw d z f P) (by rw[h,j];cases f<;>cases P<;>rfl) ?_;rw[el];exact next n y l b7 b8 b9 ev
def osb{u0 u1 u2 u3 T n t:Int}{xs bs tb:List Int}{ta tc td te:es}{p q:Nat->Int}{b:Nat}{Q:V->dE->Prop}(z:d<4)(L:bd 268435456 x)(v:bd 2 s)(u:bd 0x50000000 u4)(y:bd 0x70000000 o)(C:bd 0x50000000 i):letI a:U:= .u32;letI c:V:= .i .i64 ((2*d:Nat):Int);letI e:dI:=⟨.ws .u64 bs,tc⟩;letI f:dI:=⟨.ws a xs,ta⟩;letI g:dI:=⟨.ws a tb,td⟩;letI h:V:= .i a 4294967295;∀(next: ∀k P R H:Int,bd 0x50000000 k->bd 0x70000000 P->bd 0x50000000 R->bd 2 H->k+P*2^28+R*2^57=u4+o*2^28+i*2^57-s-x/262144+H*2^85->Ev B CF 93 f93.ntmps b [] (dO 115 (dB f93) []) [(0,.p (E (0,0))),(4,.p (E (3,0))),(6,.i a x),(7,h),(9,c),(13,.i a H),(14,.i a 0)] [f,e,g,⟨.ws a (sH (2*d+1) (7-2*d) p q [u0,u1,u2,u3,k,P,R,T,n,t]),te⟩] Q),Ev B CF 93 f93.ntmps b [] (dO 100 (dB f93) []) [(0,.p (E (0,0))),(4,.p (E (3,0))),(6,.i a x),(7,h),(9,c),(12,.i a s),(13,.i a 0),(14,.i a 0)] [f,e,g,⟨.ws a (sH (2*d+1) (7-2*d) p q [u0,u1,u2,u3,u4,o,i,T,n,t]),te⟩] Q:=by
  intro next;have M:=L;have w:=v;have m:=u;have S:=y;have F:=C;obtain⟨x0,x1⟩:=M;obtain⟨s0,s1⟩:=w;obtain⟨y0,y1⟩:=m;obtain⟨y2,y3⟩:=S;obtain⟨y4,y5⟩:=F;by_cases j:u4<268435456
  .by_cases l:o<536870912
   .by_cases r:i<268435456
    .refine jV (eB Jz) (U1 d z) (by rw[fG j,fG l,fG r];rfl) ?_;rw[OV L v u y C];exact next _ _ _ 1 ⟨O,O⟩ ⟨O,O⟩ ⟨O,O⟩ ⟨O,O⟩ O
    .refine jV (eB Jz) (VG d z) (by rw[fG j,fG l,nB r];rfl) ?_;rw[OI L v u y C r];exact next _ _ _ 0 ⟨O,O⟩ ⟨O,O⟩ ⟨O,O⟩ ⟨O,O⟩ O
   .refine jV (eB Jz) (acv d z) (by rw[fG j,nB l];rfl) ?_;rw[Tx L v u y l];exact next _ _ _ 0 ⟨O,O⟩ ⟨O,O⟩ ⟨O,O⟩ ⟨O,O⟩ O
  .refine jV (eB Jz) (axn d z) (by rw[nB j];rfl) ?_;rw[Yy L v u j];exact next _ _ _ 0 ⟨O,O⟩ ⟨O,O⟩ ⟨O,O⟩ ⟨O,O⟩ O
def Rs{w S u u3 u4 o i v F t j m g k P R n y l x s H:Int}:letI a:Int:=2^57;letI b:Int:=2^28;letI c:Int:=536870912;letI d:Int:=268435456;∀(L:w%c=x)(T:j+m*b+g*a=S+w/c+u*b+(x*128%c)*b+(u3+x/4194304-x*1024%d+s*d)*a)(f:k+P*2^29+R*a=u4+o*2^29+i*a-s-x/262144+H*2^86)(Q:n+y*b+l*a=v+F*b+t*a-H-x*16777216%d+(x*d%c)*b-(x/16)*b+(x/2)*a),j*2^29+m*a+g*2^86+k*2^114+P*2^143+R*2^171+n*2^200+y*2^228+l*2^257=
      w+S*2^29+u*a+u3*2^86+u4*2^114+o*2^143+i*2^171+v*2^200+F*2^228+t*2^257+x*(2^256-2^224-2^96+2^64-1):=by
  intro L T f Q;have i0:w/536870912*536870912+x=w:=O;have i1:x*128%536870912+536870912*(x/4194304)=x*128:=O;have i2:x*1024%268435456+268435456*(x/262144)=x*1024:=O;have i3:x*16777216%268435456+268435456*(x/16)=x*16777216:=O;have i4:x*268435456%536870912+536870912*(x/2)=x*268435456:=O;generalize w/536870912=z at*;generalize x*128%536870912=m1 at*;generalize x/4194304=p at*;generalize x*1024%268435456=M at*;generalize x/262144=h at*;generalize x*16777216%268435456=C at*;generalize x/16=e at*;generalize x*268435456%536870912=q at*;generalize x/2=r at*;clear L;omega
def Vh{w S u u3 u4 o i v F t j m g k P R n y l x s H:Int}:letI a:Int:=2^57;letI b:Int:=2^29;letI c:Int:=268435456;letI d:Int:=536870912;∀(L:w%c=x)(T:j+m*b+g*a=S+w/c+u*b+(x*128%c)*b+(u3+x/2097152-x*2048%d+s*d)*a)(f:k+P*2^28+R*a=u4+o*2^28+i*a-s-x/262144+H*2^85)(Q:n+y*b+l*a=v+F*b+t*a-H-x*33554432%d-(x/16)*b+x*a),j*2^28+m*a+g*2^85+k*2^114+P*2^142+R*2^171+n*2^199+y*2^228+l*2^256=
      w+S*2^28+u*a+u3*2^85+u4*2^114+o*2^142+i*2^171+v*2^199+F*2^228+t*2^256+x*(2^256-2^224-2^96+2^64-1):=by
  intro L T f Q;have i0:w/268435456*268435456+x=w:=O;have i1:x*128%268435456+268435456*(x/2097152)=x*128:=O;have i2:x*2048%536870912+536870912*(x/262144)=x*2048:=O;have C:x*33554432%536870912+536870912*(x/16)=x*33554432:=O;generalize w/268435456=q at*;generalize x*128%268435456=z at*;generalize x/2097152=p at*;generalize x*2048%536870912=M at*;generalize x/262144=h at*;generalize x*33554432%536870912=r at*;generalize x/16=e at*;clear L;omega
def eh{xs bs tb:List Int}{ta tc td te:es}{p q:Nat->Int}{b:Nat}{Q:V->dE->Prop}(z:d<5)(C:bd 0x90000108 w)(L:bd 0x60000088 S)(h2:bd 0x70000100 u)(h3:bd 0x50000000 u3)(h4:bd 0x70000000 u4)(h5:bd 0x50000000 o)(h6:bd 0x70000000 i)(h7:bd 0x50000000 v)(h8:bd 0x50000000 F)(M:bd 0x40000000 t)(ad:w%536870912≠1):letI a:eZ:=[(0,.p (E (0,0))),(4,.p (E (3,0))),(9,.i .i64 ((2*d:Nat):Int))];letI c:dI:=⟨.ws .u32 xs,ta⟩;letI e:dI:=⟨.ws .u64 bs,tc⟩;letI f:dI:=⟨.ws .u32 tb,td⟩;∀(next: ∀j m g k P R n y l:Int,bd 0x60000090 j->bd 0x90000100 m->bd 0x50000080 g->bd 0x70000000 k->bd 0x50000000 P->bd 0x70000000 R->bd 0x50000000 n->bd 0x70000000 y->bd 0x50000000 l->j*2^29+m*2^57+g*2^86+k*2^114+P*2^143+R*2^171+n*2^200+y*2^228+l*2^257=w+S*2^29+u*2^57+u3*2^86+u4*2^114+o*2^143+i*2^171+v*2^200+F*2^228+t*2^257+w%536870912*(2^256-2^224-2^96+2^64-1)->Ev B CF 93 f93.ntmps b [] (dO 84 (dB f93) []) a [c,e,f,⟨.ws .u32 (sH (2*d) (8-2*d) p q [0,j,m,g,k,P,R,n,y,l]),te⟩] Q),Ev B CF 93 f93.ntmps b [] (dO 33 (dB f93) []) a [c,e,f,⟨.ws .u32 (sH (2*d) (8-2*d) p q [w,S,u,u3,u4,o,i,v,F,t]),te⟩] Q:=by
  intro next;have T:(LZ 0 [w,S,u,u3,u4,o,i,v,F,t])=w%536870912:=DN (x:=w) C.1 (by obtain⟨p,q⟩:=C;omega);have ae:=C.1;by_cases hz:w%536870912=0
  .have hM:e0 0 [w,S,u,u3,u4,o,i,v,F,t]=[0,(S+w/536870912),u,u3,u4,o,i,v,F,t]:=by have:e0 0 [w,S,u,u3,u4,o,i,v,F,t]=[0,(W (S+(w).fdiv 536870912)),u,u3,u4,o,i,v,F,t]:=K;rw[this,He,eW (by obtain⟨p,q⟩:=C;obtain⟨r,s⟩:=L;omega) (by obtain⟨p,q⟩:=C;obtain⟨r,s⟩:=L;omega)]
   refine jV (eB Jz) (aFz d z) (by rw[T,hz];rfl) ?_;rw[hM];refine next _ _ _ _ _ _ _ _ _ ?_ ⟨h2.1,by have:=h2.2;omega⟩ ⟨h3.1,by have:=h3.2;omega⟩ ⟨h4.1,by have:=h4.2;omega⟩ ⟨h5.1,by have:=h5.2;omega⟩ ⟨h6.1,by have:=h6.2;omega⟩ ⟨h7.1,by have:=h7.2;omega⟩ ⟨h8.1,by have:=h8.2;omega⟩ ⟨M.1,by have:=M.2;omega⟩ ?_
   .obtain⟨p,q⟩:=C;obtain⟨r,s⟩:=L;exact⟨O,O⟩
   .rw [hz];have:w/536870912*536870912=w:=O;generalize w/536870912=q at*;clear next;omega
  .obtain⟨H,h⟩: ∃q,D ((ea0 0 [w,S,u,u3,u4,o,i,v,F,t]).getD 3 0<268435456)=q:=⟨_,K⟩
   obtain⟨ex,j,m,g,el,b1,b2,b3,ev⟩:=agd H C L h2 h3 h;have k1:D ((LZ 0 [w,S,u,u3,u4,o,i,v,F,t])>0)=G:=fG (by rw[T];omega);have k2:D (0<(LZ 0 [w,S,u,u3,u4,o,i,v,F,t])/\(LZ 0 [w,S,u,u3,u4,o,i,v,F,t])<=2147483648)=G:=fG (by rw[T];omega);refine jV (eB Jz) (aLu d z H) (by rw[h,k1,k2];cases H<;>rfl) ?_;rw[el,T];have hx:bd 536870912 (w%536870912):=⟨O,O⟩
   refine esb z hx (by cases H<;>exact⟨J,J⟩) h4 h5 h6 λk P R s' b4 b5 b6 ac ab=>?_
   refine esc z hx O ac h7 h8 M λn y l b7 b8 b9 aa=>?_
   refine next j m g k P R n y l b1 b2 b3 b4 b5 b6 b7 b8 b9 ?_;exact Rs K (by rw[ev];cases H<;>rfl) ab aa
def oh{xs bs tb:List Int}{ta tc td te:es}{p q:Nat->Int}{b:Nat}{Q:V->dE->Prop}(z:d<4)(C:bd 0x60000090 w)(M:bd 0x90000100 S)(h2:bd 0x50000080 u)(h3:bd 0x70000000 u3)(h4:bd 0x50000000 u4)(h5:bd 0x70000000 o)(h6:bd 0x50000000 i)(h7:bd 0x70000000 v)(L:bd 0x50000000 F)(f:bd 0x40000000 t):letI a:dI:=⟨.ws .u32 xs,ta⟩;letI c:dI:=⟨.ws .u64 bs,tc⟩;letI e:dI:=⟨.ws .u32 tb,td⟩;∀(next: ∀j m g k P R n y l:Int,bd 0x90000108 j->bd 0x60000088 m->bd 0x70000100 g->bd 0x50000000 k->bd 0x70000000 P->bd 0x50000000 R->bd 0x70000000 n->bd 0x50000000 y->bd 0x50000000 l->j*2^28+m*2^57+g*2^85+k*2^114+P*2^142+R*2^171+n*2^199+y*2^228+l*2^256=w+S*2^28+u*2^57+u3*2^85+u4*2^114+o*2^142+i*2^171+v*2^199+F*2^228+t*2^256+w%268435456*(2^256-2^224-2^96+2^64-1)->Ev B CF 93 f93.ntmps b [] (dO 33 (dB f93) []) [(0,.p (E (0,0))),(4,.p (E (3,0))),(9,.i .i64 ((2*d+2:Nat):Int))] [a,c,e,⟨.ws .u32 (sH (2*d+1) (7-2*d) p q [0,j,m,g,k,P,R,n,y,l]),te⟩] Q),Ev B CF 93 f93.ntmps b [] (dO 84 (dB f93) []) [(0,.p (E (0,0))),(4,.p (E (3,0))),(9,.i .i64 ((2*d:Nat):Int))] [a,c,e,⟨.ws .u32 (sH (2*d+1) (7-2*d) p q [w,S,u,u3,u4,o,i,v,F,t]),te⟩] Q:=by
  intro next;have T:(M8 0 [w,S,u,u3,u4,o,i,v,F,t])=w%268435456:=DS (x:=w) C.1 (by obtain⟨p,q⟩:=C;omega);have ad:=C.1;by_cases hz:w%268435456=0
  .have hM:o0 0 [w,S,u,u3,u4,o,i,v,F,t]=[0,(S+w/268435456),u,u3,u4,o,i,v,F,t]:=by have:o0 0 [w,S,u,u3,u4,o,i,v,F,t]=[0,(W (S+(w).fdiv 268435456)),u,u3,u4,o,i,v,F,t]:=K;rw[this,HC,eW (by obtain⟨p,q⟩:=C;obtain⟨r,s⟩:=M;omega) (by obtain⟨p,q⟩:=C;obtain⟨r,s⟩:=M;omega)]
   refine jV (eB Jz) (aDk d z) (by rw[T,hz];rfl) ?_;rw[hM];refine next _ _ _ _ _ _ _ _ _ ?_ ⟨h2.1,by have:=h2.2;omega⟩ ⟨h3.1,by have:=h3.2;omega⟩ ⟨h4.1,by have:=h4.2;omega⟩ ⟨h5.1,by have:=h5.2;omega⟩ ⟨h6.1,by have:=h6.2;omega⟩ ⟨h7.1,by have:=h7.2;omega⟩ ⟨L.1,by have:=L.2;omega⟩ ⟨f.1,by have:=f.2;omega⟩ ?_
   .obtain⟨p,q⟩:=C;obtain⟨r,s⟩:=M;exact⟨O,O⟩
   .rw [hz];have:w/268435456*268435456=w:=O;generalize w/268435456=q at*;clear next;omega
  .obtain⟨H,h⟩: ∃q,D ((oa0 0 [w,S,u,u3,u4,o,i,v,F,t]).getD 3 0<536870912)=q:=⟨_,K⟩
   obtain⟨ex,j,m,g,el,b1,b2,b3,ev⟩:=aip H C M h2 h3 h;have k1:D ((M8 0 [w,S,u,u3,u4,o,i,v,F,t])>0)=G:=fG (by rw[T];omega);have k2:D (0<(M8 0 [w,S,u,u3,u4,o,i,v,F,t])/\(M8 0 [w,S,u,u3,u4,o,i,v,F,t])<=2147483648)=G:=fG (by rw[T];omega);refine jV (eB Jz) (aKw d z H) (by rw[h,k1,k2];cases H<;>rfl) ?_;rw[el,T];have hx:bd 268435456 (w%268435456):=⟨O,O⟩
   refine osb z hx (by cases H<;>exact⟨J,J⟩) h4 h5 h6 λk P R s' b4 b5 b6 ac ab=>?_
   refine osc z hx O ac h7 L f λn y l b7 b8 b9 aa=>?_
   refine next j m g k P R n y l b1 b2 b3 b4 b5 b6 b7 b8 b9 ?_;exact Vh K (by rw[ev];cases H<;>rfl) ab aa
def dT(h:bd S x)(w:S<=s):bd s x:=⟨h.1,K1 h.2 w⟩
def azt{d f z:Int}(L:bd 536870912 x)(h:w+S*2^29+u*2^57+u3*2^86+u4*2^114+o*2^143+i*2^171+v*2^200+F*2^228+t*2^257+s*2^285+H*2^314+d*2^342+Q*2^371+T*2^399+f*2^428+M*2^456+z*2^485=2^257*C-(x+536870912*q)*(2^256-2^224-2^96+2^64-1)):w%536870912=x:=by obtain⟨p,r⟩:=L;omega
def axe{w S u u3 u4 o i v F t s H d Q T f M z j m g k P R n y l C x q:Int}:letI c:Int:=2^228;letI a:Int:=w+S*2^29+u*2^57+u3*2^86+u4*2^114+o*2^143+i*2^171+v*2^200+F*c+t*2^257;letI b:Int:=2^256-2^224-2^96+2^64-1;∀(h:a+s*2^285+H*2^314+d*2^342+Q*2^371+T*2^399+f*2^428+M*2^456+z*2^485=2^257*C-(x+536870912*q)*(b))(e:j*2^29+m*2^57+g*2^86+k*2^114+P*2^143+R*2^171+n*2^200+y*c+l*2^257=a+x*(b)),j+m*2^28+g*2^57+k*2^85+P*2^114+R*2^142+n*2^171+y*2^199+l*c+s*2^256+H*2^285+d*2^313+Q*2^342+T*2^370+f*2^399+M*2^427+z*2^456=c*C-q*(b):=by intro h e;omega
def avd{d f:Int}(L:bd 268435456 x)(h:w+S*2^28+u*2^57+u3*2^85+u4*2^114+o*2^142+i*2^171+v*2^199+F*2^228+t*2^256+s*2^285+H*2^313+d*2^342+Q*2^370+T*2^399+f*2^427+M*2^456=2^228*C-(x+268435456*q)*(2^256-2^224-2^96+2^64-1)):w%268435456=x:=by obtain⟨p,r⟩:=L;omega
def avw{w S u u3 u4 o i v F t s H d Q T f M j m g k P R n y l C x q:Int}:letI c:Int:=2^228;letI a:Int:=w+S*2^28+u*2^57+u3*2^85+u4*2^114+o*2^142+i*2^171+v*2^199+F*c+t*2^256;letI b:Int:=2^256-2^224-2^96+2^64-1;∀(h:a+s*2^285+H*2^313+d*2^342+Q*2^370+T*2^399+f*2^427+M*2^456=c*C-(x+268435456*q)*(b))(e:j*2^28+m*2^57+g*2^85+k*2^114+P*2^142+R*2^171+n*2^199+y*c+l*2^256=a+x*(b)),j+m*2^29+g*2^57+k*2^86+P*2^114+R*2^143+n*2^171+y*2^200+l*c+s*2^257+H*2^285+d*2^314+Q*2^342+T*2^371+f*2^399+M*2^428=2^200*C-q*(b):=by intro h e;omega
def awb{d f:Int}(L:bd 536870912 x)(h:w+S*2^29+u*2^57+u3*2^86+u4*2^114+o*2^143+i*2^171+v*2^200+F*2^228+t*2^257+s*2^285+H*2^314+d*2^342+Q*2^371+T*2^399+f*2^428=2^200*C-(x+536870912*q)*(2^256-2^224-2^96+2^64-1)):w%536870912=x:=by obtain⟨p,r⟩:=L;omega
def amk{w S u u3 u4 o i v F t s H d Q T f j m g k P R n y l C x q:Int}:letI c:Int:=2^171;letI a:Int:=w+S*2^29+u*2^57+u3*2^86+u4*2^114+o*2^143+i*c+v*2^200+F*2^228+t*2^257;letI b:Int:=2^256-2^224-2^96+2^64-1;∀(h:a+s*2^285+H*2^314+d*2^342+Q*2^371+T*2^399+f*2^428=2^200*C-(x+536870912*q)*(b))(e:j*2^29+m*2^57+g*2^86+k*2^114+P*2^143+R*c+n*2^200+y*2^228+l*2^257=a+x*(b)),j+m*2^28+g*2^57+k*2^85+P*2^114+R*2^142+n*c+y*2^199+l*2^228+s*2^256+H*2^285+d*2^313+Q*2^342+T*2^370+f*2^399=c*C-q*(b):=by intro h e;omega
def ayr{d:Int}(L:bd 268435456 x)(h:w+S*2^28+u*2^57+u3*2^85+u4*2^114+o*2^142+i*2^171+v*2^199+F*2^228+t*2^256+s*2^285+H*2^313+d*2^342+Q*2^370+T*2^399=2^171*C-(x+268435456*q)*(2^256-2^224-2^96+2^64-1)):w%268435456=x:=by obtain⟨p,r⟩:=L;omega
def ald{w S u u3 u4 o i v F t s H d Q T j m g k P R n y l C x q:Int}:letI c:Int:=2^171;letI a:Int:=w+S*2^28+u*2^57+u3*2^85+u4*2^114+o*2^142+i*c+v*2^199+F*2^228+t*2^256;letI b:Int:=2^256-2^224-2^96+2^64-1;∀(h:a+s*2^285+H*2^313+d*2^342+Q*2^370+T*2^399=c*C-(x+268435456*q)*(b))(e:j*2^28+m*2^57+g*2^85+k*2^114+P*2^142+R*c+n*2^199+y*2^228+l*2^256=a+x*(b)),j+m*2^29+g*2^57+k*2^86+P*2^114+R*2^143+n*c+y*2^200+l*2^228+s*2^257+H*2^285+d*2^314+Q*2^342+T*2^371=2^143*C-q*(b):=by intro h e;omega
def amp{d:Int}(L:bd 536870912 x)(h:w+S*2^29+u*2^57+u3*2^86+u4*2^114+o*2^143+i*2^171+v*2^200+F*2^228+t*2^257+s*2^285+H*2^314+d*2^342+Q*2^371=2^143*C-(x+536870912*q)*(2^256-2^224-2^96+2^64-1)):w%536870912=x:=by obtain⟨p,r⟩:=L;omega
def aAj{w S u u3 u4 o i v F t s H d Q j m g k P R n y l C x q:Int}:letI c:Int:=2^114;letI a:Int:=w+S*2^29+u*2^57+u3*2^86+u4*c+o*2^143+i*2^171+v*2^200+F*2^228+t*2^257;letI b:Int:=2^256-2^224-2^96+2^64-1;∀(h:a+s*2^285+H*2^314+d*2^342+Q*2^371=2^143*C-(x+536870912*q)*(b))(e:j*2^29+m*2^57+g*2^86+k*c+P*2^143+R*2^171+n*2^200+y*2^228+l*2^257=a+x*(b)),j+m*2^28+g*2^57+k*2^85+P*c+R*2^142+n*2^171+y*2^199+l*2^228+s*2^256+H*2^285+d*2^313+Q*2^342=c*C-q*(b):=by intro h e;omega
def auf{d:Int}(L:bd 268435456 x)(h:w+S*2^28+u*2^57+u3*2^85+u4*2^114+o*2^142+i*2^171+v*2^199+F*2^228+t*2^256+s*2^285+H*2^313+d*2^342=2^114*C-(x+268435456*q)*(2^256-2^224-2^96+2^64-1)):w%268435456=x:=by obtain⟨p,r⟩:=L;omega
def amb{w S u u3 u4 o i v F t s H d j m g k P R n y l C x q:Int}:letI c:Int:=2^114;letI a:Int:=w+S*2^28+u*2^57+u3*2^85+u4*c+o*2^142+i*2^171+v*2^199+F*2^228+t*2^256;letI b:Int:=2^256-2^224-2^96+2^64-1;∀(h:a+s*2^285+H*2^313+d*2^342=c*C-(x+268435456*q)*(b))(e:j*2^28+m*2^57+g*2^85+k*c+P*2^142+R*2^171+n*2^199+y*2^228+l*2^256=a+x*(b)),j+m*2^29+g*2^57+k*2^86+P*c+R*2^143+n*2^171+y*2^200+l*2^228+s*2^257+H*2^285+d*2^314=2^86*C-q*(b):=by intro h e;omega
def akp(L:bd 536870912 x)(h:w+S*2^29+u*2^57+u3*2^86+u4*2^114+o*2^143+i*2^171+v*2^200+F*2^228+t*2^257+s*2^285+H*2^314=2^86*C-(x+536870912*q)*(2^256-2^224-2^96+2^64-1)):w%536870912=x:=by obtain⟨p,r⟩:=L;omega
def aps{w S u u3 u4 o i v F t s H j m g k P R n y l C x q:Int}:letI a:Int:=w+S*2^29+u*2^57+u3*2^86+u4*2^114+o*2^143+i*2^171+v*2^200+F*2^228+t*2^257;letI b:Int:=2^256-2^224-2^96+2^64-1;∀(h:a+s*2^285+H*2^314=2^86*C-(x+536870912*q)*(b))(e:j*2^29+m*2^57+g*2^86+k*2^114+P*2^143+R*2^171+n*2^200+y*2^228+l*2^257=a+x*(b)),j+m*2^28+g*2^57+k*2^85+P*2^114+R*2^142+n*2^171+y*2^199+l*2^228+s*2^256+H*2^285=2^57*C-q*(b):=by intro h e;omega
def aut(L:bd 268435456 x)(h:w+S*2^28+u*2^57+u3*2^85+u4*2^114+o*2^142+i*2^171+v*2^199+F*2^228+t*2^256+s*2^285=2^57*C-(x+268435456*q)*(2^256-2^224-2^96+2^64-1)):w%268435456=x:=by obtain⟨p,r⟩:=L;omega
def azg{w S u u3 u4 o i v F t s j m g k P R n y l C x q:Int}:letI a:Int:=w+S*2^28+u*2^57+u3*2^85+u4*2^114+o*2^142+i*2^171+v*2^199+F*2^228+t*2^256;letI b:Int:=2^256-2^224-2^96+2^64-1;∀(h:a+s*2^285=2^57*C-(x+268435456*q)*(b))(e:j*2^28+m*2^57+g*2^85+k*2^114+P*2^142+R*2^171+n*2^199+y*2^228+l*2^256=a+x*(b)),j+m*2^29+g*2^57+k*2^86+P*2^114+R*2^143+n*2^171+y*2^200+l*2^228+s*2^257=2^29*C-q*(b):=by intro h e;omega
def axw(L:bd 536870912 x)(h:w+S*2^29+u*2^57+u3*2^86+u4*2^114+o*2^143+i*2^171+v*2^200+F*2^228+t*2^257=2^29*C-(x+536870912*q)*(2^256-2^224-2^96+2^64-1)):w%536870912=x:=by obtain⟨p,r⟩:=L;omega
def ark{w S u u3 u4 o i v F t j m g k P R n y l C x q:Int}:letI a:Int:=w+S*2^29+u*2^57+u3*2^86+u4*2^114+o*2^143+i*2^171+v*2^200+F*2^228+t*2^257;letI b:Int:=2^256-2^224-2^96+2^64-1;∀(h:a=2^29*C-(x+536870912*q)*(b))(e:j*2^29+m*2^57+g*2^86+k*2^114+P*2^143+R*2^171+n*2^200+y*2^228+l*2^257=a+x*(b)),j+m*2^28+g*2^57+k*2^85+P*2^114+R*2^142+n*2^171+y*2^199+l*2^228=2^0*C-q*(b):=by intro h e;omega
def ajm{t0 t1 t2 t3 t4 t5 t6 t7 t8 t9 r h y l C q1 q2 q3 q4 q5 q6 q7 q8 q9 x0 x1 x2 x3 x4 x5 x6 x7 x8:Int}{ys bs tb:List Int}{ta tc td te:es}{b:Nat}{Q:V->dE->Prop}(cm:bd 0x40000000 t0)(cl:bd 0x40000000 t1)(ck:bd 0x40000000 t2)(cj:bd 0x40000000 t3)(ci:bd 0x40000000 t4)(ch:bd 0x40000000 t5)(cg:bd 0x40000000 t6)(cf:bd 0x40000000 t7)(ce:bd 0x40000000 t8)(cd:bd 0x40000000 t9)(a4:bd 0x40000000 r)(a3:bd 0x40000000 h)(a2:bd 0x40000000 S)(a1:bd 0x40000000 y)(a0:bd 0x40000000 x)(aZ:bd 0x40000000 l)(aY:bd 0x40000000 i)(aX:bd 0x40000000 t):letI a:Int:=536870912;letI c:Int:=268435456;letI d:dI:=⟨.ws .u32 ys,ta⟩;letI e:dI:=⟨.ws .u64 bs,tc⟩;letI f:dI:=⟨.ws .u32 tb,td⟩;∀(aW:bd a x0)(aV:bd c x1)(aU:bd a x2)(aT:bd c x3)(aS:bd a x4)(aR:bd c x5)(aQ:bd a x6)(aP:bd c x7)(aO:bd a x8)(be:q1=x1+c*q2)(bc:q2=x2+a*q3)(bb:q3=x3+c*q4)(ba:q4=x4+a*q5)(a9:q5=x5+c*q6)(a8:q6=x6+a*q7)(a7:q7=x7+c*q8)(a6:q8=x8+a*q9)(a5:q9=0)(bj:x0≠1)(bi:x2≠1)(bh:x4≠1)(bg:x6≠1)(bf:x8≠1)(hR:t0+t1*2^29+t2*2^57+t3*2^86+t4*2^114+t5*2^143+t6*2^171+t7*2^200+t8*2^228+t9*2^257+r*2^285+h*2^314+S*2^342+y*2^371+x*2^399+l*2^428+i*2^456+t*2^485=2^257*C-(x0+a*q1)*(2^256-2^224-2^96+2^64-1))(next: ∀v9 M T F R L P H j:Int,bd 0x60000090 v9->bd 0x90000100 M->bd 0x50000080 T->bd 0x70000000 F->bd 0x50000000 R->bd 0x70000000 L->bd 0x50000000 P->bd 0x70000000 H->bd 0x50000000 j->v9+M*2^28+T*2^57+F*2^85+R*2^114+L*2^142+P*2^171+H*2^199+j*2^228=C->Ev B CF 93 f93.ntmps b [] (dO 84 (dB f93) []) [(0,.p (E (0,0))),(4,.p (E (3,0))),(9,.i .i64 8)] [d,e,f,⟨.ws .u32 [0,0,0,0,0,0,0,0,0,v9,M,T,F,R,L,P,H,j],te⟩] Q),Ev B CF 93 f93.ntmps b [] (dO 33 (dB f93) []) [(0,.p (E (0,0))),(4,.p (E (3,0))),(9,.i .i64 0)] [d,e,f,⟨.ws .u32 [t0,t1,t2,t3,t4,t5,t6,t7,t8,t9,r,h,S,y,x,l,i,t],te⟩] Q:=by
  intro aW aV aU aT aS aR aQ aP aO be bc bb ba a9 a8 a7 a6 a5 bj bi bh bg bf hR next;have d0:=azt aW hR;refine eh (d:=0) (p:=λ_=>0) (q:=λk=>[r,h,S,y,x,l,i,t].getD k 0) J (dT cm J) (dT cl J) (dT ck J) (dT cj J) (dT ci J) (dT ch J) (dT cg J) (dT cf J) (dT ce J) (dT cd J) (by rw[d0];exact bj) λdA dz dy dx dw dv du dt ds cb ca b9 b8 b7 b6 b5 b3 b2 e0=>?_
  rw[d0]at e0;have R0:=axe hR e0;rw[be]at R0;have d1:=avd aV R0;refine oh (d:=0) (p:=λ_=>0) (q:=λk=>[h,S,y,x,l,i,t].getD k 0) J (dT cb J) (dT ca J) (dT b9 J) (dT b8 J) (dT b7 J) (dT b6 J) (dT b5 J) (dT b3 J) (dT b2 J) (dT a4 J) λdr dq dp dn dm dl dk dj cO b1 b0 bZ bY bX bW bV bU aE e1=>?_
  rw[d1]at e1;have R1:=avw R0 e1;rw[bc]at R1;have d2:=awb aU R1;refine eh (d:=1) (p:=λ_=>0) (q:=λk=>[S,y,x,l,i,t].getD k 0) J (dT b1 J) (dT b0 J) (dT bZ J) (dT bY J) (dT bX J) (dT bW J) (dT bV J) (dT bU J) (dT aE J) (dT a3 J) (by rw[d2];exact bi) λdi dh df de dc db da cN cM bS bR bQ bP bO bM bK aD aC e2=>?_
  rw[d2]at e2;have R2:=amk R1 e2;rw[bb]at R2;have d3:=ayr aT R2;refine oh (d:=1) (p:=λ_=>0) (q:=λk=>[y,x,l,i,t].getD k 0) J (dT bS J) (dT bR J) (dT bQ J) (dT bP J) (dT bO J) (dT bM J) (dT bK J) (dT aD J) (dT aC J) (dT a2 J) λc9 c8 c7 c6 c5 c4 cL cK cJ bJ bH bG bE bD bC aB aA az e3=>?_
  rw[d3]at e3;have R3:=ald R2 e3;rw[ba]at R3;have d4:=amp aS R3;refine eh (d:=2) (p:=λ_=>0) (q:=λk=>[x,l,i,t].getD k 0) J (dT bJ J) (dT bH J) (dT bG J) (dT bE J) (dT bD J) (dT bC J) (dT aB J) (dT aA J) (dT az J) (dT a1 J) (by rw[d4];exact bh) λc3 c2 c1 c0 cZ cI cH cG cF bB bA bz bx bv ay ax aw av e4=>?_
  rw[d4]at e4;have R4:=aAj R3 e4;rw[a9]at R4;have d5:=auf aR R4;refine oh (d:=2) (p:=λ_=>0) (q:=λk=>[l,i,t].getD k 0) J (dT bB J) (dT bA J) (dT bz J) (dT bx J) (dT bv J) (dT ay J) (dT ax J) (dT aw J) (dT av J) (dT a0 J) λcY cX cW cV cE cD cC cB cA bu bt br bq ar aq ap ao an e5=>?_
  rw[d5]at e5;have R5:=amb R4 e5;rw[a8]at R5;have d6:=akp aQ R5;refine eh (d:=3) (p:=λ_=>0) (q:=λk=>[i,t].getD k 0) J (dT bu J) (dT bt J) (dT br J) (dT bq J) (dT ar J) (dT aq J) (dT ap J) (dT ao J) (dT an J) (dT aZ J) (by rw[d6];exact bg) λcU cS cR cz cy cx cw cv cu bp bo bn am al ak aj ah ag e6=>?_
  rw[d6]at e6;have R6:=aps R5 e6;rw[a7]at R6;have d7:=aut aP R6;refine oh (d:=3) (p:=λ_=>0) (q:=λk=>[t].getD k 0) J (dT bp J) (dT bo J) (dT bn J) (dT am J) (dT al J) (dT ak J) (dT aj J) (dT ah J) (dT ag J) (dT aY J) λcQ cP ct cs cr cq cp co cn bm bl af ae ad ac ab aa z e7=>?_
  rw[d7]at e7;have R7:=azg R6 e7;rw[a6]at R7;have d8:=axw aO R7;refine eh (d:=4) (p:=λ_=>0) (q:=λk=>[].getD k 0) J (dT bm J) (dT bl J) (dT af J) (dT ae J) (dT ad J) (dT ac J) (dT ab J) (dT aa J) (dT z J) (dT aX J) (by rw[d8];exact bf) λcc aM aL aK aJ aI aH aG aF bk g o n v w u m s e8=>?_
  rw[d8]at e8;have R8:=ark R7 e8;rw[a5]at R8;exact next cc aM aL aK aJ aI aH aG aF bk g o n v w u m s (by rw[R8];omega)
def UG{p q b c:Int}:letI a:Int:=18446744073709551616;∀(g:bd a p)(z:bd a q)(H:bd a b)(s:bd 16 c),PD A p q b c=p/144115188075855872+q/268435456%536870912+b%536870912+c:=by
  intro g z H s;obtain⟨o,h⟩:=g;obtain⟨u,v⟩:=z;obtain⟨T,P⟩:=H;obtain⟨j,k⟩:=s;unfold PD;have w: ∀x:Int,x.fdiv 4294967296=x/4294967296:=λx=>fd 4294967296
  have i: ∀x:Int,x.fdiv 33554432=x/33554432:=λx=>fd 33554432
  simp only[w,i,HC];rw[eW (x:=p/4294967296) O O,eW (x:=q/4294967296) O O,CR 16 O O,DN (x:=W b) (by rw[qe];omega) (by rw[qe];omega),qe q,qe b];have M:q%4294967296/268435456+q/4294967296*16%536870912=q/268435456%536870912:=O;have S:p/4294967296/33554432=p/144115188075855872:=O;have l:b%4294967296%536870912=b%536870912:=O;rw[S,l];have n:0<=p/144115188075855872/\p/144115188075855872<128:=O;have C:0<=q%4294967296/268435456/\q%4294967296/268435456<16:=O;have F:0<=q/4294967296*16%536870912/\q/4294967296*16%536870912<536870912:=O;have r:0<=b%536870912/\b%536870912<536870912:=O;rw[<-M];generalize p/144115188075855872=a at*;generalize q%4294967296/268435456=d at*;generalize q/4294967296*16%536870912=e at*;generalize b%536870912=f at*;rw[eW (x:=a+d) O O,eW (x:=a+d+e) O O,eW (x:=a+d+e+f) O O,eW O O];omega
def X9{p q b c:Int}:letI a:Int:=18446744073709551616;∀(g:bd a p)(z:bd a q)(H:bd a b)(s:bd 16 c),PD G p q b c=p/144115188075855872+q/536870912%268435456+b%268435456+c:=by
  intro g z H s;obtain⟨o,h⟩:=g;obtain⟨u,v⟩:=z;obtain⟨T,P⟩:=H;obtain⟨j,k⟩:=s;unfold PD;have w: ∀x:Int,x.fdiv 4294967296=x/4294967296:=λx=>fd 4294967296
  have i: ∀x:Int,x.fdiv 33554432=x/33554432:=λx=>fd 33554432
  simp only[w,i,He];rw[eW (x:=p/4294967296) O O,eW (x:=q/4294967296) O O,IT 8 O O,DS (x:=W b) (by rw[qe];omega) (by rw[qe];omega),qe q,qe b];have M:q%4294967296/536870912+q/4294967296*8%268435456=q/536870912%268435456:=O;have S:p/4294967296/33554432=p/144115188075855872:=O;have l:b%4294967296%268435456=b%268435456:=O;rw[S,l];have n:0<=p/144115188075855872/\p/144115188075855872<128:=O;have C:0<=q%4294967296/536870912/\q%4294967296/536870912<8:=O;have F:0<=q/4294967296*8%268435456/\q/4294967296*8%268435456<268435456:=O;have r:0<=b%268435456/\b%268435456<268435456:=O;rw[<-M];generalize p/144115188075855872=a at*;generalize q%4294967296/536870912=d at*;generalize q/4294967296*8%268435456=e at*;generalize b%268435456=f at*;rw[eW (x:=a+d) O O,eW (x:=a+d+e) O O,eW (x:=a+d+e+f) O O,eW O O];omega
def V3{p c:Int}(g:bd 18446744073709551616 p)(z:bd 288230376151711744 q)(s:bd 16 c):
    W (W (W ((W (p.fdiv 4294967296)).fdiv 33554432+(W q).fdiv 536870912)+W (W (q.fdiv 4294967296)*8))+c)=p/144115188075855872+q/536870912+c:=by
  obtain⟨o,b⟩:=g;obtain⟨u,v⟩:=z;obtain⟨j,k⟩:=s;have w: ∀x:Int,x.fdiv 4294967296=x/4294967296:=λx=>fd 4294967296
  have i: ∀x:Int,x.fdiv 33554432=x/33554432:=λx=>fd 33554432
  simp only[w,i,He];rw[eW (x:=p/4294967296) O O,eW (x:=q/4294967296) O O,eW (x:=q/4294967296*8) O O,qe q];have M:q%4294967296/536870912+q/4294967296*8=q/536870912:=O;have S:p/4294967296/33554432=p/144115188075855872:=O;rw[S,<-M];have n:0<=p/144115188075855872/\p/144115188075855872<128:=O;have C:0<=q%4294967296/536870912/\q%4294967296/536870912<8:=O;have F:0<=q/4294967296*8/\q/4294967296*8<536870912:=O;generalize p/144115188075855872=a at*;generalize q%4294967296/536870912=d at*;generalize q/4294967296*8=e at*;rw[eW (x:=a+d) O O,eW (x:=a+d+e) O O,eW O O];omega
def GN:letI a:Int:=18446744073709551616;∀(r:List Int)(o:Bool)(p q c:Int),bd a p->bd a q->(∀b∈r,bd a b)->bd 16 c->o=(r.length%2==0)->bd 288230376151711744 ((q::r).getLastD 0)->
    mA o (TS o p q r c)=c+p/144115188075855872+q/(bif o then 536870912 else 268435456)+mA o r/\ ∀x∈TS o p q r c,bd 0x40000000 x
  |[],o,p,q,c,g,z,_,s,F,f=>by
   have:o=G:=F;subst this;have f:bd 288230376151711744 q:=f
   have e:TS G p q [] c=[p/144115188075855872+q/536870912+c]:=by rw[<-V3 g f s];rfl
   rw[e];obtain⟨C,d⟩:=g;obtain⟨u,t⟩:=f;obtain⟨j,k⟩:=s;refine⟨?_,λx L=>?_⟩
   .simp only[mA,gq];omega
   .rw [tI.1 L];exact⟨O,O⟩
  |b::r,A,p,q,c,g,z,H,s,F,f=>by
   have h:=H b (jt ..);have m:=UG g z h s;have e:TS A p q (b::r) c=AN (PD A p q b c) 536870911::TS G q b r ((PD A p q b c).fdiv 536870912):=K;have i:=g;have w:=z;have n:=h;have l:=s;obtain⟨C,d⟩:=i;obtain⟨u,t⟩:=w;obtain⟨T,P⟩:=n;obtain⟨j,k⟩:=l;rw[e,m,He,DN O O]
   have v:=GN r G q b ((p/144115188075855872+q/268435456%536870912+b%536870912+c)/536870912) z h (λy Q=>H y (jh _ Q)) ⟨O,O⟩ (by
     have:(b::r).length%2=(r.length+1)%2:=K;rw[this]at F;have S:=zi r.length;rcases S with S|S
     .rw [S];rfl
     .rw [(O:(r.length+1)%2=0)]at F;cases F) (by simpa using f)
   refine⟨?_,λx L=>?_⟩
   .simp only[mA,v.1,gq,gr];omega
   .rcases kh.1 L with rfl|L
    .exact⟨O,O⟩
    .exact v.2 x L
  |b::r,G,p,q,c,g,z,H,s,F,f=>by
   have h:=H b (jt ..);have m:=X9 g z h s;have e:TS G p q (b::r) c=AN (PD G p q b c) 268435455::TS A q b r ((PD G p q b c).fdiv 268435456):=K;have i:=g;have w:=z;have n:=h;have l:=s;obtain⟨C,d⟩:=i;obtain⟨u,t⟩:=w;obtain⟨T,P⟩:=n;obtain⟨j,k⟩:=l;rw[e,m,HC,DS O O]
   have v:=GN r A q b ((p/144115188075855872+q/536870912%268435456+b%268435456+c)/268435456) z h (λy Q=>H y (jh _ Q)) ⟨O,O⟩ (by
     have:(b::r).length%2=(r.length+1)%2:=K;rw[this]at F;have S:=zi r.length;rcases S with S|S
     .rw [(O:(r.length+1)%2=1)]at F;cases F
     .rw [S];rfl) (by simpa using f)
   refine⟨?_,λx L=>?_⟩
   .simp only[mA,v.1,gq,gr];omega
   .rcases kh.1 L with rfl|L
    .exact⟨O,O⟩
    .exact v.2 x L
def ahw{a b:Int}(t:bd 18446744073709551616 a)(H:bd 18446744073709551616 b):nm1 a b=a/536870912%268435456+b%268435456:=by
  obtain⟨q,c⟩:=t;obtain⟨T,P⟩:=H;have w: ∀x:Int,x.fdiv 4294967296=x/4294967296:=λx=>fd 4294967296
  unfold nm1;simp only[w,He];rw[eW (x:=a/4294967296) O O,IT 8 O O,DS (x:=W b) (by rw[qe];omega) (by rw[qe];omega),qe a,qe b];have l:b%4294967296%268435456=b%268435456:=O;have M:a%4294967296/536870912+a/4294967296*8%268435456=a/536870912%268435456:=O;obtain⟨d,z⟩:=fy (a:=a%4294967296/536870912) O;obtain⟨e,j⟩:=fy (a:=a/4294967296*8%268435456/8) O;have h:a/4294967296*8%268435456=((e*8:Nat):Int):=O
  have F:eA .or .u32 (a%4294967296/536870912) (a/4294967296*8%268435456)=a/536870912%268435456:=by rw[<-M,z,h,Jh _ _ O O];have:=ud (i:=3) (b:=d) O e;rw[Hb,(O:e*8=2^3*e),<-this];omega
  rw[F,l,eW O O]
def Qn{a b:Int}{r:List Int}:letI c:Int:=18446744073709551616;letI d:=a::b::r;∀(t:bd c a)(H:bd c b)(y: ∀x∈r,bd c x)(g:r.length%2=1)(f:bd 288230376151711744 ((b::r).getLastD 0)),mA A (J5 d)=mA A d/\ ∀x∈J5 d,bd 0x40000000 x:=by
  intro t H y g f;have e:J5 (a::b::r)=AN (W a) 536870911::AN (nm1 a b) 268435455::TS A a b r ((nm1 a b).fdiv 268435456):=K;have s:=t;have z:=H;obtain⟨q,F⟩:=s;obtain⟨T,P⟩:=z;rw[e,ahw t H,HC,DS O O,DN (x:=W a) (by rw[qe];omega) (by rw[qe];omega),qe a];obtain⟨M,S⟩:=GN r A a b ((a/536870912%268435456+b%268435456)/268435456) t H y ⟨O,O⟩ (by rw[g];rfl) f;refine⟨?_,λx L=>?_⟩
  .simp only[mA,M,gr];omega
  .rcases kh.1 L with rfl|L
   .exact⟨O,O⟩
   .rcases kh.1 L with rfl|L
    .exact⟨O,O⟩
    .exact S x L
def yv{c:Int}(r:bd 0x70000000 t)(F:bd 0x90000100 u)(d:bd 8 c):letI a:Int:=268435456;letI b:Int:=536870912;∃
      s m,W (W (t+c)+AN (W (u*a)) 536870911)=s/\W (u.fdiv 2+s.fdiv b)=m/\bd 4294967296 s/\bd 0x70000000 m/\bd 8 (m.fdiv a)/\
      AN s 536870911=s%b/\AN m 268435455=m%a/\s%b+b*(m%a)+144115188075855872*m.fdiv a=t+c+u*a:=by
  obtain⟨L,v⟩:=r;obtain⟨w,S⟩:=F;obtain⟨j,k⟩:=d;refine⟨t+c+u*268435456%536870912,u/2+(t+c+u*268435456%536870912)/536870912,?_,?_,⟨O,O⟩,⟨O,O⟩,?_,DN O O,DS O O,?_⟩
  .rw [CR 268435456 O O,eW (x:=t+c) O O,eW O O]
  .rw [fd1,He,eW O O]
  .rw [HC];exact⟨O,O⟩
  .rw [HC];omega
def UI{l R L P j:Int}(h9:bd 0x60000090 l)(t:bd 0x90000100 M)(v:bd 0x50000080 T)(s:bd 0x70000000 F)(o:bd 0x50000000 R)(f:bd 0x70000000 L)(p:bd 0x50000000 P)(r:bd 0x70000000 H)(q:bd 0x50000000 j):letI a:Int:=536870912;letI b:Int:=268435456;∃
      a0 a1 a2 a3 a4 a5 a6 a7 z k:Int,Dp A [l,M,T,F,R,L,P,H,j] 0=([a0,a1,a2,a3,a4,a5,a6,a7,z],k)/\bd a a0/\bd b a1/\bd a a2/\bd b a3/\bd a a4/\bd b a5/\bd a a6/\bd b a7/\bd a z/\bd 8 k/\
      a0+a1*2^29+a2*2^57+a3*2^86+a4*2^114+a5*2^143+a6*2^171+a7*2^200+z*2^228+k*2^257=
       l+M*2^28+T*2^57+F*2^85+R*2^114+L*2^142+P*2^171+H*2^199+j*2^228:=by
  have m: ∀{S x:Int},bd S x->S<=0x70000000->bd 0x70000000 x:=λh w=>dT h w
  have u: ∀{S x:Int},bd S x->S<=0x90000100->bd 0x90000100 x:=λh w=>dT h w
  obtain⟨s0,C,e0,f0,p0,q0,c0,n0,o0,v0⟩:=yv (m h9 J) (u t J) (c:=0) ⟨J,J⟩;obtain⟨s1,g,e1,f1,p1,q1,c1,n1,o1,v1⟩:=yv (m v J) (u s J) c0;obtain⟨s2,Q,e2,f2,p2,q2,c2,n2,o2,v2⟩:=yv (m o J) (u f J) c1;obtain⟨s3,i,e3,f3,p3,q3,d,n3,o3,v3⟩:=yv (m p J) (u r J) c2;have hW:W (j+i.fdiv 268435456)=j+i.fdiv 268435456:=eW (by have:=q.1;have:=d.1;omega) (by have:=q.2;have:=d.2;omega);have e:bd 4294967296 (j+i.fdiv 268435456):=⟨by have:=q.1;have:=d.1;omega,by have:=q.2;have:=d.2;omega⟩
  have hl:Dp A [l,M,T,F,R,L,P,H,j] 0=([s0%536870912,C%268435456,s1%536870912,g%268435456,s2%536870912,Q%268435456,s3%536870912,i%268435456,(j+i.fdiv 268435456)%536870912],(j+i.fdiv 268435456)/536870912):=by simp only[Dp];rw[e0,f0,e1,f1,e2,f2,e3,f3,hW,n0,o0,n1,o1,n2,o2,n3,o3,DN e.1 e.2,He]
  refine⟨_,_,_,_,_,_,_,_,_,_,hl,⟨O,O⟩,⟨O,O⟩,⟨O,O⟩,⟨O,O⟩,⟨O,O⟩,⟨O,O⟩,⟨O,O⟩,⟨O,O⟩,⟨O,O⟩,?_,?_⟩
  .obtain⟨x,y⟩:=e;exact⟨O,O⟩
  .generalize C.fdiv 268435456=d0 at*;generalize g.fdiv 268435456=d1 at*;generalize Q.fdiv 268435456=d2 at*;generalize i.fdiv 268435456=n at*;have hz:(j+n)%536870912+536870912*((j+n)/536870912)=j+n:=O;generalize(j+n)%536870912=g0 at*;generalize(j+n)/536870912=g1 at*;generalize s0%536870912=g2 at*;generalize s1%536870912=g3 at*;generalize s2%536870912=g4 at*;generalize s3%536870912=g5 at*;generalize C%268435456=g6 at*;generalize g%268435456=g7 at*;generalize Q%268435456=g8 at*;generalize i%268435456=g9 at*;omega
def Jq{y p n a:Int}{k:Nat}(R:k<8)(C:bd 536870912 q)(h1:bd 268435456 F)(S:bd 536870912 y)(l:bd 268435456 H)(c:bd 268435456 n):
    ∃
     T L s h:Int,AZ k [q,F,y,H,M,p,v,n,a]=[T,F,L,s,M,p,v,h,a]/\bd 536870928 T/\bd 1073741824 L/\bd 268451840 s/\bd 536870912 h/\
     T+L*2^57+s*2^86+h*2^200=q+y*2^57+H*2^86+n*2^200+k*(2^225+2^97-2^65+2):=by
  obtain⟨r,b⟩:=C;obtain⟨w,f⟩:=S;obtain⟨P,o⟩:=l;obtain⟨m,Q⟩:=c
  have g: ∀(j u d i:Int),cT k=[j,0,u,d,0,0,0,i,0]->0<=j->j<=14->0<=u->u<536870912->0<=d->d<16384->0<=i->i<=234881024->j+u*2^57+d*2^86+i*2^200=k*(2^225+2^97-2^65+2)->
   ∃
    T L s h:Int,AZ k [q,F,y,H,M,p,v,n,a]=[T,F,L,s,M,p,v,h,a]/\bd 536870928 T/\bd 1073741824 L/\bd 268451840 s/\bd 536870912 h/\
    T+L*2^57+s*2^86+h*2^200=q+y*2^57+H*2^86+n*2^200+k*(2^225+2^97-2^65+2):=by
    intro j u d i e p0 q0 p2 q2 p3 z p7 t hs;refine⟨q+j,y+u,H+d,n+i,?_,⟨O,O⟩,⟨O,O⟩,⟨O,O⟩,⟨O,O⟩,O⟩;unfold AZ;rw[e];show [W (q+j),F,W (y+u),W (H+d),M,p,v,W (n+i),a]=_;rw[eW (x:=q+j) O O,eW (x:=y+u) O O,eW (x:=H+d) O O,eW (x:=n+i) O O]
  match k,R with
  |0,_=>exact g 0 0 0 0 K J J J J J J J J J
  |1,_=>exact g 2 536870656 2047 33554432 K J J J J J J J J J
  |2,_=>exact g 4 536870400 4095 67108864 K J J J J J J J J J
  |3,_=>exact g 6 536870144 6143 100663296 K J J J J J J J J J
  |4,_=>exact g 8 536869888 8191 134217728 K J J J J J J J J J
  |5,_=>exact g 10 536869632 10239 167772160 K J J J J J J J J J
  |6,_=>exact g 12 536869376 12287 201326592 K J J J J J J J J J
  |7,_=>exact g 14 536869120 14335 234881024 K J J J J J J J J J
end Go.Proofs.YtiggidfngfkanaaGreatDoor
