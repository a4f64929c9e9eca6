/- FnPacked, part 12. No condition. -/
import Derived.Test.YtiggidfngfkanaaGreatDoorW11
namespace Go.Proofs.YtiggidfngfkanaaGreatDoor
open Go Go.Proofs.Tryz
set_option maxRecDepth 100000
set_option maxHeartbeats 4000000
set_option linter.all false
set_option exponentiation.threshold 9999
open Bool renaming false->A, true->G
open Decidable renaming decide->D
open Go renaming IntKind->U, TypeId->es, Value->ip, World->ii
open Go.Proofs.Tryz renaming prog->B
open List renaming drop->kw, replicate->lc, take->jp
open Option renaming none->N, some->E
variable{f:FuncId}{v:Int}{s z:List Bool}{t:List Item}{a b j n p:Nat}{i:Option (List Nat)}{P:Program}{r:V}{Q:V->dE->Prop}{m u:dE}{e:eZ}{C:fw}
def aLa(k s:Nat)(p:List Int)(T i:es)(x v h:dI):letI a:dI:=⟨.lit [.b A,.s N 0 0],90⟩;letI c:dI:=⟨.lit [.b A,.s (E (4,0)) k s],i⟩;letI d:V:= .p (E (0,0));letI e:dI:=⟨.ws .u64 p,T⟩;letI f:=ep gj Bj AS;(mW f (eC f f97.ntmps 200 [0,1,5,6,7,28] [.code (dB f97)] ⟨[(0,d),(1,.p (E (1,0)))],[x,c,v,h,e],[A,A],[]⟩))=(E (81,([.p (E (5,0)),d],E 29)),dF 4 2 (dB f97) [],[(0,d),(1,.p (E (1,0))),(5,.p (E (5,0))),(6,.p (E (6,0))),(7,.p (E (7,0))),(28,d)],[x,c,v,h,e,a,a,a],[(eA BinOp.and .u64 (p.getD 0 0) (1:Int)==0)==A,D (0<p.length),D ((0:Int)<=0/\0<(k:Int)),G,((k:Int)==0)==A,G,G]):=I
def aCf(m:dE):letI a:V:= .p (E (1,0));letI b:V:= .p (E (5,0));letI c:=ep gj Bj AS;(mW c (eC c f97.ntmps 200 [5,6,7,30] (dF 4 2 (dB f97) []) ⟨[(1,a),(5,.p (E (4,0))),(6,b),(7,.p (E (6,0)))],m,[],[]⟩))=(E (81,([b,a],E 31)),dF 5 2 (dB f97) [],[(5,.p (E (4,0))),(6,b),(7,.p (E (6,0))),(30,a)],m,[]):=I
def aRz(s:V)(x y v h a c:dI)(R:es)(F:dE):letI d:dE:=x::y::v::h::a::⟨.lit [.b A,s],R⟩::c::F;(oS (eC (ep gj Bj AS) f97.ntmps 200 [5,6,7,8] (dF 5 2 (dB f97) []) ⟨[(5,.p (E (4,0))),(6,.p (E (5,0))),(7,.p (E (6,0)))],d,[A],[]⟩))=(Te,[(5,.p (E (4,0))),(6,.p (E (5,0))),(7,.p (E (6,0))),(8,.i .i64 1)],d,[G,G]):=I
def ayl{w z R:Int}{t ty b Q:es}{f:Nat}(hv:0<v)(aa:v<pw 4)(d:0<w)(H:w<pw 4)(x:w%2=1)(c:4<z)(hR:JR f v w 1=E R):letI a:dE:=[⟨.int v,t⟩,⟨.int w,ty⟩,⟨.lit [.i .i64 z],b⟩,⟨.ws .u8 jJ,Q⟩];eM B gj 97 [.p (E (0,0)),.p (E (1,0))] a
      (λr u=>r= .i .i64 R/\u=a):=by
  have hp:=jk (O:4<=1000);refine eV Y K ?_;refine dL (ep gj Bj AS) f97 ?_;refine jf 1 K d K K λF k T g⟨P,j,y2,o,y4,s⟩=>?_
  have y:=nw P j o s;have L:=eg o 0;have m:=and_1 _ L.1 L.2;rw[y,(O:w%18446744073709551616%2=1)]at m;have l:((k:Int)==0)=A:=gp
  refine dY (eB Mw) (aLa k F.length F T ty ⟨.int v,t⟩ ⟨.lit [.i .i64 z],b⟩ ⟨.ws .u8 jJ,Q⟩) ?_ K K sy
    (Q1:=λ_ u=>u=[⟨.int v,t⟩,⟨.int w,ty⟩,⟨.lit [.i .i64 z],b⟩,⟨.ws .u8 jJ,Q⟩,⟨.dead,T⟩,⟨.int v,90⟩,⟨.lit [.b A,.s N 0 0],90⟩,⟨.lit [.b A,.s N 0 0],90⟩]) ?_ K ?_
  .simp only[l,y,m];simp only[dK,dJ,eu,ew,Nat.reduceAdd,Nat.reduceLT];omega
  .refine ku 1 4 J K K K g K ?_;refine Fi 5 K K K ?_;refine((L8 0 v 90 t O O).lift (gl:=gj) [5,0] ⟨K,K,K,K,dD⟩ J (λ_ _ h=>by cases h) K).mono ?_;rintro r u⟨C,e,⟨rfl,rfl⟩,_,rfl,rfl⟩;rfl
  rintro r u rfl _;refine⟨_,K,?_⟩;refine Ev.fq [1,5,6,7] ?_
  refine kL [0,1,2,3,5,6,7] [] [(1,.p (E (1,0))),(5,.p (E (4,0))),(6,.p (E (5,0))),(7,.p (E (6,0)))] [⟨.int v,t⟩,⟨.int w,ty⟩,⟨.lit [.i .i64 z],b⟩,⟨.ws .u8 jJ,Q⟩,⟨.int v,90⟩,⟨.lit [.b A,.s N 0 0],90⟩,⟨.lit [.b A,.s N 0 0],90⟩]
    ?_ K ⟨λ_=>rfl,λ_=>rfl,λ_=>rfl,λ_=>rfl,λ_=>rfl,λ_=>rfl,λ_=>rfl,dD⟩ K (J:([0,1,2,3,5,6,7]:List Nat).Nodup) K K ?_
  .intro q i h;have:gj q=E i:=h;unfold gj at this;cases M:Nat.beq q 4 with
   |true=>rw[M]at this;cases this;simp
   |false=>
    rw[M]at this;cases S:Nat.beq q 11 with
    |true=>rw[S]at this;cases this;simp
    |false=>rw[S]at this;cases this
  refine dY (eB Mw) (aCf _) K K K sy
    (Q1:=λ_ u=>u=[⟨.int v,t⟩,⟨.int w,ty⟩,⟨.lit [.i .i64 z],b⟩,⟨.ws .u8 jJ,Q⟩,⟨.int v,90⟩,⟨.int w,90⟩,⟨.lit [.b A,.s N 0 0],90⟩]) ?_ K ?_
  .refine Fi 5 K K K ?_;refine((L8 0 w 90 ty O O).lift (gl:=gj) [5,1] ⟨K,K,K,K,dD⟩ J (λ_ _ h=>by cases h) K).mono ?_;rintro r u⟨C,e,⟨rfl,rfl⟩,_,rfl,rfl⟩;rfl
  rintro r u rfl _;refine⟨_,K,?_⟩;refine Ev.fq [5,6,7] ?_;refine jf 5 K d K K λbw lb n p _=>?_
  refine fa (eB Mw) (aRz (.s (E (7,0)) lb bw.length) ⟨.int v,t⟩ ⟨.int w,ty⟩ ⟨.lit [.i .i64 z],b⟩ ⟨.ws .u8 jJ,Q⟩ ⟨.int v,90⟩ ⟨.lit [.b A,.s N 0 0],90⟩ 90 [⟨.ws .u64 bw,n⟩]) K K ?_;refine Ev.rP 7 _ (.close' 5 7 Y J K K K p (.nU 6 Y K (.take 7 (eT _) Y K K))) Y Y PM K K ?_;exact Hy c f v w 0 1 R hR hv O d H (.inl K) λu hs=>⟨K,hs⟩
noncomputable abbrev KS(R:Nat->Option Nat):List (Nat×jB):=(121,inl R [(113,inl R [] LQ f113 [])] LQ f121 [])::[(113,inl R [] LQ f113 [])]
def Th(R:Nat->Option Nat):fl R [(113,inl R [] LQ f113 [])]:=⟨⟨ga f113,mV (l:=[]) dD (jF R) I I []⟩,dD⟩
def M7(R:Nat->Option Nat):fl R (KS R):=⟨⟨ga f121,mV (Th R) (jF R) I I []⟩,Th R⟩
def aQm(m:dE):letI a:V:= .p (E (0,0));letI c:V:= .p (E (1,0));letI d:V:= .p (E (2,0));letI e:V:= .p (E (3,0));(mW (ep (gd 4) [] []) (eC (ep (gd 4) [] []) f123.ntmps 200 [9,10,11,12] [.code (dB f123)] ⟨[(0,a),(1,c),(2,d),(3,e)],m,[],[]⟩))=(E (145,([a,c,d,e,.b A],E 13)),dF 1 5 (dB f123) [],[(9,a),(10,c),(11,d),(12,e)],m,[]):=I
abbrev Eb(m:dE)(w:List ResultVar)(S u4 o v:Nat)(u:List (Nat×jB))(u3:List (Nat×QF))(i:Func)(F:V)(t:Option V):Prop:=(gi w (et (ep (gd S) u u3) u4 N 200 (dF o 5 (dB i) []) ⟨[(v,F)],m,[],[]⟩))=(G,t,m,[])
def aCp(r:V)(m:dE):Eb m f123.results.toList 4 f123.ntmps 1 13 [] [] f123 r (E r):=dR
def aOm(z x p t:dI):letI a:V:= .p (E (2,0));letI c:fw:=ep (gd 3) (KS (gd 3)) LQ;(mW c (eC c f99.ntmps 200 [0,1,2,8,9,10] [.code (dB f99)] ⟨[(0,.p (E (0,0))),(1,.p (E (1,0))),(2,a)],[z,x,p,t],[],[]⟩))=(E (52,([.p (E (4,0)),a,.p (E (6,0))],E 11)),dF 1 4 (dB f99) [],[(0,.p (E (0,0))),(1,.p (E (1,0))),(2,a),(8,.p (E (4,0))),(9,a),(10,.p (E (6,0)))],[z,x,p,t,⟨.lit [.b A,.s N 0 0],90⟩,⟨.ws .u64 [1],137⟩,⟨.lit [.b A,.s (E (5,0)) 1 1],90⟩],[G]):=I
def aMr(m:dE):letI a:V:= .p (E (4,0));letI b:fw:=ep (gd 3) (KS (gd 3)) LQ;(mW b (eC b f99.ntmps 200 [0,1,2,7,12,13] (dF 1 4 (dB f99) []) ⟨[(0,.p (E (0,0))),(1,.p (E (1,0))),(2,.p (E (2,0))),(11,a)],m,[],[]⟩))=(E (92,([a,a,.i .u64 2],E 14)),dF 2 3 (dB f99) [],[(0,.p (E (0,0))),(1,.p (E (1,0))),(2,.p (E (2,0))),(7,a),(12,a),(13,a)],m,[]):=I
def aCt(m:dE):letI a:V:= .p (E (0,0));letI b:fw:=ep (gd 3) (KS (gd 3)) LQ;letI c:V:= .p (E (1,0));letI d:V:= .p (E (2,0));letI e:V:= .p (E (4,0));(mW b (eC b f99.ntmps 200 [0,15,16,17,18] (dF 2 3 (dB f99) []) ⟨[(0,a),(1,c),(2,d),(7,e)],m,[],[]⟩))=(E (123,([a,c,e,d],E 19)),dF 3 5 (dB f99) [],[(0,a),(15,a),(16,c),(17,e),(18,d)],m,[]):=I
def aEn(m:dE):Eb m f99.results.toList 3 f99.ntmps 3 0 (KS (gd 3)) LQ f99 (.p (E (0,0))) (E (.p (E (0,0)))):=dR
def OX:eo B 145:=ga f145
def Pr:eo B 123:=ga f123
def ID:eo B 52:=ga f52
def PX:eo B 99:=ga f99
def aik{e z:Int}{P x i w M:es}(Q:pw 3<=v)(y:v<pw 4)(R:pw 3<=e)(S:e<pw 4)(q:4<z)(H:om v e<Pv)(b:0<om v e):letI a:dI:=⟨.lit [.i .i64 z],M⟩;eM B (gd 4) 123 [.p (E (0,0)),.p (E (1,0)),.p (E (2,0)),.p (E (3,0))] [⟨.lit [.b A,.s N 0 0],P⟩,⟨.int v,x⟩,⟨.int e,i⟩,⟨.int Pv,w⟩,a]
      (λr u=>r= .p (E (0,0))/\u=[⟨.int (om v e),P⟩,⟨.int v,x⟩,⟨.int e,i⟩,⟨.int Pv,w⟩,a]):=by
  refine dL _ f123 (dY lP (aQm _) K K K OX (agb Q y R S q H b) K ?_);rintro r u⟨rfl,rfl⟩_;refine⟨_,K,?_⟩;refine Ev.fq [13] ?_;exact Ev.done lP (aCp _ _) K ⟨K,K⟩
def Ge:Int:=(Pv+1)/2^2
def Yh:fX A [1] 1 1:=⟨J,J,GD,.inr J,(λh=>by cases h),J⟩
def awc{z:Int}{P x w M:es}(Q:pw 3<=v)(y:v<pw 4)(q:4<z)(H:om v Ge<Pv)(b:0<om v Ge):letI a:dI:=⟨.lit [.i .i64 z],M⟩;eM B (gd 3) 99 [.p (E (0,0)),.p (E (1,0)),.p (E (2,0))] [⟨.lit [.b A,.s N 0 0],P⟩,⟨.int v,x⟩,⟨.int Pv,w⟩,a]
      (λr u=>r= .p (E (0,0))/\u=[⟨.int (om v Ge),P⟩,⟨.int v,x⟩,⟨.int Pv,w⟩,a]):=by
  refine eV Y K ?_
  refine dL _ f99 (dY (gK (M7 _) (jF _)) (aOm ⟨.lit [.b A,.s N 0 0],P⟩ ⟨.int v,x⟩ ⟨.int Pv,w⟩ ⟨.lit [.i .i64 z],M⟩) I K K ID
    (Q1:=λr u=>r= .p (E (4,0))/\u=[⟨.lit [.b A,.s N 0 0],P⟩,⟨.int v,x⟩,⟨.int Pv,w⟩,⟨.lit [.i .i64 z],M⟩,⟨.int (Pv+1),90⟩,⟨.dead,137⟩,⟨.int 1,90⟩]) ?_ K ?_)
  .refine ku 6 5 J K K K Yh K ?_;refine((abw Pv 1 90 w 90 J J J J).lift (gl:=gd 3) [4,2,6] ⟨K,K,K,K,K,K,dD⟩ J (λ_ _ h=>by cases h) K).mono ?_;rintro r u⟨C,e,⟨rfl,rfl⟩,_,rfl,rfl⟩;exact⟨K,K⟩
  rintro r u⟨rfl,rfl⟩_;refine⟨_,K,?_⟩;refine Ev.fq [0,1,2,11] ?_
  refine dY (gK (M7 _) (jF _)) (aMr _) K K K qm
    (Q1:=λr u=>u=[⟨.lit [.b A,.s N 0 0],P⟩,⟨.int v,x⟩,⟨.int Pv,w⟩,⟨.lit [.i .i64 z],M⟩,⟨.int Ge,90⟩,⟨.dead,137⟩,⟨.int 1,90⟩]) ?_ K ?_
  .refine((VZ (Pv+1) 90 J J).lift (gl:=gd 3) [4] ⟨K,K,dD⟩ J (λ_ _ h=>by cases h) K).mono ?_;rintro r u⟨C,e,⟨rfl,rfl⟩,_,rfl,rfl⟩;rfl
  rintro r u rfl _;refine⟨_,K,?_⟩;refine Ev.fq [0,1,2,7] ?_
  refine dY (gK (M7 _) (jF _)) (aCt _) K K K Pr
    (Q1:=λr u=>u=[⟨.int (om v Ge),P⟩,⟨.int v,x⟩,⟨.int Pv,w⟩,⟨.lit [.i .i64 z],M⟩,⟨.int Ge,90⟩,⟨.dead,137⟩,⟨.int 1,90⟩]) ?_ K ?_
  .refine((aik Q y J J q H b).lift (gl:=gd 3) [0,1,4,2,3] ⟨K,K,K,K,K,K,K,K,K,K,dD⟩ J (rn K) K).mono ?_;rintro r u⟨C,e,⟨rfl,rfl⟩,_,rfl,rfl⟩;rfl
  rintro r u rfl _;refine⟨_,K,?_⟩;refine Ev.fq [0] ?_;exact Ev.done (gK (M7 _) (jF _)) (aEn _) K ⟨K,.take 4 Y Y K K⟩
def WZ{H p:List Int}{l i:Nat}{w:Int}(L:fX A H l v)(e:fX A p i w)(Q:0<v)(d:0<w):
    (if l<i then(-1:Int)else if i<l then 1 else vA (val (jp l (kw 0 H))) (val (jp l (kw 0 p))))=vA v w:=by
  obtain⟨_,F,n,k,P,_,c⟩:=mg L Q;obtain⟨_,g,j,f,o,_,u⟩:=mg e d;obtain⟨a,b,q,_⟩:=ic L;obtain⟨m,x,s,_⟩:=ic e;have q:=q O;have s:=s O;rw[c]at b q;rw[u]at x s;rw[gh,gh];by_cases h:l<i
  .have:=jk (O:l<=i-1);rw[if_pos h];unfold vA;split<;>(try split)<;>omega
  .rw [if_neg h];by_cases S:i<l
   .have:=jk (O:i<=l-1);rw[if_pos S];unfold vA;split<;>(try split)<;>omega
   .rw [if_neg S];obtain rfl:l=i:=O;rw[c,u]
abbrev g00:Nat->Option Nat:=λ_=>N
def c88(M H:Nat)(F:List Int)(T p:es):letI a:dE:=[⟨.lit [.b A,.s (E (1,0)) M H],T⟩,⟨.ws .u64 F,p⟩];(gi f88.results.toList (et (ep g00 [] LR) f88.ntmps N 200 [.code (dB f88)] ⟨[(0,.p (E (0,0))),(1,.i .i64 0)],a,[G,G],[]⟩))=(G,E (.i .u64 (eA BinOp.and .u64 (F.getD 0 0) 1)),a,[D (0<F.length),D ((0:Int)<=0/\0<(M:Int)),G,D ((M:Int)>0)==G,G,G,G]):=I
def avg{T:es}(Q:0<v):letI a:dE:=[⟨.int v,T⟩];eM B g00 88 [.p (E (0,0)),.i .i64 0] a (λr u=>r= .i .u64 (v%2)/\u=a):=by
  refine eV Y K ?_;refine dL (ep g00 [] LR) f88 ?_;refine jf 0 K Q K K λj b S n⟨F,H,w,P,L,q⟩=>?_
  have k:=nw F H P q;have i:=eg P 0;refine Ev.done (gK dD (eP g00)) (c88 b j.length j T S) ?_ ⟨?_,?_⟩
  .simp only[dK,dJ,eu,ew,Nat.reduceAdd,Nat.reduceLT];omega
  .rw [and_1 _ i.1 i.2,k];have:v%18446744073709551616%2=v%2:=O;rw[this]
  .exact .close' 0 1 Y J K K K n (.take 1 Y Y K K)
abbrev tT:Nat->Option Nat:=λg=>bif Nat.beq g 4 then E 3 else bif Nat.beq g 11 then E 4 else N
abbrev LCR:List (Nat×QF):=(77,YV)::LR
noncomputable abbrev KCR:List (Nat×jB):=[(98,inl tT [] LCR f98 [A,G,A])]
def F6:gf tT LCR:=⟨⟨ga f77,C7 tT⟩,eP tT⟩
def K5:fl tT KCR:=⟨⟨ga f98,mV (l:=[]) dD F6 I I [A,G,A]⟩,dD⟩
def aHr(m:dE):letI a:V:= .p (E (1,0));letI b:V:= .p (E (2,0));letI c:=ep tT KCR LCR;(mW c (eC c f72.ntmps 200 [0,1,2,7,8] [.code (dB f72)] ⟨[(0,.p (E (0,0))),(1,a),(2,b)],m,[],[]⟩))=(E (97,([a,b],E 9)),dF 1 3 (dB f72) [],[(0,.p (E (0,0))),(1,a),(2,b),(7,a),(8,b)],m,[]):=I
def aCy(l c i y:Nat)(t o S T:es)(j F:List Int)(z v h:dI):letI a:dE:=[z,⟨.lit [.b A,.s (E (5,0)) l c],t⟩,⟨.lit [.b A,.s (E (6,0)) i y],o⟩,v,h,⟨.ws .u64 j,S⟩,⟨.ws .u64 F,T⟩];letI d:V:= .p (E (0,0));letI e:V:= .p (E (1,0));letI f:V:= .p (E (2,0));letI g:=ep tT KCR LCR;(mW g (eC g f72.ntmps 200 [0,1,2,45,46,47] (dF 1 3 (dB f72) []) ⟨[(0,d),(1,e),(2,f),(9,.i .i64 1)],a,[A,A,G,A,A,G],[]⟩))=(E (99,([d,e,f],E 48)),dF 11 4 (dB f72) [],[(0,d),(1,e),(2,f),(45,d),(46,e),(47,f)],a,[((F.getD 0 0).tmod (4:Int)==3)==G,G,D (0<F.length),D ((0:Int)<=0/\0<(i:Int)),G,D ((if l<i then(-1:Int)else if i<l then 1 else vA (val (jp l (kw 0 j))) (val (jp l (kw 0 F))))≥0)==A,eb [G,G,ed (D (l<4294967296/\0+l<=j.length/\0+i<=F.length/\dG j/\dG F)) (ed G (ek 7 a)),G,G,G,G,G,G],G,G,G,G,G]):=I
def aRi(m:dE)(r:V):(gi f72.results.toList (et (ep tT KCR LCR) f72.ntmps N 200 (dF 11 4 (dB f72) []) ⟨[(0,.p (E (0,0))),(1,.p (E (1,0))),(2,.p (E (2,0))),(48,r)],m,[],[]⟩))=(G,E r,m,[]):=I
def Ox:eo B 97:=ga f97
def awo{R z:Int}{P x w p Q:es}{f:Nat}(t:pw 3<=v)(y:v<Pv)(q:4<z)(hJ:JR f v Pv 1=E 1)(hV:om v Ge<Pv)(b:0<om v Ge):letI a:dI:=⟨.lit [.i .i64 z],p⟩;letI c:dI:=⟨.ws .u8 jJ,Q⟩;eM B tT 72 [.p (E (0,0)),.p (E (1,0)),.p (E (2,0))] [⟨.lit [.b A,.s N 0 0],P⟩,⟨.int v,x⟩,⟨.int Pv,w⟩,a,c]
      (λr u=>r= .p (E (0,0))/\u=[⟨.int (om v Ge),P⟩,⟨.int v,x⟩,⟨.int Pv,w⟩,a,c]):=by
  have aa:=gH 3;have H:Pv<pw 4:=J;have d:(0:Int)<Pv:=J;have m:0<v:=O;refine eV Y K ?_
  refine dL _ f72 (dY (gK K5 F6) (aHr _) K K K Ox
    (Q1:=λr u=>r= .i .i64 1/\u=[⟨.lit [.b A,.s N 0 0],P⟩,⟨.int v,x⟩,⟨.int Pv,w⟩,⟨.lit [.i .i64 z],p⟩,⟨.ws .u8 jJ,Q⟩]) ?_ K ?_)
  .refine((ayl (f:=f) (R:=1) m O d H J q hJ).lift (gl:=tT) [1,2,3,4] ⟨K,K,K,K,K,K,K,K,dD⟩ J ?_ K).mono ?_
   .intro g i h;unfold gj at h;cases M:Nat.beq g 4 with
    |true=>rw[M]at h;cases h;exact⟨3,K,by show tT g=_;unfold tT;rw[M];rfl⟩
    |false=>
     rw[M]at h;cases S:Nat.beq g 11 with
     |true=>rw[S]at h;cases h;exact⟨4,K,by show tT g=_;unfold tT;rw[M,S];rfl⟩
     |false=>rw[S]at h;cases h
   .rintro r u⟨r0,e,⟨rfl,rfl⟩,_,rfl,rfl⟩;exact⟨K,K⟩
  rintro r u⟨rfl,rfl⟩_;refine⟨_,K,?_⟩;refine Ev.fq [0,1,2,9] ?_;refine jf 1 K m K K λj lx C n⟨x0,x1,x2,x3,x4,x5⟩=>?_
  refine jf 2 K d K K λF ly T l⟨y0,y1,y2,o,y4,y5⟩=>?_
  have hl:=fm n (k:=4) O;have ab:=fm l (k:=4) O;have ey:=nw y0 y1 o y5;have s:(F.getD 0 0).tmod 4=3:=by rw[ey];decide
  have L:=WZ n l m d;have hs:vA v Pv= -1:=by unfold vA;rw[if_pos y]
  rw[hs]at L
  refine dY (gK K5 F6) (aCy lx j.length ly F.length x w C T j F ⟨.lit [.b A,.s N 0 0],P⟩ ⟨.lit [.i .i64 z],p⟩ ⟨.ws .u8 jJ,Q⟩) ?_ K K PX
    (Q1:=λr u=>r= .p (E (0,0))/\u=[⟨.int (om v Ge),P⟩,⟨.int v,x⟩,⟨.int Pv,w⟩,⟨.lit [.i .i64 z],p⟩,⟨.ws .u8 jJ,Q⟩,⟨.dead,C⟩,⟨.dead,T⟩]) ?_ K ?_
  .rw [L,s];simp only[dK,dJ,eu,ew,Nat.reduceAdd,Nat.reduceLT,x3,o];omega
  .refine ku 1 5 J K K K n K ?_;refine ku 2 6 J K K K l K ?_;refine((awc t O q hV b).lift (gl:=tT) [0,1,2,3] ⟨K,K,K,K,K,K,K,K,dD⟩ J ?_ K).mono ?_
   .intro g i h;unfold gd at h;cases M:Nat.beq g 4 with
    |true=>rw[M]at h;cases h;exact⟨3,K,by show tT g=_;unfold tT;rw[M];rfl⟩
    |false=>rw[M]at h;cases h
   rintro r u⟨r0,e,⟨rfl,rfl⟩,_,rfl,rfl⟩;exact⟨K,K⟩
  rintro r u⟨rfl,rfl⟩_;refine⟨_,K,?_⟩;refine Ev.fq [0,1,2,48] ?_;exact Ev.done (gK K5 F6) (aRi _ _) K ⟨K,.take 5 Y Y K K⟩
abbrev US:Nat->Option Nat:=λ_=>N
abbrev gE:Nat->Option Nat:=λg=>bif Nat.beq g 1 then E 1 else N
def Bz:Nat->String->Option Nat:=λt n=>bif Nat.beq t 160 then(bif n== "ReadByte" then E 258 else bif n== "UnreadByte" then E 259 else N)else N
def VF(a:Addr)(w:ii):(method (B.types.size+Made.depth) 160 (.pointer (E a)) "ReadByte").run B w= .ok (258,.pointer (E a)) w:=I
def XQ(a:Addr)(w:ii):(method (B.types.size+Made.depth) 160 (.pointer (E a)) "UnreadByte").run B w= .ok (259,.pointer (E a)) w:=I
def oG:Ub B Bz:=by
  intro j s g h a w;unfold Bz at h;cases M:Nat.beq j 160 with
  |false=>rw[M]at h;cases h
  |true=>
   rw[M]at h;have:=iB M;subst this;cases S:s== "ReadByte" with
   |true=>
    rw[S]at h;have:=eq_of_beq S;subst this;cases h;exact VF a w
   |false=>
    rw[S]at h;cases l:s== "UnreadByte" with
    |true=>
     rw[l]at h;have:=eq_of_beq l;subst this;cases h;exact XQ a w
    |false=>rw[l]at h;cases h
abbrev yY(w:List ResultVar)(S:fw)(u:Nat)(u3:Func)(u4 v:List dI)(o:Bool)(i:V)(F:List Bool):Prop:=(gi w (et S u N 200 [.code (dB u3)] ⟨[(0,.p (E (0,0)))],u4,[o],[]⟩))=(G,E i,v,F)
def aKq(s:ByteArray)(i p:Int)(y:es):yY f258.results.toList (ep (λ_=>N) [] []) f258.ntmps f258 [⟨.lit [.r (.string s),.i .i64 i,.i .i64 p],y⟩] [⟨.lit [.r (ip.string s),.i .i64 (U.i64.wrap (i+1)),.i .i64 ((-1:Int))],y⟩] A (.t [.i .u8 ((↑(s.data.toList.getD i.toNat (0:UInt8)).toNat:Int)),.r (ip.nilIface)]) ((λS=>G::G::D (0<=i/\i<(s.data.toList.length:Int))::G::S) [G,D (i≥(s.size:Int))==A,G,G,G,G]):=dR
def aQw(s:ByteArray)(i p:Int)(y R:es)(v:V)(P:dI):yY f258.results.toList (ep gE [] []) f258.ntmps f258 [⟨.lit [.r (.string s),.i .i64 i,.i .i64 p],y⟩,⟨.lit [v],R⟩,P] [⟨.lit [.r (ip.string s),.i .i64 i,.i .i64 ((-1:Int))],y⟩,⟨.lit [v],R⟩,P] G (.t [.i .u8 0,v]) ((λS=>S) [G,D (i≥(s.size:Int))==G,G,G,G,G]):=dR
def aRm(s:ByteArray)(i p:Int)(y:es):yY f259.results.toList (ep (λ_=>N) [] []) f259.ntmps f259 [⟨.lit [.r (.string s),.i .i64 i,.i .i64 p],y⟩] [⟨.lit [.r (ip.string s),.i .i64 (U.i64.wrap (i-1)),.i .i64 ((-1:Int))],y⟩] A (.r (ip.nilIface)) [G,G,G,D (i<=0)==A,G]:=dR
def Ih{s:ByteArray}{i:Nat}{p:Int}{y:es}(h:i<s.data.toList.length)(x:s.data.toList.length<=1000):
    eM B US 258 [.p (E (0,0))] [⟨.lit [.r (.string s),.i .i64 (i:Int),.i .i64 p],y⟩]
     (λr u=>r= .t [.i .u8 ((s.data.toList.getD i 0).toNat:Int),.r .nilIface]/\u=[⟨.lit [.r (.string s),.i .i64 ((i+1:Nat):Int),.i .i64 (-1)],y⟩]):=by
  refine dL (ep US [] []) f258 ?_;have v:s.size=s.data.toList.length:=by rw[JP];rfl
  refine Ev.done lP (aKq s i p y) ?_ ⟨?_,?_⟩
  .rw [v];simp only[dK,dJ,eu,ew,Nat.reduceAdd,Nat.reduceLT];omega
  .rfl
  .rw [iy (O: -9223372036854775808<=(i:Int)+1/\(i:Int)+1<=9223372036854775807)];rfl
def QA{s:ByteArray}{i:Nat}{p:Int}{y R:es}{v:V}{P:dI}(h:s.data.toList.length<=i):
    eM B gE 258 [.p (E (0,0))] [⟨.lit [.r (.string s),.i .i64 (i:Int),.i .i64 p],y⟩,⟨.lit [v],R⟩,P]
     (λr u=>r= .t [.i .u8 0,v]/\u=[⟨.lit [.r (.string s),.i .i64 (i:Int),.i .i64 (-1)],y⟩,⟨.lit [v],R⟩,P]):=by
  refine dL (ep gE [] []) f258 ?_;have a:s.size=s.data.toList.length:=by rw[JP];rfl
  refine Ev.done lP (aQw s i p y R v P) ?_ ⟨K,K⟩;rw[a];simp only[dK,dJ,eu,ew,Nat.reduceAdd,Nat.reduceLT];omega
def aes{s:ByteArray}{i:Nat}{p:Int}{y:es}(g:i<=1000):
    eM B US 259 [.p (E (0,0))] [⟨.lit [.r (.string s),.i .i64 ((i+1:Nat):Int),.i .i64 p],y⟩]
     (λr u=>r= .r .nilIface/\u=[⟨.lit [.r (.string s),.i .i64 (i:Int),.i .i64 (-1)],y⟩]):=by
  refine dL _ f259 (Ev.done lP (aRm s _ p y) ?_ ⟨K,?_⟩)
  .simp only[dK,dJ,eu,ew,Nat.reduceAdd,Nat.reduceLT];omega
  .rw [iy (O: -9223372036854775808<=((i+1:Nat):Int)-1/\((i+1:Nat):Int)-1<=9223372036854775807),(O:((i+1:Nat):Int)-1=i)]
def nQ:eo B 258:=ga f258
def OU:eo B 259:=ga f259
def OJ:eo B 187:=ga f187
def zT{t u b:es}{i j:TypeInfo}(h:P.underlying t=E (.interface (P.methodsAt t)))(F:P.underlying u=E (.pointer b))(g:P.info? u=E i)(s:i.comparable=G)(H:P.info? b=E j)(q:j.size≠0)(d:Nat)(R:Addr)(w:ii):letI a:ip:= .iface u (.pointer (E R));(Op.equalIn (d+2) t a a).run P w= .ok G w:=by
  simp[Op.equalIn,pd h,pd F,typeInfo,g,s,sizeOf,H,q,sameAddr]
def eqE:awy B 48 253:=by
  intro R w
  have h:=zT (P:=B) (t:=48) (u:=253) (I:B.underlying 48=E (.interface (B.methodsAt 48))) (I:B.underlying 253=E (.pointer 288))
    (i:=(B.info? 253).get!) I I (j:=(B.info? 288).get!) I J 9998 R w
  have h:(Op.equal 48 (.iface 253 (.pointer (E R))) (.iface 253 (.pointer (E R)))).run B w= .ok G w:=h;constructor
  .simp only[binOp];simp[h]
  .simp only[binOp];simp[h]
def NH(C:fw)(t:List Item)(e:eZ):Option (Bool×Nat×V×V×Option Tmp):=
  match t with
  | .inRegion T (i::_)::_=>match T.toList[i]? with
    |some o=>match o.op with
     | .binOp H t x y _=>match Um H,ia T.toList e o,fC C e x,fC C e y with
       |some b,E G,E u,E v=>E (b,t,u,v,o.dst)
       |_,_,_,_=>N
     |_=>N
    |none=>N
  |_=>N
def Tg{S:Ds}{t2:List Item}(ag:RD P C)(j:Nat)(z:List Bool)(l:List Nat)(s:List Bool){tt ty:Nat}{is:Bool}{R:Addr}{d:Option Tmp}{T:eZ}{q:dE}(h:(match eC C n j l t ⟨e,m,z,[]⟩with|(t1,T,q,o1)=>(NH C t1 T,iF t1,T,q,o1))=(E (is,tt,.y ty (.r (.pointer (E R))),.y ty (.r (.pointer (E R))),d),t2,T,q,s))(ho:eb s=G)(ad:jv m.length S=G)(p:jv q.length S=G)(ak:awy P tt ty)(ac:fZ q.length T=G){e':eZ}(hp:fA n T d (.b is)=E e')(hk:Ev P C f n b S t2 e' q Q):Ev P C f n b S t e m Q:=by
  generalize L:eC C n j l t ⟨e,m,z,[]⟩=x at h;obtain⟨t1,e2,m2,o1⟩:=x;simp only[ef]at h;obtain⟨M,rfl,rfl,rfl,rfl⟩:=h;refine Ev.go ag j z l (by rw[L]) (by rw[L]) (by rw[L]) (by rw[L]) ho ad ?_;unfold NH at M;split at M
  .rename_i aa i am k;split at M
   .rename_i o aj;split at M
    .rename_i op t0 x y al ah;split at M
     .rename_i ab u v c g af ae;simp only[eJ,ef]at M;obtain⟨rfl,rfl,rfl,rfl,rfl⟩:=M;have F:aa[i]?=E o:=by simpa using aj
      refine yP K F g ac p ?_;intro ρ a w hr he hg;refine⟨.b ab,_,w,?_,qE.refl hr,e',hp,hk⟩;have EV:= @ff ρ C e2 a m2.length he hg;have H:=ak R w;unfold execOp;rw[ah];show(do let r<-(do eqGuard op t0 x y (a.eval x) (a.eval y);binOp op t0 (a.eval x) (a.eval y));pure (.value r):Sem Next).run P w=_;rw[EV af,EV ae];simp only[V.ee];unfold Um at c;split at c
      .cases c;simp only[eqGuard,fr,iV,gv,H.1];simp[H.1]
      .cases c;simp only[eqGuard,fr,iV,gv,H.2];simp[H.2]
      .cases c
     .cases M
    .cases M
   .cases M
  .cases M
noncomputable abbrev ZT:List Item:=gQ (dB f160) 0 []
abbrev ke:List Nat:=[0,1,2,3,9,10,11,13,14,15,16,17,18,19,20,21,22]
abbrev PH(e:Int)(q:V)(H s w i:Int):eZ:=[(1,.y 160 (.p (E (0,0)))),(2,.i .i64 16),(3,.b A),(9,.i .i64 16),(10,.i .i64 e),(11,q),(13,.i .i32 H),(14,.b A),(15,.i .u8 s),(16,.i .i64 0),(17,.i .u64 16),(18,.i .u64 0),(19,.i .i64 16),(20,.i .u64 w),(21,.i .i64 i),(22,.i .i64 (-1))]
abbrev QE(z:V)(e:Int)(q:V)(H s w i:Int):eZ:=(0,z)::PH e q H s w i
abbrev mK:Nat->Option Nat:=λg=>bif Nat.beq g 1 then E 1 else N
abbrev tj(z:V)(s:Int)(m:dE)(w:List Item)(S:St)(u u3 u4 o:Int)(i:List Bool):Prop:=letI a:V:= .p (E (0,0));letI c:V:= .i .i64 16;(match eC (ep mK [] LQ) f160.ntmps 200 (203::ke) w S with|(v,T,q,R)=>(qn (ep mK [] LQ) Bz v T,iF v,T,q,R))=(E (258,([a],E 204)),dF 79 2 (dB f160) [],[(203,.y 160 a),(0,z),(1,.y 160 a),(2,c),(3,.b A),(9,c),(10,.i .i64 u),(11,.r (ip.nilIface)),(13,.i .i32 u3),(14,.b A),(15,.i .u8 s),(16,.i .i64 0),(17,.i .u64 16),(18,.i .u64 0),(19,c),(20,.i .u64 u4),(21,.i .i64 o),(22,.i .i64 ((-1:Int)))],m,i)
def arw(z:V)(e H s w i:Int)(m:dE):letI a:Int:=U.u64.wrap (U.u8.wrap (s-48));tj z s m ZT ⟨QE z e (.r .nilIface) H s w i,m,[G,A,A,A,A,G,G,A,A],[]⟩ (U.i64.wrap (e+1)) 48 (U.u64.wrap (U.u64.wrap (w*16)+a)) (U.i64.wrap (i+1)) [(U.i64.wrap (i+1)==16)==A,D (a≥16)==A,D (s<=57)==G,D (48<=s)==G,G,(s==95)==A,G,(s==46)==A,G]:=dR
abbrev wK(z:V)(e H s w i:Int)(m:dE)(b u:List Bool)(S:Int):Prop:=letI a:Int:=U.u64.wrap (U.u64.wrap (w*16)+U.u64.wrap (U.u8.wrap S));letI c:V:= .s (E (List.length m,0)) 1 1;letI d:V:= .i .i64 16;(match eC (ep mK [] LQ) f160.ntmps 200 (193::195::ke) ZT ⟨QE z e (.r .nilIface) H s w i,m,b,[]⟩with|(v,T,q,R)=>(qh (ep mK [] LQ) v T,iF v,T,q,R))=(E (88,(z,(c,E 196))),dF 75 4 (dB f160) [],[(193,z),(195,c),(0,z),(1,.y 160 (.p (E (0,0)))),(2,d),(3,.b A),(9,d),(10,.i .i64 (U.i64.wrap (e+1))),(11,.r (ip.nilIface)),(13,.i .i32 48),(14,.b A),(15,.i .u8 s),(16,.i .i64 0),(17,.i .u64 16),(18,.i .u64 0),(19,d),(20,.i .u64 a),(21,.i .i64 (U.i64.wrap (i+1))),(22,.i .i64 ((-1:Int)))],m++[⟨.ws .u64 [a],137⟩],u)
def YR(z:V)(e H s w i:Int)(m:dE):wK z e H s w i m [G,A,A,A,A,G,G,A,G,G] [G,G,(U.i64.wrap (i+1)==16)==G,D (U.u64.wrap (U.u8.wrap (s-48))≥16)==A,D (s<=57)==G,D (48<=s)==G,G,(s==95)==A,G,(s==46)==A,G] (s-48):=dR
def amc(z:V)(e H s w i:Int)(m:dE):letI a:Int:=U.u64.wrap (U.u8.wrap (U.u8.wrap (s-97)+10));tj z s m ZT ⟨QE z e (.r .nilIface) H s w i,m,((λS=>G::A::A::A::A::G::A::S) [G,G,A,A]),[]⟩ (U.i64.wrap (e+1)) 48 (U.u64.wrap (U.u64.wrap (w*16)+a)) (U.i64.wrap (i+1)) ((λS=>((U.i64.wrap (i+1)==16)==A)::(D (a≥16)==A)::(D (s<=122)==G)::S) [D (97<=s)==G,D (s<=57)==A,D (48<=s)==G,G,(s==95)==A,G,(s==46)==A,G]):=dR
def Y6(z:V)(e H s w i:Int)(m:dE):letI a:Int:=U.u8.wrap (s-97)+10;wK z e H s w i m ((λS=>G::A::A::A::A::G::A::S) [G,G,A,G,G]) ((λS=>G::G::((U.i64.wrap (i+1)==16)==G)::(D (U.u64.wrap (U.u8.wrap a)≥16)==A)::(D (s<=122)==G)::S) [D (97<=s)==G,D (s<=57)==A,D (48<=s)==G,G,(s==95)==A,G,(s==46)==A,G]) a:=dR
def auc(z:V)(e H s w i:Int)(m:dE):letI a:Int:=U.u64.wrap (U.u8.wrap (U.u8.wrap (s-65)+10));tj z s m ZT ⟨QE z e (.r .nilIface) H s w i,m,((λS=>G::A::A::A::A::G::A::A::A::G::S) [G,G,A,A]),[]⟩ (U.i64.wrap (e+1)) 48 (U.u64.wrap (U.u64.wrap (w*16)+a)) (U.i64.wrap (i+1)) ((λS=>((U.i64.wrap (i+1)==16)==A)::(D (a≥16)==A)::G::(D (s<=90)==G)::(D (65<=s)==G)::G::S) [D (97<=s)==A,D (s<=57)==A,D (48<=s)==G,G,(s==95)==A,G,(s==46)==A,G]):=dR
def Za(z:V)(e H s w i:Int)(m:dE):letI a:Int:=U.u8.wrap (s-65)+10;wK z e H s w i m ((λS=>G::A::A::A::A::G::A::A::A::G::S) [G,G,A,G,G]) ((λS=>G::G::((U.i64.wrap (i+1)==16)==G)::(D (U.u64.wrap (U.u8.wrap a)≥16)==A)::G::(D (s<=90)==G)::(D (65<=s)==G)::G::S) [D (97<=s)==A,D (s<=57)==A,D (48<=s)==G,G,(s==95)==A,G,(s==46)==A,G]) a:=dR
def aMi(z:V)(e H s w i:Int)(m:dE):tj z s m (dF 75 4 (dB f160) []) ⟨(196,z)::PH e (.r .nilIface) H s w i,m,[],[]⟩ e H 0 0 []:=dR
abbrev EL(m:dE)(w:Nat)(S:List (Nat×V))(u s:List Bool)(u3 o:V)(u4 i v F t:Int):Prop:=letI a:V:= .i .i64 16;(oS (eC (ep mK [] LQ) f160.ntmps 200 ke (dF w 2 (dB f160) []) ⟨S,m,u,[]⟩))=(ZT,[(0,u3),(1,.y 160 (.p (E (0,0)))),(2,a),(3,.b A),(9,a),(10,.i .i64 u4),(11,o),(13,.i .i32 i),(14,.b A),(15,.i .u8 v),(16,.i .i64 0),(17,.i .u64 16),(18,.i .u64 0),(19,a),(20,.i .u64 F),(21,.i .i64 t),(22,.i .i64 ((-1:Int)))],m,s)
def aBr(z q:V)(e H s c w i:Int)(m:dE):EL m 79 ((204,.t [.i .u8 c,q])::QE z e (.r .nilIface) H s w i) [] [] z q e H c w i:=dR
def aOd(n:Addr)(z:V)(e H s w i:Int)(rd:dI)(b:es)(l:dE):letI a:V:= .y 253 (.r (ip.pointer (E n)));letI c:V:= .y 253 (.r (.pointer (E n)));letI d:V:= .i .i64 16;(match eC (ep mK [] LQ) f160.ntmps 200 (207::208::ke) ZT ⟨QE z e c H s w i,rd::⟨.lit [c],b⟩::l,[A],[]⟩with|(v,T,q,R)=>(NH (ep mK [] LQ) v T,iF v,T,q,R))=(E (G,48,a,a,E 209),dF 80 3 (dB f160) [],[(207,a),(208,a),(0,z),(1,.y 160 (.p (E (0,0)))),(2,d),(3,.b A),(9,d),(10,.i .i64 e),(11,a),(13,.i .i32 H),(14,.b A),(15,.i .u8 s),(16,.i .i64 0),(17,.i .u64 16),(18,.i .u64 0),(19,d),(20,.i .u64 w),(21,.i .i64 i),(22,.i .i64 ((-1:Int)))],rd::⟨.lit [a],b⟩::l,[G,G]):=I
def aBp(n:Addr)(z:V)(e H s w:Int)(m:dE):(mW (ep mK [] LQ) (eC (ep mK [] LQ) f160.ntmps 200 [0,9,10,11,18,21,22,242] (dF 80 3 (dB f160) []) ⟨(209,.b G)::QE z e (.y 253 (.r (.pointer (E n)))) H s w 0,m,[G,G,A,A,A,G,A],[]⟩))=(E (187,([z],E 243)),dF 91 2 (dB f160) [],[(0,z),(9,.i .i64 16),(10,.i .i64 e),(11,.r (ip.nilIface)),(18,.i .u64 0),(21,.i .i64 0),(22,.i .i64 ((-1:Int))),(242,z)],m,[G,G,(e==0)==A,(H==95)==A,G,G,G]):=I
def aLg(c:Nat)(e:Int)(rd g P:dI)(q F y H:Int)(d:List Int)(s:es):letI b:=q::F::y::H::d;letI a:dE:=[rd,g,P,⟨.ws .u64 b,s⟩];(gi f160.results.toList (et (ep mK [] LQ) f160.ntmps N 200 (dF 91 2 (dB f160) []) ⟨[(0,.s (E (3,0)) 4 c),(9,.i .i64 16),(10,.i .i64 e),(11,.r .nilIface),(21,.i .i64 0),(22,.i .i64 (-1))],a,[A,A],[]⟩))=(G,E (.t [.s (E (3,0)) (gm (λj=>b.getD (0+j) 0) 4) c,.i .i64 16,.i .i64 e,.r (ip.nilIface)]),a,[G,G,ed (D (4<4294967296/\4<=b.length/\4<=c)) (ek 4 a)]):=I
def aNr(r:V)(m:dE):letI a:V:= .y 160 (.p (E (0,0)));(match eC (ep mK [] LQ) f160.ntmps 200 [0,1,2,3,10,13,14,61] [.code (dB f160)] ⟨[(0,.s N 0 0),(1,a),(2,.i .i64 16),(3,.b A)],m,[A,G,G,G,A],[]⟩with|(v,T,q,R)=>(qn (ep mK [] LQ) Bz v T,iF v,T,q,R))=(E (258,([.p (E (0,0))],E 62)),dF 6 2 (dB f160) [],[(0,.s N 0 0),(1,a),(2,.i .i64 16),(3,.b A),(10,.i .i64 0),(13,.i .i32 46),(14,.b A),(61,a)],m,[G,G,G,G,G]):=I
def aOl(s:Int)(m:dE):EL m 6 [(62,.t [.i .u8 s,.r .nilIface]),(0,.s N 0 0),(1,.y 160 (.p (E (0,0)))),(2,.i .i64 16),(3,.b A),(10,.i .i64 0),(13,.i .i32 46),(14,.b A)] [A,A,A,G] [G,G,G,G,G] (.s N 0 0) (.r (ip.nilIface)) 0 46 s 0 0:=dR
section
open Go.Shelf Go.RowKit Go.Lib Go.Sort
abbrev w9:Int->ip:=ip.int .u64
def u3:B.underlying 3=E (.int .i64):=I
def u4:B.underlying 4=E .bool:=I
def u88:B.underlying 88=E (.slice 137):=I
def aLw:B.underlying 137=E (.int .u64):=I
def a3'(w:ii):(isAgg 3).run B w= .ok A w:=I
def a4'(w:ii):(isAgg 4).run B w= .ok A w:=I
def aGz(w:ii):(isAgg 88).run B w= .ok A w:=I
def ath(w:ii):(isAgg 137).run B w= .ok A w:=I
def z3'(w:ii):(Go.sizeOf 3).run B w= .ok 1 w:=I
def z4'(w:ii):(Go.sizeOf 4).run B w= .ok 1 w:=I
def aFw(w:ii):(Go.sizeOf 88).run B w= .ok 1 w:=I
def aml(w:ii):(Go.sizeOf 137).run B w= .ok 1 w:=I
set_option maxRecDepth 1000000 in
def O0(blk off cap:Nat)(d:Array Int)(w:ii)(hH:Holds w9 w blk off d)(hsz:d.size<=9223372036854775807):
    Calls B 187 #[.slice (E ⟨blk,off,N⟩) d.size cap] w λe w'=>e= .returned (.tuple #[])/\ ∃n,w'=putRow w9 (Sort.ahead w n) blk off d.reverse:=by
  have mixed:B.follows .mixedOrders=G:=iZ;have t3:=u3;have t4:=u4;have t88:=u88;have t137:=aLw;have a3:=a3';have a4:=a4';have a88:=aGz;have a137:=ath;have z3:=z3';have z4:=z4';have z88:=aFw;have z137:=aml
  go_enter(I:B.funcs[187]?=E f187),(I:f187.ntmps=28)
  go_wp2
  go_loopg [2,3]d.size(λk s2 s3 wr=> ∃(i jn:Nat)(jz:Int)(dk:Array Int)(n:Nat),s2= .int .i64 i/\s3= .int .i64 jz/\((i:Int)<jz->jz=jn/\jn<d.size)/\(¬(i:Int)<jz-> ¬i<jn)/\jn-i<=k/\
    dk.size=d.size/\wr=putRow w9 (Sort.ahead w n) blk off dk/\reverseLoop i jn dk=reverseLoop 0 (d.size-1) d)
  case atStart=>exact⟨0,d.size-1,(d.size:Int)-1,d,0,K,K,λh=>⟨O,O⟩,λh=>O,O,K,(putRow_self w9 w blk off d hH).symm,K⟩
  case round=>
    obtain⟨i,jn,jz,dk,n,rfl,rfl,h1,h2,hk,hds,hwr,heq⟩:=hrel;by_cases hlt:(i:Int)<jz
    .obtain⟨rfl,hjn⟩:=h1 hlt;have hij:i<jn:=O;have hHk:Holds w9 wr blk off dk:=by rw[hwr];exact holds_putRow w9 _ blk off d dk (holds_ahead w9 w n blk off d hH) hds
     obtain⟨ci,fi⟩:=hHk i O;obtain⟨cj,fj⟩:=hHk jn O;have A:Aside (wr=putRow w9 (Sort.ahead w n) blk off dk):=hwr;clear hwr hHk hH h1 h2
     go_wp2_with fail
     go_region_o
     go_wp2
     go_roundg(jn-1-(i+1))
     case measure=>omega
     case rel=>
       rw[reverseLoop,if_pos hij]at heq
       exact⟨i+1,jn-1,(jn:Int)-1,swp dk i jn,n+1,Y,K,λh=>⟨O,O⟩,λh=>O,eT _,by rw[size_swp];exact hds,
         swap_world w9 O O A.out (by first|rfl|simp[w9,FU,(O:jn<dk.size)]) (by first|rfl|simp[w9,FU,(O:i<dk.size)]),heq⟩
    .have hnot:=h2 hlt
     go_wp2
     go_end0
     refine⟨K,n,?_⟩;rw[reverseLoop,if_neg hnot]at heq;rw[<-Lib.reverseLoop_reverse,<-heq]
def ags(gl:Nat->Option Nat)(ys tl:List Int)(cap:Nat)(ty:es)(hl:ys.length<=1048576):
    eM B gl 187 [.s (E (0,0)) ys.length cap] [⟨.ws .u64 (ys++tl),ty⟩] (λr m'=>r= .t []/\m'=[⟨.ws .u64 (ys.reverse++tl),ty⟩]):=by
  intro ρ w hr _
  have hrow:w.heap[ρ 0]?=E (.cells ((ys++tl).map w9).toArray ty (0,0)):=by have:=hr.obj 0 ⟨.ws .u64 (ys++tl),ty⟩ K K;rw[this];simp only[dI.obj,kN]
  have hH:Holds w9 w (ρ 0) 0 ys.toArray:=by
    intro j hj;have hj':j<ys.length:=by simpa using hj
    constructor
    .rw [show(⟨ρ 0,0+j,N⟩:Addr)=pI ρ (0,0+j)from K];rw[hr.cell (b:=0) (show([⟨.ws .u64 (ys++tl),ty⟩]:dE)[0]?=E ⟨.ws .u64 (ys++tl),ty⟩from K) K];simp only[eH.list,lK,uf,ir];rw[oF hj',jr hj'];simp[FU,hj']
    .simp [ii.frozen?,hrow]
  have key:=O0 (ρ 0) 0 cap ys.toArray w hH gp
  have ea:(dZ ρ [V.s (E (0,0)) ys.length cap]).toArray= #[.slice (E ⟨ρ 0,0,N⟩) ys.toArray.size cap]:=by simp[dZ,V.ee,pI]
  rw[ea];refine key.mono ?_;rintro en w'⟨rfl,n,rfl⟩;have hd:jA ρ [⟨.ws .u64 (ys++tl),ty⟩] (Sort.ahead w n):=hr.draw _;have hx1:qE ρ _ w ρ _ (Sort.ahead w n):=qE.draw hr _;have hx2:=hd.setRow (i:=0) (x:=⟨.ws .u64 (ys++tl),ty⟩) K K (.ws .u64 (ys.reverse++tl)) K;have hx:=hx1.trans hx2
  have e:putRow w9 (Sort.ahead w n) (ρ 0) 0 ys.toArray.reverse=(Sort.ahead w n).setRow (ρ 0) (dZ ρ (eH.ws .u64 (ys.reverse++tl)).list).toArray:=by
    unfold putRow mapBlock ii.setRow
    congr 1
    apply Array.ext_getElem?;intro k;simp only[Array.getElem?_modify];by_cases hk:ρ 0=k
    .subst hk;simp only[oH];have hh:(Sort.ahead w n).heap[ρ 0]?=E (.cells ((ys++tl).map w9).toArray ty (0,0)):=hrow;rw[hh];simp only[oQ,onCells,kN]
     congr 2
     apply Array.ext_getElem?;intro q;simp only[putCells,Uy,Array.getElem?_mapIdx,Array.size_reverse,tN,qM,ir,fV,jo,uf];by_cases hq:q<ys.length
     .rw [oF hq,oF (by simpa using hq),jr hq,jr (by simpa using hq)];simp[hq,FU]
     .rw [pP O,pP (by simpa using hq)];simp only[KC];cases tl[q-ys.length]? with
      |none=>rfl
      |some x=>simp[hq]
    .simp [hk]
  refine⟨ρ,.t [],[⟨.ws .u64 (ys.reverse++tl),ty⟩],?_,K,K,K⟩;rw[e];exact⟨hx.ln,hx.len,hx.new,hx.rel,hx.iY⟩
end
def fB(p:Nat):Prop:=2<=p/\ ∀d,d∣p->d=1∨d=p
def fB.cop(g:fB p)(h: ¬p∣a):Nat.Coprime p a:=by
  rcases g.2 (Nat.gcd p a) (Nat.gcd_dvd_left p a)with M|M
  .exact M
  .exact absurd (M▸Nat.gcd_dvd_right p a) h
def fB.KE(g:fB p)(h:p∣a*b):p∣a∨p∣b:=by
  by_cases t:p∣a
  .exact .inl t
  .exact .inr (Nat.Coprime.dvd_of_dvd_mul_left (g.cop t) h)
def oV:Nat->Nat->Nat
  |_,0=>1
  |0,_+1=>0
  |n+1,k+1=>oV n k+oV n (k+1)
def yQ(n:Nat):oV n 0=1:=by cases n<;>rfl
def zV: ∀(n k:Nat),n<k->oV n k=0
  |0,_+1,_=>rfl
  |n+1,k+1,h=>by show oV n k+oV n (k+1)=0;rw[zV n k O,zV n (k+1) O]
def A4: ∀(n k:Nat),(k+1)*oV (n+1) (k+1)=(n+1)*oV n k
  |0,0=>rfl
  |0,k+1=>by show(k+1+1)*(oV 0 (k+1)+oV 0 (k+1+1))=1*oV 0 (k+1);rw[zV 0 (k+1) O,zV 0 (k+1+1) O];omega
  |n+1,0=>by have h:=A4 n 0;rw[yQ]at h;show(0+1)*(oV (n+1) 0+oV (n+1) (0+1))=(n+1+1)*oV (n+1) 0;rw[yQ];omega
  |n+1,k+1=>by have M:=A4 n k;have S:=A4 n (k+1);have e:oV (n+1) (k+1)=oV n k+oV n (k+1):=K;have f:oV (n+1+1) (k+1+1)=oV (n+1) (k+1)+oV (n+1) (k+1+1):=K;rw[f,oZ,S,ot,M];rw[show(n+1+1)*oV (n+1) (k+1)=(n+1)*oV (n+1) (k+1)+oV (n+1) (k+1)by rw[ot (n+1) 1,sX]];rw[show(n+1)*oV (n+1) (k+1)=(n+1)*oV n k+(n+1)*oV n (k+1)by rw[e,oZ]];omega
def kD(f:Nat->Nat):Nat->Nat
  |0=>0
  |n+1=>kD f n+f n
def qY(f:Nat->Nat): ∀n,kD f (n+1)=f 0+kD (λk=>f (k+1)) n
  |0=>by simp[kD]
  |n+1=>by have:=qY f n;show kD f (n+1)+f (n+1)=f 0+(kD (λk=>f (k+1)) n+f (n+1));omega
def ED(f g:Nat->Nat): ∀n,kD (λk=>f k+g k) n=kD f n+kD g n
  |0=>rfl
  |n+1=>by have:=ED f g n;show kD (λk=>f k+g k) n+(f n+g n)=kD f n+f n+(kD g n+g n);omega
def Ee(c:Nat)(f:Nat->Nat): ∀n,kD (λk=>f k*c) n=kD f n*c
  |0=>by simp[kD]
  |n+1=>by have:=Ee c f n;show kD (λk=>f k*c) n+f n*c=(kD f n+f n)*c;rw[ot,this]
def ZF(a:Nat): ∀n,(a+1)^n=kD (λk=>oV n k*a^k) (n+1)
  |0=>by simp[kD,oV]
  |n+1=>by
   have v:=ZF a n;rw[rz,v,qY (λk=>oV (n+1) k*a^k)]
   have e:(λk=>oV (n+1) (k+1)*a^(k+1))=λk=>oV n k*a^k*a+oV n (k+1)*a^(k+1):=by
     funext k
     show(oV n k+oV n (k+1))*a^(k+1)=_;rw[ot,rz,lH]
   have f:kD (λk=>oV n k*a^k) (n+1+1)=kD (λk=>oV n k*a^k) (n+1):=by show kD (λk=>oV n k*a^k) (n+1)+oV n (n+1)*a^(n+1)=_;rw[zV n (n+1) O,GW,j3]
   have Q:=qY (λk=>oV n k*a^k) (n+1);show _=oV (n+1) 0*a^0+kD (λk=>oV (n+1) (k+1)*a^(k+1)) (n+1);rw[e,ED,Ee,oZ,jq];rw[f]at Q;simp only[yQ,xq,jq]at Q⊢;omega
def Ef{f:Nat->Nat}: ∀n,(∀k,k<n->p∣f k)->p∣kD f n
  |0,_=>⟨0,K⟩
  |n+1,h=>(Nat.dvd_add_iff_right (Ef n λk R=>h k O)).1 (h n O)
def XC{k:Nat}(g:fB p)(C:0<k)(R:k<p):p∣oV p k:=by
  obtain⟨n,rfl⟩: ∃n,p=n+1:=⟨p-1,by have:=g.1;omega⟩
  obtain⟨j,rfl⟩: ∃j,k=j+1:=⟨k-1,O⟩
  have h:=A4 n j;rcases g.KE (show n+1∣(j+1)*oV (n+1) (j+1)from⟨_,h⟩)with M|M
  .have:=uD O M;omega
  .exact M
def H9: ∀n,oV n n=1
  |0=>rfl
  |n+1=>by show oV n n+oV n (n+1)=1;rw[H9 n,zV n (n+1) O]
def small{p:Nat}(g:fB p): ∀a,a^p%p=a%p
  |0=>by have:=g.1;rw[Nat.zero_pow O]
  |a+1=>by
   have v:=small g a;have S:=g.1;obtain⟨n,rfl⟩: ∃n,p=n+1:=⟨p-1,O⟩
   have e:(a+1)^(n+1)=1+kD (λk=>oV (n+1) (k+1)*a^(k+1)) n+a^(n+1):=by rw[ZF,qY];show oV (n+1) 0*a^0+(kD (λk=>oV (n+1) (k+1)*a^(k+1)) n+oV (n+1) (n+1)*a^(n+1))=_;rw[H9,yQ,xq];omega
   obtain⟨c,s⟩:n+1∣kD (λk=>oV (n+1) (k+1)*a^(k+1)) n:=
     Ef n λk R=>ua (XC g O O) ⟨_,K⟩
   rw[e,s,(O:1+(n+1)*c+a^(n+1)=1+a^(n+1)+(n+1)*c),Sd,xu,v,<-xu,mE]
def KR(g:fB p)(t: ¬p∣a):a^(p-1)%p=1:=by
  have S:=g.1;have i:0<a:=y9 (λh=>t (h▸⟨0,K⟩));have h:=small g a
  have m:a^p=a*a^(p-1):=by conv=>lhs;rw[(O:p=p-1+1),rz,kP]
  have M:1<=a^(p-1):=Cl i
  have z:p∣a*(a^(p-1)-1):=by rw[Nat.mul_sub,jq,<-m];exact yZ (Rh h)
  obtain⟨c,s⟩:=(g.KE z).resolve_left t;rw[(O:a^(p-1)=1+p*c),Sd,uG O]
def Y7:Nat->Nat->Nat->Nat->Nat->Nat
  |0,_,_,_,a=>a
  |f+1,m,b,e,a=>Y7 f m (b*b%m) (e/2) (bif Nat.beq (e%2) 1 then a*b%m else a)
def I8(a n m:Nat):(a%m)^n%m=a^n%m:=by rw[Nat.pow_mod,xj,<-Nat.pow_mod]
def Lu(m:Nat): ∀(f b e a:Nat),e<2^f->Y7 f m b e a%m=a*b^e%m
  |0,b,e,a,h=>by
   have:e=0:=by simpa using h
   subst this;simp[Y7]
  |f+1,b,e,a,h=>by
   have F:e/2<2^f:=by rw[rz]at h;omega
   have v:=Lu m f (b*b%m) (e/2) (bif Nat.beq (e%2) 1 then a*b%m else a) F;show Y7 f m (b*b%m) (e/2) (bif Nat.beq (e%2) 1 then a*b%m else a)%m=_;rw[v,nr,I8,<-Nat.pow_two,<-Fx];rcases zi e with C|C
   .rw [C];show a%m*(b^(2*(e/2))%m)%m=_;rw[<-nr,(O:2*(e/2)=e)]
   .rw [C];show a*b%m%m*(b^(2*(e/2))%m)%m=_;rw[xj,<-nr,lH,<-Nat.pow_succ',(O:(2*(e/2)).succ=e)]
def Wr{r:Nat}(L:2<=r): ∀(n m k:Nat),n+m<=k->b^n%r=1->b^m%r=1->b^Nat.gcd n m%r=1:=by
  intro n m k
  induction k generalizing n m with
  |zero=>
   intro h _ _;obtain rfl:n=0:=O;obtain rfl:m=0:=O;show 1%r=1;exact uG O
  |succ k v=>
   intro h x d
   have a: ∀{i j:Nat},i<=j->b^i%r=1->b^j%r=1->b^(j-i)%r=1:=by
     intro i j c g H;have:b^j=b^i*b^(j-i):=by rw[<-nu,Nat.add_sub_cancel' c]
     rw[this,nr,g,sX,xj]at H;exact H
   by_cases C:n=0
   .subst C;rw[Nat.gcd_zero_left];exact d
   .by_cases M:m=0
    .subst M;rw[Nat.gcd_zero_right];exact x
    .by_cases e:n<=m
     .have:=v n (m-n) O x (a e x d)
      rwa [Nat.gcd_sub_self_right e]at this
     .have:=v (n-m) m O (a O d x) d
      rwa [Nat.gcd_sub_self_left O]at this
def BS{q r:Nat}(c:fB q)(y:fB r)(u:r∣p)(g:2<=p)(d:q∣p-1)(M:a^(p-1)%p=1)(k:Nat.gcd (a^((p-1)/q)%p+(p-1)) p=1):q∣r-1:=by
  have L:=y.1;obtain⟨s,rfl⟩:=u;have Q: ∀x:Nat,x%(r*s)%r=x%r:=λx=>Nat.mod_mul_right_mod x r s
  have l:a^(r*s-1)%r=1:=by rw[<-Q,M,uG O]
  let b:=a^((r*s-1)/q)
  have m:b^q%r=1:=by show(a^((r*s-1)/q))^q%r=1;rw[<-Fx,Nat.div_mul_cancel d];exact l
  have j:b%r≠1:=by
    intro H
    have z:r∣b%(r*s)+(r*s-1):=by
      have e:(b%(r*s)+(r*s-1))%r=0:=by rw[xu,Q,H,Nat.add_mod_mod,(O:1+(r*s-1)=r*s),Nat.mul_mod_right]
      exact yZ e
    have S:r∣Nat.gcd (b%(r*s)+(r*s-1)) (r*s):=Nat.dvd_gcd z ⟨s,K⟩;rw[k]at S;have:=uD O S;omega
  have i: ¬r∣b:=by intro h;have o:b%r=0:=JN h;rw[Nat.pow_mod,o,Nat.zero_pow (by have:=c.1;omega)]at m;simp at m
  have w:=KR y i;refine tA λf=>?_
  have:=Wr L q (r-1) _ (eT _) m w;rw[c.cop f,Nat.pow_one]at this;exact j this
def AG(h:2<=n)(x: ¬fB n): ∃r,fB r/\r∣n/\r*r<=n:=by
  have b: ∀k,∀d,d<=k->2<=d-> ∃r,fB r/\r∣d:=by
    intro k
    induction k with
    |zero=>intro d M S;omega
    |succ k v=>
     intro d M S;by_cases z:fB d
     .exact⟨d,z,Nat.dvd_refl d⟩
     .have: ∃e,e∣d/\e≠1/\e≠d:=by
        refine tA λs=>z ⟨S,λe j=>?_⟩
        refine tA λH=>s ⟨e,j,λh=>H (.inl h),λh=>H (.inr h)⟩
      obtain⟨e,j,T,f⟩:=this;have a:=uD O j;have e0:e≠0:=by rintro rfl;have:=Nat.eq_zero_of_zero_dvd j;omega
      obtain⟨r,y,q⟩:=v e O O;exact⟨r,y,ua q j⟩
  have: ∃e,e∣n/\e≠1/\e≠n:=by
    refine tA λs=>x ⟨h,λe j=>?_⟩
    refine tA λH=>s ⟨e,j,λh=>H (.inl h),λh=>H (.inr h)⟩
  obtain⟨e,⟨g,rfl⟩,T,f⟩:=this;have e0:e≠0:=by rintro rfl;omega
  have g0:g≠0:=by rintro rfl;omega
  have c:g≠1:=by rintro rfl;exact f O
  by_cases a:e<=g
  .obtain⟨r,y,q⟩:=b e e (eT _) O;have:=uD O q;exact⟨r,y,ua q ⟨g,K⟩,uN this O⟩
  .obtain⟨r,y,q⟩:=b g g (eT _) O;have:=uD O q;exact⟨r,y,ua q ⟨e,kP e g⟩,uN O this⟩
def Nr(p:Nat):Nat->Bool
  |0=>G
  |n+1=>bif Nat.beq n 0 then G else bif Nat.beq (p%(n+1)) 0 then A else Nr p n
def Hu: ∀n,Nr p n=G-> ∀d,2<=d->d<=n-> ¬d∣p
  |0,_,d,M,S=>O
  |n+1,h,d,M,S=>by
   unfold Nr at h;cases H:Nat.beq n 0 with
   |true=>have:=iB H;omega
   |false=>
    rw[H]at h;cases s:Nat.beq (p%(n+1)) 0 with
    |true=>rw[s]at h;cases h
    |false=>
     rw[s]at h;by_cases j:d=n+1
     .subst j;intro z;rw[JN z]at s;cases s
     .exact Hu n h d M O
def km(g:2<=p)(x:p<(n+1)*(n+1))(h:Nr p n=G):fB p:=by
  refine tA λs=>?_
  obtain⟨r,y,c,j⟩:=AG g s
  have:r<=n:=by
    refine tA λa=>?_
    have:=uN (O:n+1<=r) (O:n+1<=r);omega
  exact Hu n h r y.1 this c
def azo{v d P:Nat}(g:2<=p)(M:fB v)(S:fB d)(l:fB P)(f:v≠d)(o:v≠P)(m:d≠P)(z:(p-1)%(v*d*P)=0)(hF:p<(v*d*P)*(v*d*P))(t:a^(p-1)%p=1)(n:Nat.gcd (a^((p-1)/v)%p+(p-1)) p=1)(C:Nat.gcd (a^((p-1)/d)%p+(p-1)) p=1)(F:Nat.gcd (a^((p-1)/P)%p+(p-1)) p=1):fB p:=by
  refine tA λs=>?_
  obtain⟨r,e,b,j⟩:=AG g s;have T:v*d*P∣p-1:=yZ z;have d1:=BS M e b g (ua ⟨d*P,by rw[lH]⟩ T) t n;have H:=BS S e b g (ua ⟨v*P,by rw[kP v d,lH]⟩ T) t C;have w:=BS l e b g (ua ⟨v*d,by rw[kP]⟩ T) t F
  have q: ∀{x y:Nat},fB x->fB y->x≠y->Nat.Coprime x y:=λ{x y}L Q i=>L.cop λh=>by
    rcases Q.2 x h with h|h
    .have:=L.1;omega
    .exact i h
  have u:=Sw (q M S f) d1 H;have c:Nat.Coprime (v*d) P:=Nat.Coprime.mul_left (q M l o) (q S l m);have R:=Sw c u w;have k:=e.1;have:=uD O R;have:=uN (O:v*d*P<=r) (O:v*d*P<=r);omega
abbrev pN:Nat:=115792089210356248756420345214020892766250353991924191454421193933289684991999
abbrev aN:Nat:=115792089210356248756420345214020892766250353991924191454421193933289684991996
abbrev bN:Nat:=18505919022281880113072981827955639221458448578012075254857346196103069175443
abbrev zQ:Nat:=22963146547237050559479531362550074578802567295341616970375194840604139615431
abbrev zW:Nat:=85132369209828568825618990617112496413088388631904505083283536607588877201568
structure J3 where
  x:Nat
  y:Nat
  z:Nat
def fc(a b:Nat):Nat:=a*b%pN
def lQ(a b:Nat):Nat:=(a+b)%pN
def lF(a b:Nat):Nat:=(a+(pN-b))%pN
def jj(q:J3):J3:=
  bif Nat.beq q.z 0 then⟨0,0,0⟩else bif Nat.beq q.y 0 then⟨0,0,0⟩else
  let u:=fc q.y q.y;let Q:=fc q.x u;let g:=lQ Q Q;let s:=lQ g g;let M:=fc q.z q.z;let l:=fc (lF q.x M) (lQ q.x M);let m:=lQ (lQ l l) l;let x:=lF (fc m m) (lQ s s);let P:=fc u u;let j:=lQ P P;let f:=lQ j j;let w:=lQ f f;let y:=lF (fc m (lF s x)) w;let z:=fc q.y q.z
  ⟨x,y,lQ z z⟩
def qH(q r:J3):J3:=
  bif Nat.beq q.z 0 then r else bif Nat.beq r.z 0 then q else
  let l:=fc q.z q.z;let Q:=fc r.z r.z;let S:=fc q.x Q;let u:=fc r.x l;let g:=fc q.y (fc Q r.z);let m:=fc r.y (fc l q.z);let h:=lF u S;let d:=lF m g
  bif Nat.beq h 0 then(bif Nat.beq d 0 then jj q else⟨0,0,0⟩)else
  let P:=fc h h;let s:=fc P h;let v:=fc S P;let x:=lF (lF (fc d d) s) (lQ v v);let y:=lF (fc d (lF v x)) (fc g s)
  ⟨x,y,fc (fc q.z r.z) h⟩
noncomputable def Bq(d:Nat):J3:=Nat.rec ⟨0,0,0⟩ (λn q=>bif Nat.beq n 0 then⟨zQ,zW,1⟩else qH q ⟨zQ,zW,1⟩) d
noncomputable def jI(q:J3)(d:Nat):J3:=qH (jj (jj (jj (jj q)))) (Bq d)
abbrev fS:Nat:=2^257
abbrev rN:Nat:=2^225+2^97-2^65+2
abbrev qN:Nat:=115792089129476408767522629297870205758541517347941659817034995947026826395649
def LK(m:Nat):Bool:=
  bif Nat.beq (m%536870912) 1 then A else bif Nat.beq (m/2^57%536870912) 1 then A else bif Nat.beq (m/2^114%536870912) 1 then A else bif Nat.beq (m/2^171%536870912) 1 then A else bif Nat.beq (m/2^228%536870912) 1 then A else G
def rj(c:Nat):Nat:=c%fS+c/fS*rN
def ky(a b:Nat):Nat:=a*b*qN%fS
def la(a b:Nat):Nat:=rj ((a*b+ky a b*pN)/fS)
def C0(s:Nat):Bool:=
  bif Nat.beq (s%536870912) 0 then A else bif Nat.beq (s/2^29%268435456) 0 then A else bif Nat.beq (s/2^57%536870912) 0 then A else bif Nat.beq (s/2^86%268435456) 0 then A else
  bif Nat.beq (s/2^114%536870912) 0 then A else bif Nat.beq (s/2^143%268435456) 0 then A else bif Nat.beq (s/2^171%536870912) 0 then A else bif Nat.beq (s/2^200%268435456) 0 then A else
  bif Nat.beq (s/2^228%536870912) 0 then A else G
noncomputable def N6(f:Nat):Nat->Nat->Bool->Bool:=
  Nat.rec (λ_ _ _=>A) (λ_ v a b j=>
    bif Nat.beq b 1 then j else
    let r:=a%b;let g:=Nat.gcd r 18446744073709551616
    bif Nat.beq g 18446744073709551616 then A else
    let c:=r/g;let e:=Nat.land b 7;let j1:=bif Nat.beq (Nat.log2 g%2) 1 then(bif Nat.beq e 3 then !j else bif Nat.beq e 5 then !j else j)else j
    v b c (bif Nat.beq (Nat.land (Nat.land b c) 3) 3 then !j1 else j1)) f
def aKi:fB 8214737:=km (n:=2870) J J I
def aLs:fB 2473:=km (n:=50) J J I
def aPg:fB 367:=km (n:=20) J J I
def aOb:fB 3017783777:=km (n:=54940) J J I
def aQl:fB 769:=km (n:=30) J J I
def aMt:fB 2:=km (n:=1) J J I
def aLj:fB 179429:=km (n:=430) J J I
def aRd:fB 5303:=km (n:=80) J J I
def aMm:fB 61:=km (n:=10) J J I
def FP{v d P:Nat}(f:Nat)(g:2<=p)(M:fB v)(S:fB d)(l:fB P)(s:v≠d)(o:v≠P)(m:d≠P)(z:(p-1)%(v*d*P)=0)(T:p<(v*d*P)*(v*d*P))(a:p<2^f)(t:Y7 f p 2 (p-1) 1%p=1)(n:Nat.gcd (Y7 f p 2 ((p-1)/v) 1%p+(p-1)) p=1)(C:Nat.gcd (Y7 f p 2 ((p-1)/d) 1%p+(p-1)) p=1)(F:Nat.gcd (Y7 f p 2 ((p-1)/P) 1%p+(p-1)) p=1):fB p:=by
  have i: ∀q,(p-1)/q<2^f:=λq=>by have:=zg (p-1) q;omega
  rw[Lu _ _ _ _ _ (i _),sX]at n C F;rw[Lu _ _ _ _ _ O,sX]at t;exact azo g M S l s o m z T t n C F
def prA:fB 417514796639753:=FP 50 J aKi aLs aPg J J J J J J I I I I
def prB:fB 4641351449027:=FP 50 J aOb aQl aMt J J J J J J I I I I
def prC:fB 348253387243:=FP 50 J aLj aRd aMm J J J J J J I I I I
def FY:fB pN:=FP 256 J prA prB prC J J J J J J I I I I
def sR(C:fw)(e:eZ)(m:dE):List ResultVar->Option (List V×Bool)
  |[]=>E ([],G)
  | .tmp t::r=>match e.get t,sR C e m r with
    |some v,E (L,o)=>E (v::L,o)
    |_,_=>N
  | .cell t j::r=>match e.get t,C.kM j with
    |some (.p (E a)),E d=>match m[a.1]? with
     |some x=>match zD d x.c a.2,sR C e m r with
      |some (v,o),E (L,c)=>E (v::L,ed o c)
      |_,_=>N
     |none=>N
    |_,_=>N
def sI(C:fw)(e:eZ)(m:dE)(p:List ResultVar):Option (V×Bool):=
  match sR C e m p with
  |some ([v],o)=>E (v,o)
  |some (l,o)=>E (.t l,o)
  |none=>N
@[simp,reducible]def Rb(C:fw)(p:List ResultVar)(x:List Item×St):Bool×Option (V×Bool)×List Bool:=match x with|(v,g)=>(atEnd v,sI C g.e g.m p,g.ob)
@[simp,reducible]def runM(C:fw)(p:List ResultVar)(x:List Item×St):Bool×Option (V×Bool)×dE×List Bool:=match x with|(v,g)=>(atEnd v,sI C g.e g.m p,g.m,g.ob)
@[simp,reducible]def GS(C:fw)(p:List ResultVar)(x:List Item×St):Bool×Option (V×Bool)×Bool:=match x with|(v,g)=>(atEnd v,sI C g.e g.m p,eb g.ob)
@[simp,reducible]def runN(C:fw)(p:List ResultVar)(x:List Item×St):Bool×Option (V×Bool)×dE×Bool:=match x with|(v,g)=>(atEnd v,sI C g.e g.m p,g.m,eb g.ob)
def xC(f:iq P C){q:Nat->Nat}{a:Act}{w:ii}(y:jA q m w)(j:ik q e a): ∀{p:List ResultVar}{b:List V},sR C e m p=E (b,G)->
    (p.mapM (FC a.tmps)).run P w= .ok (dZ q b) w
  |[],b,h=>by cases h;rfl
  | .tmp t::r,b,h=>by
    simp only[sR]at h;split at h
    .rename_i v g o M S;cases h;have:=j t v M;simp only[Mq,FC,fr,iV,gv,xC f y j S,dZ];simp[Rd,this]
    .cases h
  | .cell t k::r,b,h=>by
    simp only[sR]at h;split at h
    .rename_i n d M S;split at h
     .rename_i x L;split at h
      .rename_i v o g c Q i;simp only[eJ,ef]at h;obtain⟨rfl,F⟩:=h;obtain⟨rfl,rfl⟩:=IU F;have l:=Cp (f _ _ S) y L Q;simp only[Instr.loadAt,Instr.sureAddr,fr,iV,gv]at l;have u:=j t _ M;simp only[V.ee,oQ]at u;simp only[Mq,FC,Rd,u,CN,asAddr,fr,iV,gv,l,xC f y j i,dZ]
      .cases h
     .cases h
    .cases h
def vQ(r:iq P C){q:Nat->Nat}{a:Act}{w:ii}{fn:Func}{v:V}(y:jA q m w)(j:ik q e a)(h:sI C e m fn.results.toList=E (v,G)):
    (results fn a.tmps).run P w= .ok (v.ee q) w:=by
  have b: ∀L,sR C e m fn.results.toList=E (L,G)->(results fn a.tmps).run P w= .ok (if h:(dZ q L).toArray.size=1 then(dZ q L).toArray[0]else .tuple (dZ q L).toArray) w:=by
    intro L c;have M:=xC (P:=P) (w:=w) r y j c
    have S:(fn.results.mapM (FC a.tmps)).run P w= .ok (dZ q L).toArray w:=by have T:fn.results=fn.results.toList.toArray:=Y;rw[T,Uv,Sem.run_map,M];rfl
    rw[CC,fr,S];rfl
  unfold sI at h;split at h
  .rename_i u o F;cases h;rw[b _ F];simp[dZ]
  .rename_i l o i f;cases h;rw[b _ f]
   have: ¬(dZ q l).toArray.size=1:=by
     simp only[tN,gC];intro M
     match l,M,i with
     |[x],_,i=>exact i x K
   rw[dif_neg this];rfl
  .cases h
def MJ{l:Ds}{a:List Item}{r:eZ}(c:RD P C)(i:Option (List Nat))(j:Nat)(k:List Bool){o:List Bool}{q:List Bool}(h:et C n i j t ⟨e,m,k,[]⟩=(a,⟨r,u,q,o⟩))(F:eb o=G)(d:jv m.length l=G)(R:Ev P C f n b l a r u Q):Ev P C f n b l t e m Q:=
  λ_ _ _ _ H y v p x z L=>BL c j (s:=⟨e,m,k,[]⟩) y v p x h F λ_ _ _ g=>R.Di H d p z L g
def ue{fn:Func}(c:RD P C){o:Bool}(h:(runM C fn.results.toList (et C n i j t ⟨e,m,z,[]⟩))=(G,E (r,o),u,s))(F:eb s=G)(k:o=G)(hQ:Q r u)(d:P.funcs[f]?=E fn:=by kernel_rfl):Ev P C f n b [] t e m Q:=by
  unfold runM at h;subst k;generalize L:et C n i j t ⟨e,m,z,[]⟩=x at h;obtain⟨v,⟨e1,l,p,o1⟩⟩:=x;simp only[ef]at h;obtain⟨h1,h2,rfl,rfl⟩:=h;refine MJ c i j z L F K ?_;intro q a w R hb S y hg hn H hR;have M:=vQ (P:=P) (w:=w) (fn:=fn) c.t S y h2;have T:a.defers=[]:=H;have g:=hR (.returned (r.ee q)) w ⟨q,r,l,.refl hb S,K,hQ⟩
  match v,h1 with
  |[],_=>exact vk d M T g
  | .code .ret::_,_=>exact vl d M T g
def Ev.toK{H:Ds}(c:RD P C){l:List Nat}{a:List Item}{y:eZ}(h:(Av l (et C n i j t ⟨e,m,z,[]⟩))=(a,y,u,s))(F:eb s=G)(d:jv m.length H=G)(R:Ev P C f n b H a y u Q):Ev P C f n b H t e m Q:=by
  unfold Av at h;generalize L:et C n i j t ⟨e,m,z,[]⟩=x at h;obtain⟨v,⟨T,q,p,g⟩⟩:=x;simp only[ef]at h;obtain⟨rfl,rfl,rfl,rfl⟩:=h;exact MJ c i j z L F d (Ev.fq l (vM R))
def iX{R:Nat->Option Nat}{args:List V}(c:RD P C)(fn:Func){o:Bool}(h:(Rb C fn.results.toList (et C fn.ntmps i j [.code (dB fn)] ⟨fo 0 args,[],z,[]⟩))=(G,E (r,o),s))(F:eb s=G)(u:o=G)(y:r.wf 0=G)(T:C.mw=R:=by rfl)(d:P.funcs[f]?=E fn:=by kernel_rfl)(H:fn.body=E (dB fn):=by kernel_rfl)(e:Nat.ble args.length fn.ntmps=G:=by kernel_rfl):eM P R f args [] (λk q=>k=r/\q=[]):=by
  unfold Rb at h;refine eV Y y ?_;refine eM.of T d H e ?_;generalize L:et C fn.ntmps i j [.code (dB fn)] ⟨fo 0 args,[],z,[]⟩=x at h;obtain⟨v,g⟩:=x;simp only[ef]at h;obtain⟨M,S,rfl⟩:=h;exact ue c (d:=d) (i:=i) (j:=j) (z:=z) (s:=g.ob) (r:=r) (o:=o) (u:=g.m) (by rw[L];simp[M,S]) F u ⟨K,.take 0 Y Y K K⟩
def vm{R:Nat->Option Nat}{args:List V}(c:RD P C)(fn:Func){o:Bool}(h:(GS C fn.results.toList (et C fn.ntmps i j [.code (dB fn)] ⟨fo 0 args,[],z,[]⟩))=(G,E (r,o),G))(u:o=G)(y:r.wf 0=G)(T:C.mw=R:=by rfl)(d:P.funcs[f]?=E fn:=by kernel_rfl)(H:fn.body=E (dB fn):=by kernel_rfl)(e:Nat.ble args.length fn.ntmps=G:=by kernel_rfl):eM P R f args [] (λk q=>k=r/\q=[]):=by
  unfold GS at h;refine eV Y y ?_;refine eM.of T d H e ?_;generalize L:et C fn.ntmps i j [.code (dB fn)] ⟨fo 0 args,[],z,[]⟩=x at h;obtain⟨v,g⟩:=x;simp only[ef]at h;obtain⟨M,S,F⟩:=h;exact ue c (d:=d) (i:=i) (j:=j) (z:=z) (s:=g.ob) (r:=r) (o:=o) (u:=g.m) (by rw[L];simp[M,S]) F u ⟨K,.take 0 Y Y K K⟩
def BP(L:Nat):List Item->Bool
  | .inLoop _:: .inBlock id::_=>Nat.beq id L
  | .code (.loop _):: .inBlock id::_=>Nat.beq id L
  |_=>A
def o5(C:fw)(n:Nat)(i:Option (List Nat))(L:Nat):Nat->List Item->St->List Item×St
  |0,t,s=>(t,s)
  |k+1,t,s=>bif BP L t then(t,s)else match uL C n i t s with
   |some (a,H)=>o5 C n i L k a H
   |none=>(t,s)
def Ez(C:fw)(n:Nat)(i:Option (List Nat))(L:Nat): ∀(fuel:Nat)(t:List Item)(s:St),∃k,et C n i k t s=o5 C n i L fuel t s
  |0,t,s=>⟨0,K⟩
  |fuel+1,t,s=>by
   unfold o5;cases h:BP L t with
   |true=>exact⟨0,K⟩
   |false=>
    simp only[gr];cases S:uL C n i t s with
    |none=>exact⟨0,K⟩
    |some x=>
     obtain⟨k,R⟩:=Ez C n i L fuel x.1 x.2;refine⟨k+1,?_⟩;simp only[et,S];exact R
def Ev.toL{H:Ds}(c:RD P C){L:Nat}{l:List Nat}{a:List Item}{y:eZ}(h:(Av l (o5 C n i L j t ⟨e,m,z,[]⟩))=(a,y,u,s))(F:eb s=G)(d:jv m.length H=G)(R:Ev P C f n b H a y u Q):Ev P C f n b H t e m Q:=by
  unfold Av at h;obtain⟨k,p⟩:=Ez C n i L j t ⟨e,m,z,[]⟩;rw[<-p]at h;exact Ev.toK c h F d R
def vr{P:Program}{C:fw}{f:FuncId}{n b:Nat}{H:Ds}{t:List Item}{e:eZ}{m:dE}{Q:V->dE->Prop}
    (c:RD P C){i:Option (List Nat)}{L j:Nat}{z:List Bool}{l:List Nat}{a:List Item}{y:eZ}{u:dE}{o:Bool}
    (h:(si l (o5 C n i L j t ⟨e,m,z,[]⟩))=(a,y,u,o))(F:o=G)(d:jv m.length H=G)
    (R:Ev P C f n b H a y u Q):Ev P C f n b H t e m Q:=by
  unfold si at h;subst F;generalize k:o5 C n i L j t ⟨e,m,z,[]⟩=x at h;obtain⟨v,g⟩:=x;simp only[ef]at h;obtain⟨rfl,rfl,rfl,F⟩:=h;exact Ev.toL c (i:=i) (L:=L) (j:=j) (z:=z) (l:=l) (s:=g.ob) (by rw[k]) F d R
def sh(v:Nat):Nat->Nat
  |0=>v
  |k+1=>sh v k/4294967296
def fL(v i:Nat):Int:=((sh v i%4294967296:Nat):Int)
def dg(v:Nat):List V:=[.i .u32 (fL v 0),.i .u32 (fL v 1),.i .u32 (fL v 2),.i .u32 (fL v 3),.i .u32 (fL v 4),.i .u32 (fL v 5),.i .u32 (fL v 6),.i .u32 (fL v 7)]
def aoh:List V->Nat
  | .i _ x::l=>x.toNat+4294967296*aoh l
  |_=>0
noncomputable def num(l:List V):Nat:=Classical.epsilon λv=>v<115792089237316195423570985008687907853269984665640564039457584007913129639936/\l=dg v
noncomputable def iw(l:List V):Bool:= @decide (∃v,v<115792089237316195423570985008687907853269984665640564039457584007913129639936/\l=dg v) (Classical.propDecidable _)
def nO(v i:Nat):0<=fL v i/\fL v i<4294967296:=by unfold fL;have:=iD (sh v i) (J:0<4294967296);omega
def Ty(a b c d e f g h:Nat):Nat:=a+4294967296*(b+4294967296*(c+4294967296*(d+4294967296*(e+4294967296*(f+4294967296*(g+4294967296*h))))))
def CY{v:Nat}(h:v<115792089237316195423570985008687907853269984665640564039457584007913129639936):sh v 7<4294967296:=by simp only[sh,CK];exact Nat.div_lt_of_lt_mul h
def MD{p j m g k P R n:Nat}:letI a:Nat:=4294967296;∀(T:j=p/a)(f:m=j/a)(Q:g=m/a)(F:k=g/a)(t:P=k/a)(e:R=P/a)(z:n=R/a)(H:n<a),p%a+a*(j%a+a*(m%a+a*(g%a+a*(k%a+a*(P%a+a*(R%a+a*(n%a+a*0)))))))=p:=by intro T f Q F t e z H;have c:n%4294967296+4294967296*0=n:=O;have C:R%4294967296+4294967296*n=R:=O;have y:P%4294967296+4294967296*R=P:=O;have u:k%4294967296+4294967296*P=k:=O;have l:g%4294967296+4294967296*k=g:=O;have S:m%4294967296+4294967296*g=m:=O;have M:j%4294967296+4294967296*m=j:=O;rw[c,C,y,u,l,S,M];omega
def MP{v:Nat}(h:v<115792089237316195423570985008687907853269984665640564039457584007913129639936):aoh (dg v)=v:=
  MD (p:=sh v 0) (j:=sh v 1) (m:=sh v 2) (g:=sh v 3) (k:=sh v 4) (P:=sh v 5) (R:=sh v 6) K K K K K K K (CY h)
def fK{v:Nat}(h:v<115792089237316195423570985008687907853269984665640564039457584007913129639936):num (dg v)=v:=by have:=K6 (p:=λu=>u<115792089237316195423570985008687907853269984665640564039457584007913129639936/\dg v=dg u) ⟨v,h,K⟩;have e:=MP this.1;rw[<-this.2,MP h]at e;exact e.symm
def fT{v:Nat}(h:v<115792089237316195423570985008687907853269984665640564039457584007913129639936):iw (dg v)=G:=by unfold iw;exact@fG _ (Classical.propDecidable _) ⟨v,h,K⟩
def qX{r:Nat}(h:a<4294967296):(a+4294967296*r)%4294967296=a/\(a+4294967296*r)/4294967296=r:=O
def amv{a b c d e f g h:Nat}:letI j:Nat:=4294967296;letI k:=Ty a b c d e f g h;∀(t:a<j)(H:b<j)(s:c<j)(z:d<j)(l:e<j)(i:f<j)(p:g<j)(P:h<j),[V.i .u32 (a:Int),.i .u32 (b:Int),.i .u32 (c:Int),.i .u32 (d:Int),.i .u32 (e:Int),.i .u32 (f:Int),.i .u32 (g:Int),.i .u32 (h:Int)]=dg k/\k<115792089237316195423570985008687907853269984665640564039457584007913129639936:=by intro t H s z l i p P;refine⟨?_,by unfold Ty;omega⟩;simp only[dg,fL,sh,Ty,(qX t).1,(qX t).2,(qX H).1,(qX H).2,(qX s).1,(qX s).2,(qX z).1,(qX z).2,(qX l).1,(qX l).2,(qX i).1,(qX i).2,(qX p).1,(qX p).2,uG P]
def mI{l:List V}(h:iw l=G): ∃v,l=dg v/\v<115792089237316195423570985008687907853269984665640564039457584007913129639936/\num l=v:=by unfold iw at h;obtain⟨v,Q,rfl⟩:= @fU _ (Classical.propDecidable _) h;exact⟨v,K,Q,fK Q⟩
def gZ{R:Nat->Option Nat}{args:List V}(s:eM B (λ_=>N) f args [] (λk q=>k=r/\q=[]))(d:ek m.length m=G)(t:args=ml (sg [] m.length) args)(y:r.iU (sg [] m.length)=r):
    eM B R f args m (λk q=>k=r/\q=m):=qc [] s dD Y d t y
def vW(c:Int):Int:=
  if c<=57 then U.u64.wrap (U.u8.wrap (c-48))else if 97<=c then U.u64.wrap (U.u8.wrap (U.u8.wrap (c-97)+10))else U.u64.wrap (U.u8.wrap (U.u8.wrap (c-65)+10))
def Ai(c:Int):Prop:=(48<=c/\c<=57)∨(97<=c/\c<=102)∨(65<=c/\c<=70)
def jy(w c:Int):Int:=U.u64.wrap (U.u64.wrap (w*16)+vW c)
def kH:List Int->List Int->Int->Nat->List Int
  |[],p,_,_=>p
  |c::r,p,w,i=>if i=15 then kH r (p++[jy w c]) 0 0 else kH r p (jy w c) (i+1)
def ZM(p:List Int)(z:V)(row:dE):Prop:=
  (p=[]/\z= .s N 0 0/\row=[])∨ ∃y,z= .s (E (3,0)) p.length (p.length+y.length)/\row=[⟨.ws .u64 (p++y),137⟩]/\p.length+y.length<=9223372036854775807/\dG y
section
variable{s:ByteArray}{tr tg te:es}{ev:Addr}{Q:V->dE->Prop}
abbrev CM(s:ByteArray)(i:Nat)(tr:es):dI:=⟨.lit [.r (.string s),.i .i64 (i:Int),.i .i64 (-1)],tr⟩
abbrev qa(ev:Addr)(tg:es):dI:=⟨.lit [.y 253 (.r (.pointer (E ev)))],tg⟩
abbrev gY(_:Addr)(t:es):dI:=⟨.lit [.i .i64 12],t⟩
def Pu:List Int->Int
  |[]=>0
  |c::_=>c
def RH(ev:Addr):List Int->V
  |[]=> .y 253 (.r (.pointer (E ev)))
  |_::_=> .r .nilIface
def Hh(n:Nat):List Int->Nat
  |[]=>n
  |_::r=>n-r.length
def Lg{row:dE}{r:List Int}{j:Nat}:letI a:=[CM s j tr,qa ev tg,gY ev te]++row;∀(d:ek (a.length) a=G)(y:r=(s.data.toList.drop j).map (λb=>((b.toNat:Nat):Int)))(H:j+r.length=s.data.toList.length)(x:s.data.toList.length<=1000),eM B mK 258 [.p (E (0,0))] a
      (λq u=>q= .t [.i .u8 (Pu r),RH ev r]/\u=[CM s (Hh s.data.toList.length r) tr,qa ev tg,gY ev te]++row):=by
  intro d y H x;cases r with
  |nil=>
   have H:j=s.data.toList.length:=by simpa using H
   refine((QA (s:=s) (i:=j) (p:= -1) (y:=tr) (R:=tg) (v:= .y 253 (.r (.pointer (E ev)))) (P:=gY ev te) O).lift (gl:=mK) (m:=[CM s j tr,qa ev tg,gY ev te]++row) [0,1,2] ⟨K,K,K,K,K,K,dD⟩ J ?_ d).mono ?_
   .intro g i h;unfold gE at h;cases M:Nat.beq g 1 with
    |true=>rw[M]at h;cases h;exact⟨1,K,by show mK g=_;unfold mK;rw[M];rfl⟩
    |false=>rw[M]at h;cases h
   .rintro q u⟨C,e,⟨rfl,rfl⟩,_,rfl,rfl⟩;subst H;refine⟨K,?_⟩;simp only[fW,iC,ft,kw,jx,eI,fb];rfl
  |cons c r=>
   have f:j<s.data.toList.length:=by simp only[eI]at H;omega
   have k:c=((s.data.toList.getD j 0).toNat:Int)/\j+1=s.data.toList.length-r.length:=by
     rw[uX f]at y;simp only[nA,FM]at y;simp only[eI]at H;refine⟨?_,O⟩;have l:s.data.toList.getD j 0=s.data.toList[j]:=by simp only[ie,jr f,CN]
     rw[y.1,l]
   refine((Ih (s:=s) (i:=j) (p:= -1) (y:=tr) f x).lift (gl:=mK) (m:=[CM s j tr,qa ev tg,gY ev te]++row) [0] ⟨K,K,dD⟩ J (λ_ _ h=>by cases h) d).mono ?_;rintro q u⟨C,e,⟨rfl,rfl⟩,_,rfl,rfl⟩;refine⟨?_,?_⟩
   .rw [show Pu (c::r)=c from K,k.1];rfl
   .rw [show Hh s.data.toList.length (c::r)=s.data.toList.length-r.length from K,<-k.2];simp only[fW,iC,ft,kw,jx,eI,fb];rfl
def wu8{n:Int}(h:0<=n/\n<256):U.u8.wrap n=n:=by rw[wr8];omega
def SQ{c:Int}(h:Ai c):0<=vW c/\vW c<16:=by
  unfold vW;have a: ∀x:Int,0<=x->x<16->U.u64.wrap (U.u8.wrap x)=x:=λx C M=>by rw[wu8 O,mP O]
  rcases h with h|h|h
  .rw [if_pos O,a _ O O];omega
  .rw [if_neg O,if_pos O,wu8 (O:0<=c-97/\c-97<256),a _ O O];omega
  .rw [if_neg O,if_neg O,wu8 (O:0<=c-65/\c-65<256),a _ O O];omega
abbrev Hz(s:ByteArray)(tr tg te:es)(ev:Addr)(r:List Int)(row:dE):dE:=[CM s (Hh s.data.toList.length r) tr,qa ev tg,gY ev te]++row
def sx(n:Nat):dG (lc n 0):=λx L=>by rw[K8 L];decide
def ZM.wf{p:List Int}{z:V}{row:dE}{s:ByteArray}{i:Nat}{tr tg te:es}{ev:Addr}(h:ZM p z row):letI a:=[CM s i tr,qa ev tg,gY ev te]++row;ek (a.length) a=G:=by rcases h with⟨_,_,rfl⟩ |⟨y,_,rfl,_,_⟩<;>rfl
def vq{c:Int}{r p:List Int}{z:V}{row:dE}(o:ZM p z row)(x:s.data.toList.length<=1000)
    (y:c::r=(s.data.toList.drop (s.data.toList.length-(r.length+1))).map (λb=>((b.toNat:Nat):Int)))(f:r.length+1<=s.data.toList.length):
    eM B mK 258 [.p (E (0,0))] (Hz s tr tg te ev (c::r) row) (λq u=>q= .t [.i .u8 (Pu r),RH ev r]/\u=Hz s tr tg te ev r row):=by
  have e:Hh s.data.toList.length (c::r)=s.data.toList.length-r.length:=K;unfold Hz;rw[e];refine Lg (row:=row) (r:=r) (j:=s.data.toList.length-r.length) o.wf ?_ O x
  have:s.data.toList.drop (s.data.toList.length-r.length)=(s.data.toList.drop (s.data.toList.length-(r.length+1))).drop 1:=by rw[lR];congr 1;omega
  rw[this,Ew,<-y];rfl
def sK: ∀g i,mK g=E i->i<3:=by
  intro g i h;unfold mK at h;cases M:Nat.beq g 1 with
  |true=>rw[M]at h;cases h;decide
  |false=>rw[M]at h;cases h
def pX:ji B (ep mK [] LQ):=gy dD (jF mK)
def E8(hn:s.data.toList.length<=1000): ∀(r p:List Int)(z:V)(row:dE)(e H w:Int)(i:Nat),(∀c∈r,Ai c)->r=(s.data.toList.drop (s.data.toList.length-r.length)).map (λb=>((b.toNat:Nat):Int))->r.length<=s.data.toList.length->
    ZM p z row->i<16->(i=0->w=0)->16*p.length+i+r.length=64->0<=e->e+r.length=64->H≠95->(kH r p w i).headD 0≠0->
    (∀y,dG y->4+y.length<=9223372036854775807->Q (.t [.s (E (3,0)) 4 (4+y.length),.i .i64 16,.i .i64 64,.r .nilIface]) ([CM s s.data.toList.length tr,qa ev tg,gY ev te]++[⟨.ws .u64 ((kH r p w i).reverse++y),137⟩]))->
    Ev B (ep mK [] LQ) 160 f160.ntmps 3 [] ZT (QE z e (RH ev r) H (Pu r) w i) (Hz s tr tg te ev r row) Q
  |[],p,z,row,e,H,w,i,_,_,_,o,hi,hw,hc,h0,ac,hp,S,hQ=>by
   have ak:i=0:=by simp only[fb]at hc;omega
   subst ak;have hl:p.length=4:=by simp only[fb]at hc;omega
   have af:e=64:=by simp only[fb]at ac;omega
   subst af;rcases o with⟨rfl,_,_⟩ |⟨y,rfl,rfl,m,F⟩
   .cases hl
   refine Tg (eB pX) 200 [A] (207::208::ke) _ (aOd _ _ _ _ _ _ _ _ _ _) K K K eqE K K ?_;refine Ev.fq (209::ke) ?_
   refine dY (eB pX) (aBp _ _ _ _ _ _ _) ?_ K K OJ
     (Q1:=λr m'=>r= .t []/\m'=[CM s s.data.toList.length tr,qa ev tg,gY ev te,⟨.ws .u64 (p.reverse++y),137⟩]) ?_ K ?_
   .simp only[dK,dJ,eu,ew,Nat.reduceAdd,Nat.reduceLT];omega
   .refine((ags (λ_=>N) p y (p.length+y.length) 137 O).lift (gl:=mK) [3] ⟨K,K,dD⟩ J (λ_ _ h=>by cases h) K).mono ?_
    .rintro r m'⟨r0,an,⟨rfl,rfl⟩,_,rfl,rfl⟩;exact⟨K,K⟩
   rintro r m'⟨rfl,rfl⟩_;refine⟨_,K,?_⟩;refine Ev.fq [0,9,10,11,21,22] ?_
   obtain⟨a0,a1,a2,a3,aa⟩: ∃a0 a1 a2 a3,p.reverse=[a0,a1,a2,a3]:=by
     match h:p.reverse,(by rw[KC];exact hl:p.reverse.length=4)with
     |[a0,a1,a2,a3],_=>exact⟨a0,a1,a2,a3,K⟩
   have am:a3≠0:=by
     have hh:p=[a3,a2,a1,a0]:=by rw[<-List.reverse_reverse p,aa];rfl
     have:(kH [] p w 0).headD 0=a3:=by rw[hh];rfl
     rw[<-this];exact S
   have hq:=hQ y F O;rw[show kH [] p w 0=p from K]at hq;rw[aa]at hq⊢;rw[hl]at*;refine Ev.done (eB pX) (aLg _ _ _ _ _ a0 a1 a2 a3 y 137) ?_ ?_
   .simp only[dK,dJ,eu,ew,Nat.reduceAdd,Nat.reduceLT];refine⟨?_,?_⟩<;>(try rfl)<;>(try simp)<;>omega
   .have:gm (λj=>(a0::a1::a2::a3::y).getD (0+j) 0) 4=4:=by unfold gm;simp[am]
    rw[this];exact hq
  |c::r,p,z,row,e,H,w,i,ab,hr,ae,o,hi,hw,hc,h0,ac,hp,S,hQ=>by
   have L:Ai c:=ab c (jt ..);show Ev B (ep mK [] LQ) 160 f160.ntmps 3 [] ZT (QE z e (.r .nilIface) H c w i) (Hz s tr tg te ev (c::r) row) Q;have hv:=SQ L;simp only[eI]at hr ae hc ac
   have ah:r=(s.data.toList.drop (s.data.toList.length-r.length)).map (λb=>((b.toNat:Nat):Int)):=by
     have:s.data.toList.drop (s.data.toList.length-r.length)=(s.data.toList.drop (s.data.toList.length-(r.length+1))).drop 1:=by rw[lR];congr 1;omega
     rw[this,Ew,<-hr];rfl
   have u:U.i64.wrap (e+1)=e+1:=iy O;have ei:U.i64.wrap ((i:Int)+1)=((i+1:Nat):Int):=jw;have IH:=E8 hn r
   have go: ∀(f:List Int)(M:V)(d:dE)(w2:Int)(i2:Nat)(w3 i3:Int),ZM f M d->i2<16->(i2=0->w2=0)->16*f.length+i2+r.length=64->kH (c::r) p w i=kH r f w2 i2->
    Ev B (ep mK [] LQ) 160 f160.ntmps 3 [] (dF 79 2 (dB f160) []) ((204,.t [.i .u8 (Pu r),RH ev r])::QE M (e+1) (.r .nilIface) 48 c w2 i2) (Hz s tr tg te ev r d) Q:=by intro f M d w2 i2 w3 i3 R aj ag al C;refine fa (eB pX) (aBr _ _ _ _ _ _ _ _ _) K K ?_;exact IH f M d (e+1) 48 w2 i2 (λx L=>ab x (jh _ L)) ah O R aj ag al O O J (C▸S) (C▸hQ)
   by_cases hf:i=15
   .have C:kH (c::r) p w i=kH r (p++[jy w c]) 0 0:=by rw[kH,if_pos hf]
    subst hf
    have v: ∀(M:V)(d:dE)(w3 i3:Int),ZM (p++[jy w c]) M d->
     Ev B (ep mK [] LQ) 160 f160.ntmps 3 [] (dF 75 4 (dB f160) []) ((196,M)::PH (e+1) (.r .nilIface) 48 c w3 i3) (Hz s tr tg te ev (c::r) d) Q:=by
      intro M d w3 i3 R;refine lC oG (eB pX) 200 [] (203::ke) _ (aMi _ _ _ _ _ _ _) K K K nQ (vq R hn hr O) ?_ ?_
      .rcases R with⟨_,rfl,rfl⟩ |⟨_,rfl,rfl,_,_⟩<;>rfl
      rintro q m'⟨rfl,rfl⟩_;refine⟨_,K,?_⟩;refine Ev.fq (204::ke) ?_;exact go (p++[jy w c]) M d 0 0 w3 i3 R O (λ_=>rfl) (by simp only[gw,eI,fb];omega) C
    rcases L with h|h|h
    .have g:U.u64.wrap (U.u8.wrap (c-48))=vW c:=by unfold vW;rw[if_pos O]
     have ob:eb [Bool.true,Bool.true,((U.i64.wrap ((15:Nat)+(1:Int))==(16:Int))==G)]=G:=J;rcases o with⟨rfl,rfl,rfl⟩ |⟨y,rfl,rfl,m,F⟩
     .refine jW (eB pX) 200 [G,A,A,A,A,G,G,A,G,G] (193::195::ke) _ (YR _ e H c w _ _) ?_ K K K (g:=137) (k:= .u64) (z:=N) (l:=0) (c:=0) (x:=3) (ox:=0) (n:=1) (c2:=1) (F:=[]) (xs:=[jy w c]) (tx:=137) I I K K ?_ Y J J ⟨K,K,K⟩ ?_ ?_
      .rw [g];simp only[dK,dJ,eu,ew,Nat.reduceAdd,Nat.reduceLT];omega
      .rw [g];rfl
      .intro z' a;cases a
      .intro _ T hG t;refine⟨_,K,?_⟩;refine Ev.fq (196::ke.tail) ?_;rw[u,g];refine kL [0,1,2,4] [] ((196,.s (E (3,0)) 1 T)::PH (e+1) (.r .nilIface) 48 c (jy w c) (U.i64.wrap ((15:Nat)+1))) (Hz s tr tg te ev (c::r) [⟨.ws .u64 ([jy w c]++lc (T-1) 0),137⟩]) sK K ⟨λ_=>rfl,λ_=>rfl,λ_=>rfl,λ_=>rfl,dD⟩ K (J:List.Nodup [0,1,2,4]) K K ?_;refine v (.s (E (3,0)) 1 T) _ _ _ (.inr ⟨lc (T-1) 0,?_,K,?_,sx _⟩)
       .rw [fJ];show V.s _ 1 T=V.s _ 1 (1+(T-1));rw[(O:1+(T-1)=T)]
       .simp only[gw,fJ,eI,fb];omega
     .have ad:(([CM s (Hh s.data.toList.length (c::r)) tr,qa ev tg,gY ev te]++[⟨.ws .u64 (p++y),137⟩]:dE)++[⟨.ws .u64 [jy w c],137⟩])[4]?=E ⟨.ws .u64 [jy w c],137⟩:=K;refine jW (eB pX) 200 [G,A,A,A,A,G,G,A,G,G] (193::195::ke) _ (YR _ e H c w _ _) ?_ K K K (g:=137) (k:= .u64) (z:=E 3) (l:=p.length) (c:=p.length+y.length) (x:=4) (ox:=0) (n:=1) (c2:=1) (F:=p++y) (xs:=[jy w c]) (tx:=137) I I K K ?_ Y J O ⟨K,O,Y⟩ ?_ ?_
      .rw [g];simp only[dK,dJ,eu,ew,Nat.reduceAdd,Nat.reduceLT];omega
      .rw [g];rfl
      .intro z' a P;cases a;refine⟨_,K,?_⟩;refine Ev.fq (196::ke.tail) ?_;rw[u,g];refine kL [0,1,2,3] [] ((196,.s (E (3,0)) (p.length+1) (p.length+y.length))::PH (e+1) (.r .nilIface) 48 c (jy w c) (U.i64.wrap ((15:Nat)+1))) (Hz s tr tg te ev (c::r) [⟨.ws .u64 ((p++[jy w c])++y.drop 1),137⟩]) sK K ⟨λ_=>rfl,λ_=>rfl,λ_=>rfl,λ_=>?_,dD⟩ K (J:List.Nodup [0,1,2,3]) K K ?_
       .have:dC (p++y) ((kw 0 [jy w c]).take 1) p.length=(p++[jy w c])++y.drop 1:=by unfold dC;simp[s6]
        rw[this];rfl
       refine v _ _ _ _ (.inr ⟨y.drop 1,?_,K,?_,λx L=>F x (Gv L)⟩)
       .simp only[gw,jK,eI,fb];rw[(O:p.length+(0+1)+(y.length-1)=p.length+y.length)]
       .simp only[gw,jK,eI,fb];omega
      .intro _ T hG t;refine⟨_,K,?_⟩;refine Ev.fq (196::ke.tail) ?_;rw[u,g];refine kL [0,1,2,5] [] ((196,.s (E (3,0)) (p.length+1) T)::PH (e+1) (.r .nilIface) 48 c (jy w c) (U.i64.wrap ((15:Nat)+1))) (Hz s tr tg te ev (c::r) [⟨.ws .u64 ((p++[jy w c])++lc (T-(p.length+1)) 0),137⟩]) sK K ⟨λ_=>rfl,λ_=>rfl,λ_=>rfl,λ_=>?_,dD⟩ K (J:List.Nodup [0,1,2,5]) K K ?_
       .have:jp p.length (p++y)++(kw 0 [jy w c]).take 1++lc (T-(p.length+1)) 0=(p++[jy w c])++lc (T-(p.length+1)) (0:Int):=Y;rw[this];rfl
       refine v _ _ _ _ (.inr ⟨lc (T-(p.length+1)) 0,?_,K,?_,sx _⟩)
       .simp only[gw,fJ,eI,fb];rw[(O:p.length+(0+1)+(T-(p.length+1))=T)]
       .simp only[gw,fJ,eI,fb];omega
    .have g:U.u64.wrap (U.u8.wrap (U.u8.wrap (c-97)+10))=vW c:=by unfold vW;rw[if_neg O,if_pos O]
     have ob:eb [Bool.true,Bool.true,((U.i64.wrap ((15:Nat)+(1:Int))==(16:Int))==G)]=G:=J;rcases o with⟨rfl,rfl,rfl⟩ |⟨y,rfl,rfl,m,F⟩
     .refine jW (eB pX) 200 [G,A,A,A,A,G,A,G,G,A,G,G] (193::195::ke) _ (Y6 _ e H c w _ _) ?_ K K K (g:=137) (k:= .u64) (z:=N) (l:=0) (c:=0) (x:=3) (ox:=0) (n:=1) (c2:=1) (F:=[]) (xs:=[jy w c]) (tx:=137) I I K K ?_ Y J J ⟨K,K,K⟩ ?_ ?_
      .rw [g];simp only[dK,dJ,eu,ew,Nat.reduceAdd,Nat.reduceLT];omega
      .rw [g];rfl
      .intro z' a;cases a
      .intro _ T hG t;refine⟨_,K,?_⟩;refine Ev.fq (196::ke.tail) ?_;rw[u,g];refine kL [0,1,2,4] [] ((196,.s (E (3,0)) 1 T)::PH (e+1) (.r .nilIface) 48 c (jy w c) (U.i64.wrap ((15:Nat)+1))) (Hz s tr tg te ev (c::r) [⟨.ws .u64 ([jy w c]++lc (T-1) 0),137⟩]) sK K ⟨λ_=>rfl,λ_=>rfl,λ_=>rfl,λ_=>rfl,dD⟩ K (J:List.Nodup [0,1,2,4]) K K ?_;refine v (.s (E (3,0)) 1 T) _ _ _ (.inr ⟨lc (T-1) 0,?_,K,?_,sx _⟩)
       .rw [fJ];show V.s _ 1 T=V.s _ 1 (1+(T-1));rw[(O:1+(T-1)=T)]
       .simp only[gw,fJ,eI,fb];omega
     .have ad:(([CM s (Hh s.data.toList.length (c::r)) tr,qa ev tg,gY ev te]++[⟨.ws .u64 (p++y),137⟩]:dE)++[⟨.ws .u64 [jy w c],137⟩])[4]?=E ⟨.ws .u64 [jy w c],137⟩:=K;refine jW (eB pX) 200 [G,A,A,A,A,G,A,G,G,A,G,G] (193::195::ke) _ (Y6 _ e H c w _ _) ?_ K K K (g:=137) (k:= .u64) (z:=E 3) (l:=p.length) (c:=p.length+y.length) (x:=4) (ox:=0) (n:=1) (c2:=1) (F:=p++y) (xs:=[jy w c]) (tx:=137) I I K K ?_ Y J O ⟨K,O,Y⟩ ?_ ?_
      .rw [g];simp only[dK,dJ,eu,ew,Nat.reduceAdd,Nat.reduceLT];omega
      .rw [g];rfl
      .intro z' a P;cases a;refine⟨_,K,?_⟩;refine Ev.fq (196::ke.tail) ?_;rw[u,g];refine kL [0,1,2,3] [] ((196,.s (E (3,0)) (p.length+1) (p.length+y.length))::PH (e+1) (.r .nilIface) 48 c (jy w c) (U.i64.wrap ((15:Nat)+1))) (Hz s tr tg te ev (c::r) [⟨.ws .u64 ((p++[jy w c])++y.drop 1),137⟩]) sK K ⟨λ_=>rfl,λ_=>rfl,λ_=>rfl,λ_=>?_,dD⟩ K (J:List.Nodup [0,1,2,3]) K K ?_
       .have:dC (p++y) ((kw 0 [jy w c]).take 1) p.length=(p++[jy w c])++y.drop 1:=by unfold dC;simp[s6]
        rw[this];rfl
       refine v _ _ _ _ (.inr ⟨y.drop 1,?_,K,?_,λx L=>F x (Gv L)⟩)
       .simp only[gw,jK,eI,fb];rw[(O:p.length+(0+1)+(y.length-1)=p.length+y.length)]
       .simp only[gw,jK,eI,fb];omega
      .intro _ T hG t;refine⟨_,K,?_⟩;refine Ev.fq (196::ke.tail) ?_;rw[u,g];refine kL [0,1,2,5] [] ((196,.s (E (3,0)) (p.length+1) T)::PH (e+1) (.r .nilIface) 48 c (jy w c) (U.i64.wrap ((15:Nat)+1))) (Hz s tr tg te ev (c::r) [⟨.ws .u64 ((p++[jy w c])++lc (T-(p.length+1)) 0),137⟩]) sK K ⟨λ_=>rfl,λ_=>rfl,λ_=>rfl,λ_=>?_,dD⟩ K (J:List.Nodup [0,1,2,5]) K K ?_
       .have:jp p.length (p++y)++(kw 0 [jy w c]).take 1++lc (T-(p.length+1)) 0=(p++[jy w c])++lc (T-(p.length+1)) (0:Int):=Y;rw[this];rfl
       refine v _ _ _ _ (.inr ⟨lc (T-(p.length+1)) 0,?_,K,?_,sx _⟩)
       .simp only[gw,fJ,eI,fb];rw[(O:p.length+(0+1)+(T-(p.length+1))=T)]
       .simp only[gw,fJ,eI,fb];omega
    .have g:U.u64.wrap (U.u8.wrap (U.u8.wrap (c-65)+10))=vW c:=by unfold vW;rw[if_neg O,if_neg O]
     have ob:eb [Bool.true,Bool.true,((U.i64.wrap ((15:Nat)+(1:Int))==(16:Int))==G)]=G:=J;rcases o with⟨rfl,rfl,rfl⟩ |⟨y,rfl,rfl,m,F⟩
     .refine jW (eB pX) 200 [G,A,A,A,A,G,A,A,A,G,G,G,A,G,G] (193::195::ke) _ (Za _ e H c w _ _) ?_ K K K (g:=137) (k:= .u64) (z:=N) (l:=0) (c:=0) (x:=3) (ox:=0) (n:=1) (c2:=1) (F:=[]) (xs:=[jy w c]) (tx:=137) I I K K ?_ Y J J ⟨K,K,K⟩ ?_ ?_
      .rw [g];simp only[dK,dJ,eu,ew,Nat.reduceAdd,Nat.reduceLT];omega
      .rw [g];rfl
      .intro z' a;cases a
      .intro _ T hG t;refine⟨_,K,?_⟩;refine Ev.fq (196::ke.tail) ?_;rw[u,g];refine kL [0,1,2,4] [] ((196,.s (E (3,0)) 1 T)::PH (e+1) (.r .nilIface) 48 c (jy w c) (U.i64.wrap ((15:Nat)+1))) (Hz s tr tg te ev (c::r) [⟨.ws .u64 ([jy w c]++lc (T-1) 0),137⟩]) sK K ⟨λ_=>rfl,λ_=>rfl,λ_=>rfl,λ_=>rfl,dD⟩ K (J:List.Nodup [0,1,2,4]) K K ?_;refine v (.s (E (3,0)) 1 T) _ _ _ (.inr ⟨lc (T-1) 0,?_,K,?_,sx _⟩)
       .rw [fJ];show V.s _ 1 T=V.s _ 1 (1+(T-1));rw[(O:1+(T-1)=T)]
       .simp only[gw,fJ,eI,fb];omega
     .have ad:(([CM s (Hh s.data.toList.length (c::r)) tr,qa ev tg,gY ev te]++[⟨.ws .u64 (p++y),137⟩]:dE)++[⟨.ws .u64 [jy w c],137⟩])[4]?=E ⟨.ws .u64 [jy w c],137⟩:=K;refine jW (eB pX) 200 [G,A,A,A,A,G,A,A,A,G,G,G,A,G,G] (193::195::ke) _ (Za _ e H c w _ _) ?_ K K K (g:=137) (k:= .u64) (z:=E 3) (l:=p.length) (c:=p.length+y.length) (x:=4) (ox:=0) (n:=1) (c2:=1) (F:=p++y) (xs:=[jy w c]) (tx:=137) I I K K ?_ Y J O ⟨K,O,Y⟩ ?_ ?_
      .rw [g];simp only[dK,dJ,eu,ew,Nat.reduceAdd,Nat.reduceLT];omega
      .rw [g];rfl
      .intro z' a P;cases a;refine⟨_,K,?_⟩;refine Ev.fq (196::ke.tail) ?_;rw[u,g];refine kL [0,1,2,3] [] ((196,.s (E (3,0)) (p.length+1) (p.length+y.length))::PH (e+1) (.r .nilIface) 48 c (jy w c) (U.i64.wrap ((15:Nat)+1))) (Hz s tr tg te ev (c::r) [⟨.ws .u64 ((p++[jy w c])++y.drop 1),137⟩]) sK K ⟨λ_=>rfl,λ_=>rfl,λ_=>rfl,λ_=>?_,dD⟩ K (J:List.Nodup [0,1,2,3]) K K ?_
       .have:dC (p++y) ((kw 0 [jy w c]).take 1) p.length=(p++[jy w c])++y.drop 1:=by unfold dC;simp[s6]
        rw[this];rfl
       refine v _ _ _ _ (.inr ⟨y.drop 1,?_,K,?_,λx L=>F x (Gv L)⟩)
       .simp only[gw,jK,eI,fb];rw[(O:p.length+(0+1)+(y.length-1)=p.length+y.length)]
       .simp only[gw,jK,eI,fb];omega
      .intro _ T hG t;refine⟨_,K,?_⟩;refine Ev.fq (196::ke.tail) ?_;rw[u,g];refine kL [0,1,2,5] [] ((196,.s (E (3,0)) (p.length+1) T)::PH (e+1) (.r .nilIface) 48 c (jy w c) (U.i64.wrap ((15:Nat)+1))) (Hz s tr tg te ev (c::r) [⟨.ws .u64 ((p++[jy w c])++lc (T-(p.length+1)) 0),137⟩]) sK K ⟨λ_=>rfl,λ_=>rfl,λ_=>rfl,λ_=>?_,dD⟩ K (J:List.Nodup [0,1,2,5]) K K ?_
       .have:jp p.length (p++y)++(kw 0 [jy w c]).take 1++lc (T-(p.length+1)) 0=(p++[jy w c])++lc (T-(p.length+1)) (0:Int):=Y;rw[this];rfl
       refine v _ _ _ _ (.inr ⟨lc (T-(p.length+1)) 0,?_,K,?_,sx _⟩)
       .simp only[gw,fJ,eI,fb];rw[(O:p.length+(0+1)+(T-(p.length+1))=T)]
       .simp only[gw,fJ,eI,fb];omega
   .have C:kH (c::r) p w i=kH r p (jy w c) (i+1):=by rw[kH,if_neg hf]
    have fin:Ev B (ep mK [] LQ) 160 f160.ntmps 3 [] (dF 79 2 (dB f160) []) ((204,.t [.i .u8 (Pu r),RH ev r])::QE z (e+1) (.r .nilIface) 48 c (jy w c) ((i+1:Nat):Int)) (Hz s tr tg te ev r row) Q:=
      go p z row (jy w c) (i+1) 0 0 o O (λh=>O) O C
    rcases L with h|h|h
    .have g:U.u64.wrap (U.u8.wrap (c-48))=vW c:=by unfold vW;rw[if_pos O]
     refine lC oG (eB pX) 200 [G,A,A,A,A,G,G,A,A] (203::ke) _ (arw _ _ _ _ _ _ _) ?_ K K nQ (vq o hn hr O) ?_ ?_
     .rw [ei,g];simp only[dK,dJ,eu,ew,Nat.reduceAdd,Nat.reduceLT];omega
     .rcases o with⟨_,rfl,rfl⟩ |⟨_,rfl,rfl,_,_⟩<;>rfl
     rintro q m'⟨rfl,rfl⟩_;refine⟨_,K,?_⟩;refine Ev.fq (204::ke) ?_;rw[ei,u,g];exact fin
    .have g:U.u64.wrap (U.u8.wrap (U.u8.wrap (c-97)+10))=vW c:=by unfold vW;rw[if_neg O,if_pos O]
     refine lC oG (eB pX) 200 [G,A,A,A,A,G,A,G,G,A,A] (203::ke) _ (amc _ _ _ _ _ _ _) ?_ K K nQ (vq o hn hr O) ?_ ?_
     .rw [ei,g];simp only[dK,dJ,eu,ew,Nat.reduceAdd,Nat.reduceLT];omega
     .rcases o with⟨_,rfl,rfl⟩ |⟨_,rfl,rfl,_,_⟩<;>rfl
     rintro q m'⟨rfl,rfl⟩_;refine⟨_,K,?_⟩;refine Ev.fq (204::ke) ?_;rw[ei,u,g];exact fin
    .have g:U.u64.wrap (U.u8.wrap (U.u8.wrap (c-65)+10))=vW c:=by unfold vW;rw[if_neg O,if_neg O]
     refine lC oG (eB pX) 200 [G,A,A,A,A,G,A,A,A,G,G,G,A,A] (203::ke) _ (auc _ _ _ _ _ _ _) ?_ K K nQ (vq o hn hr O) ?_ ?_
     .rw [ei,g];simp only[dK,dJ,eu,ew,Nat.reduceAdd,Nat.reduceLT];omega
     .rcases o with⟨_,rfl,rfl⟩ |⟨_,rfl,rfl,_,_⟩<;>rfl
     rintro q m'⟨rfl,rfl⟩_;refine⟨_,K,?_⟩;refine Ev.fq (204::ke) ?_;rw[ei,u,g];exact fin
end
end Go.Proofs.YtiggidfngfkanaaGreatDoor
