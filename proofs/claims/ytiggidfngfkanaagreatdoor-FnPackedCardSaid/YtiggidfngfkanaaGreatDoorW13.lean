/- FnPacked, part 13. No condition. -/
import Derived.Test.YtiggidfngfkanaaGreatDoorW12
namespace Go.Proofs.YtiggidfngfkanaaGreatDoor
open Go Go.Proofs.Tryz
set_option maxRecDepth 100000
set_option maxHeartbeats 4000000
set_option linter.all false
open Bool renaming false->A, true->G
open Decidable renaming decide->D
open Go renaming IntKind->U, TypeId->es, Value->ip
open Go.Proofs.Tryz renaming prog->B
open List renaming drop->kw, replicate->lc, take->jp
open Option renaming none->N, some->E
variable{s:ByteArray}{d l:List Int}{a b:Nat}
def DW(s:ByteArray):List Int:=s.data.toList.map (λb=>((b.toNat:Nat):Int))
structure o9(s:ByteArray):Prop where
  len:s.data.toList.length=64
  hex: ∀c∈DW s,Ai c
  top:(kH (DW s) [] 0 0).headD 0≠0
def ahx{a R k:es}{n:Addr}(h:o9 s):
    eM B mK 160 [.s N 0 0,.y 160 (.p (E (0,0))),.i .i64 16,.b A] [CM s 0 a,qa n R,gY n k]
     (λr u=> ∃y,dG y/\4+y.length<=9223372036854775807/\r= .t [.s (E (3,0)) 4 (4+y.length),.i .i64 16,.i .i64 64,.r .nilIface]/\u=[CM s 64 a,qa n R,gY n k,⟨.ws .u64 ((kH (DW s) [] 0 0).reverse++y),137⟩]):=by
  obtain⟨f,L,b⟩:=h;refine dL (ep mK [] LQ) f160 ?_
  obtain⟨c,r,i⟩: ∃c r,DW s=c::r:=by
    match P:DW s with
    |[]=>simp only[DW,List.map_eq_nil_iff]at P;rw[P]at f;cases f
    |c::r=>exact⟨c,r,K⟩
  have w:(c::r).length=64:=by rw[<-i];simp[DW]at f⊢;exact f
  refine lC oG (eB pX) 200 [A,G,G,G,A] [0,1,2,3,10,13,14,61] _ (aNr (.r .nilIface) _) K K K nQ
    (Lg (row:=[]) (r:=c::r) (j:=0) K (by rw[<-i];rfl) (by rw[w,f]) O) K ?_
  rintro q u⟨rfl,rfl⟩_;refine⟨_,K,?_⟩;refine Ev.fq [62,0,1,2,3,10,13,14] ?_;refine fa (eB pX) (aOl _ _) K K ?_;refine E8 O (c::r) [] (.s N 0 0) [] 0 46 0 0 (by rw[<-i];exact L) ?_ O (.inl ⟨K,K,K⟩) J (λ_=>rfl) (by simp only[w,fb]) J (by simp only[w];rfl) J (by rw[<-i];exact b) ?_
  .rw [f,w,<-i];rfl
  .intro y M S;rw[f,<-i];exact⟨y,M,S,K,K⟩
def KV(n:Int):gn (U.u64.wrap n):=by rw[kq];exact⟨j7 _ J,j6 _ J⟩
def zK: ∀(r p:List Int)(w:Int)(i:Nat),dG p->dG (kH r p w i)
  |[],_,_,_,h=>h
  |c::r,p,w,i,h=>by
   unfold kH;split
   .exact zK r _ _ _ (iR.2 ⟨h,λx L=>by rw[tI.1 L];exact KV _⟩)
   .exact zK r _ _ _ h
def vD: ∀(r p:List Int)(w:Int)(i:Nat),i<16->(kH r p w i).length=p.length+(i+r.length)/16
  |[],p,w,i,h=>by show p.length=_;simp only[fb];omega
  |c::r,p,w,i,h=>by
   unfold kH;split
   .rename_i M;rw[vD r _ _ _ J];simp only[gw,eI,fb];omega
   .rename_i M;rw[vD r _ _ _ O];simp only[eI];omega
def ux(s:ByteArray):Int:=val (kH (DW s) [] 0 0).reverse
def o9.awi(h:o9 s){y:List Int}(r:dG y)(f:4+y.length<=9223372036854775807):fX A ((kH (DW s) [] 0 0).reverse++y) 4 (ux s):=by
  have w:(kH (DW s) [] 0 0).length=4:=by
    rw[vD _ _ _ _ J];have:(DW s).length=64:=by simp only[DW,pc];exact h.len
    rw[this];rfl
  have e:dG (kH (DW s) [] 0 0):=zK _ _ _ _ (λx L=>by cases L);have S:=h.top;unfold ux;generalize kH (DW s) [] 0 0=l at*
  match l,w with
  |[a,b,c,d],_=>
   refine⟨Y,gp,?_,.inr ?_,(λh=>by cases h),Y⟩
   .exact iR.2 ⟨λx L=>e x (List.mem_reverse.1 L),r⟩
   .simpa using S
abbrev aGi(n:Addr):V:= .y 253 (.r (.pointer (E n)))
def aKp(m:dE):letI a:V:= .y 160 (.p (E (0,0)));(match eC (ep US [] []) f159.ntmps 200 [0,2,3,4,6] [.code (dB f159)] ⟨[(0,a)],m,[],[]⟩with|(v,T,q,R)=>(qn (ep US [] []) Bz v T,iF v,T,q,R))=(E (258,([.p (E (0,0))],E 7)),dF 2 2 (dB f159) [],[(0,a),(2,.b A),(3,.r (ip.nilIface)),(4,.i .u8 0),(6,a)],m,[]):=I
def aRy(c:Int)(m:dE):letI a:V:= .y 160 (.p (E (0,0)));(match eC (ep US [] []) f159.ntmps 200 [0,2,3,14] (dF 2 2 (dB f159) []) ⟨[(7,.t [.i .u8 c,.r .nilIface]),(0,a),(2,.b A),(3,.r .nilIface),(4,.i .u8 0)],m,[A,A,A],[]⟩with|(v,T,q,R)=>(qn (ep US [] []) Bz v T,iF v,T,q,R))=(E (259,([.p (E (0,0))],E 15)),dF 6 2 (dB f159) [],[(0,a),(2,.b A),(3,.r (ip.nilIface)),(14,a)],m,[(c==43)==A,(c==45)==A,G]):=I
def aNk(v:V)(m:dE):(gi f159.results.toList (et (ep US [] []) f159.ntmps N 200 (dF 6 2 (dB f159) []) ⟨[(15,v),(2,.b A),(3,.r .nilIface)],m,[],[]⟩))=(G,E (.t [.b A,.r (ip.nilIface)]),m,[]):=I
def aRl(m:dE):letI a:V:= .y 160 (.p (E (0,0)));(mW (ep mK [] LQ) (eC (ep mK [] LQ) f138.ntmps 200 [0,1,2,12] [.code (dB f138)] ⟨[(0,.p (E (3,0))),(1,a),(2,.i .i64 16)],m,[],[]⟩))=(E (159,([a],E 13)),dF 1 2 (dB f138) [],[(0,.p (E (3,0))),(1,a),(2,.i .i64 16),(12,a)],m,[]):=I
def aMd(a b c:dI)(P:es):letI h:V:= .s N 0 0;letI d:dE:=[a,b,c,⟨.lit [.b A,h],P⟩];letI e:V:= .y 160 (.p (E (0,0)));letI f:V:= .p (E (3,0));letI g:V:= .i .i64 16;(mW (ep mK [] LQ) (eC (ep mK [] LQ) f138.ntmps 200 [0,9,20,24,25,26] (dF 1 2 (dB f138) []) ⟨[(13,.t [.b A,.r .nilIface]),(0,f),(1,e),(2,g)],d,[A],[]⟩))=(E (160,([h,e,g,.b A],E 27)),dF 4 8 (dB f138) [],[(0,f),(9,.b A),(20,f),(24,h),(25,e),(26,g)],d,[G,G]):=I
def aBx(a b c:dI)(P s:es)(F:Nat)(p:List Int):letI d:V:= .p (E (3,0));letI e:dI:=⟨.ws .u64 p,s⟩;(gi f138.results.toList (et (ep mK [] LQ) f138.ntmps N 200 (dF 4 8 (dB f138) []) ⟨[(27,.t [.s (E (4,0)) 4 F,.i .i64 16,.i .i64 64,.r .nilIface]),(0,d),(9,.b A),(20,d)],[a,b,c,⟨.lit [.b A,.s N 0 0],P⟩,e],[A,G],[]⟩))=(G,E (.t [d,.i .i64 16,.r (ip.nilIface)]),[a,b,c,⟨.lit [.b A,.s (E (4,0)) 4 F],P⟩,e],[G,G,G,G,G,G]):=I
def aKx(m:dE):letI a:V:= .y 160 (.p (E (0,0)));letI b:V:= .p (E (3,0));letI c:V:= .i .i64 16;(mW (ep mK [] LQ) (eC (ep mK [] LQ) f115.ntmps 200 [0,1,14,15,16] [.code (dB f115)] ⟨[(0,b),(1,a),(2,c)],m,[],[]⟩))=(E (138,([b,a,c],E 17)),dF 1 4 (dB f115) [],[(0,b),(1,a),(14,b),(15,a),(16,c)],m,[]):=I
def aGc(m:dE):letI a:V:= .p (E (3,0));letI b:V:= .p (E (0,0));(match eC (ep mK [] LQ) f115.ntmps 200 [0,24] (dF 1 4 (dB f115) []) ⟨[(17,.t [a,.i .i64 16,.r .nilIface]),(0,a),(1,.y 160 b)],m,[A],[]⟩with|(v,T,q,R)=>(qn (ep mK [] LQ) Bz v T,iF v,T,q,R))=(E (258,([b],E 25)),dF 4 2 (dB f115) [],[(0,a),(24,.y 160 b)],m,[G]):=I
def aDn(n:Addr)(a:dI)(d:es)(l:dE):letI b:=aGi n;letI c:dE:=a::⟨.lit [b],d⟩::l;(match eC (ep mK [] LQ) f115.ntmps 200 [0,28,29] (dF 4 2 (dB f115) []) ⟨[(25,.t [.i .u8 0,b]),(0,.p (E (3,0)))],c,[],[]⟩with|(v,T,q,R)=>(NH (ep mK [] LQ) v T,iF v,T,q,R))=(E (A,48,b,b,E 30),dF 5 3 (dB f115) [],[(0,.p (E (3,0))),(28,b),(29,b)],c,[G]):=I
def aDf(m:dE):(gi f115.results.toList (et (ep mK [] LQ) f115.ntmps N 200 (dF 5 3 (dB f115) []) ⟨[(30,.b A),(0,.p (E (3,0)))],m,[],[]⟩))=(G,E (.t [.p (E (3,0)),.b G]),m,[]):=I
noncomputable abbrev adj:List (Nat×jB):=[(116,inl mK [] LQ f116 [])]
def aOs(s:ByteArray)(z a b:dI):letI c:V:= .p (E (0,0));letI d:V:= .y 160 (.p (E (3,0)));letI e:V:= .i .i64 16;letI f:=ep mK adj LQ;(mW f (eC f f89.ntmps 200 [0,8,11,12] [.code (dB f89)] ⟨[(0,c),(1,.r (.string s)),(2,e)],[z,a,b],[],[]⟩))=(E (115,([c,d,e],E 13)),dF 1 6 (dB f89) [],[(0,c),(8,c),(11,d),(12,e)],[z,a,b,⟨.lit [.r (ip.string s),.i .i64 0,.i .i64 ((-1:Int))],188⟩],[G]):=I
def aEo(m:dE):letI a:V:= .t [.p (E (0,0)),.b G];(gi f89.results.toList (et (ep mK adj LQ) f89.ntmps N 200 (dF 1 6 (dB f89) []) ⟨[(13,a)],m,[],[]⟩))=(G,E a,m,[]):=I
section
def o9.cons(h:o9 s): ∃c r,DW s=c::r/\Ai c/\c=((s.data.toList.getD 0 0).toNat:Int):=by
  obtain⟨f,L,a⟩:=h;unfold DW at L⊢
  match P:s.data.toList with
  |[]=>rw[P]at f;cases f
  |b::l=>refine⟨_,_,K,L _ (by rw[P];exact jt ..),K⟩
def afh{tr:es}(h:o9 s):
    eM B US 159 [.y 160 (.p (E (0,0)))] [CM s 0 tr] (λr u=>r= .t [.b A,.r .nilIface]/\u=[CM s 0 tr]):=by
  obtain⟨c,r,_,L,a⟩:=h.cons;have f:=h.len;refine dL (ep US [] []) f159 ?_;refine lC oG lP 200 [] [0,2,3,4,6] _ (aKp _) K K K nQ (Ih (i:=0) (p:= -1) O O) K ?_;rintro q u⟨rfl,rfl⟩_;refine⟨_,K,?_⟩;refine Ev.fq [7,0,2,3,4] ?_;rw[<-a];refine lC oG lP 200 [A,A,A] [0,2,3,14] _ (aRy c _) ?_ K K OU (aes (i:=0) O) K ?_
  .unfold Ai at L;simp only[dX,fM,nY,kZ,ne_eq,fV,im];omega
  rintro q u⟨rfl,rfl⟩_;refine⟨_,K,?_⟩;refine Ev.fq [15,2,3] ?_;exact Ev.done lP (aNk _ _) K ⟨K,K⟩
def Pl:eo B 159:=ga f159
def Pk:eo B 160:=ga f160
def PA:eo B 138:=ga f138
def OS:eo B 115:=ga f115
def IS:eo B 89:=ga f89
def aie: ∀g i,mK g=E i-> ∃j,([0,1,2]:List Nat)[i]?=E j/\mK g=E j:=by
  intro g i h;unfold mK at h;cases M:Nat.beq g 1 with
  |true=>rw[M]at h;cases h;exact⟨1,K,by show mK g=_;unfold mK;rw[M];rfl⟩
  |false=>rw[M]at h;cases h
variable{s:ByteArray}{tr tg te tz:es}{ev:Addr}
def ais(h:o9 s):
    eM B mK 138 [.p (E (3,0)),.y 160 (.p (E (0,0))),.i .i64 16] [CM s 0 tr,qa ev tg,gY ev te,⟨.lit [.b A,.s N 0 0],tz⟩]
     (λr u=>r= .t [.p (E (3,0)),.i .i64 16,.r .nilIface]/\u=[CM s 64 tr,qa ev tg,gY ev te,⟨.int (ux s),tz⟩]):=by
  refine eV Y K ?_
  refine dL _ f138 (dY (eB pX) (aRl _) K K K Pl
    (Q1:=λr u=>r= .t [.b A,.r .nilIface]/\u=[CM s 0 tr,qa ev tg,gY ev te,⟨.lit [.b A,.s N 0 0],tz⟩]) ?_ K ?_)
  .refine((afh (tr:=tr) h).lift (gl:=mK) [0] ⟨K,K,dD⟩ J (λ_ _ h=>by cases h) K).mono ?_;rintro r u⟨C,e,⟨rfl,rfl⟩,_,rfl,rfl⟩;exact⟨K,K⟩
  rintro q u⟨rfl,rfl⟩_;refine⟨_,K,?_⟩;refine Ev.fq [13,0,1,2] ?_
  refine dY (eB pX) (aMd _ _ _ _) K K K Pk
    (Q1:=λr u=> ∃y,dG y/\4+y.length<=9223372036854775807/\r= .t [.s (E (4,0)) 4 (4+y.length),.i .i64 16,.i .i64 64,.r .nilIface]/\u=[CM s 64 tr,qa ev tg,gY ev te,⟨.lit [.b A,.s N 0 0],tz⟩,⟨.ws .u64 ((kH (DW s) [] 0 0).reverse++y),137⟩]) ?_ K ?_
  .refine((ahx (a:=tr) (R:=tg) (k:=te) (n:=ev) h).lift (gl:=mK) [0,1,2] ⟨K,K,K,K,K,K,dD⟩ J aie K).mono ?_;rintro r u⟨C,e,⟨y,M,S,rfl,rfl⟩,_,rfl,rfl⟩;exact⟨y,M,S,K,K⟩
  rintro q u⟨y,M,S,rfl,rfl⟩_;refine⟨_,K,?_⟩;refine Ev.fq [27,0,9,20] ?_;refine Ev.done (eB pX) (aBx _ _ _ _ _ _ _) K ⟨K,?_⟩
  have w:((kH (DW s) [] 0 0).reverse++y).length=4+y.length:=by
    have:(DW s).length=64:=by simp only[DW,pc];exact h.len
    rw[gw,KC,vD _ _ _ _ J,this];rfl
  exact .close' 3 4 Y J K K w (h.awi M S) (.take 4 Y Y K K)
def agl(h:o9 s):
    eM B mK 115 [.p (E (3,0)),.y 160 (.p (E (0,0))),.i .i64 16] [CM s 0 tr,qa ev tg,gY ev te,⟨.lit [.b A,.s N 0 0],tz⟩]
     (λr u=>r= .t [.p (E (3,0)),.b G]/\u=[CM s 64 tr,qa ev tg,gY ev te,⟨.int (ux s),tz⟩]):=by
  refine dL _ f115 (dY (eB pX) (aKx _) K K K PA (ais h) K ?_);rintro q u⟨rfl,rfl⟩_;refine⟨_,K,?_⟩;refine Ev.fq [17,0,1] ?_
  refine lC oG (eB pX) 200 [A] [0,24] _ (aGc _) K K K nQ
    (Lg (s:=s) (tr:=tr) (tg:=tg) (te:=te) (ev:=ev) (row:=[⟨.int (ux s),tz⟩]) (r:=[]) (j:=64) K ?_ (by rw[h.len];rfl) (by rw[h.len];decide)) K ?_
  .rw [sV (by rw[h.len];decide)];rfl
  rintro q u⟨rfl,rfl⟩_;refine⟨_,K,?_⟩;refine Ev.fq [25,0] ?_;refine Tg (eB pX) 200 [] [0,28,29] _ (aDn _ _ _ _) K K K eqE K K ?_;refine Ev.fq [30,0] ?_;refine Ev.done (eB pX) (aDf _) K ⟨K,?_⟩;show [CM s (Hh s.data.toList.length []) tr,qa ev tg,gY ev te]++[⟨.int (ux s),tz⟩]=_;rw[show Hh s.data.toList.length []=64 from h.len];rfl
def yH(h:o9 s):
    eM B mK 89 [.p (E (0,0)),.r (.string s),.i .i64 16] [⟨.lit [.b A,.s N 0 0],tz⟩,qa ev tg,gY ev te]
     (λr u=>r= .t [.p (E (0,0)),.b G]/\u=[⟨.int (ux s),tz⟩,qa ev tg,gY ev te]):=by
  have j:ji B (ep mK adj LQ):=gy ⟨⟨ga f116,mV (l:=[]) dD (jF mK) I I []⟩,dD⟩ (jF mK);refine eV Y K ?_
  refine dL _ f89 (dY (eB j) (aOs _ _ _ _) K K K OS
    (Q1:=λr u=>r= .t [.p (E (0,0)),.b G]/\u=[⟨.int (ux s),tz⟩,qa ev tg,gY ev te,CM s 64 188]) ?_ K ?_)
  .refine((agl (tr:=188) (tg:=tg) (te:=te) (ev:=ev) (tz:=tz) h).lift (gl:=mK) [3,1,2,0] ⟨K,K,K,K,K,K,K,K,dD⟩ J ?_ K).mono ?_
   .intro g i p;unfold mK at p;cases M:Nat.beq g 1 with
    |true=>rw[M]at p;cases p;exact⟨1,K,by show mK g=_;unfold mK;rw[M];rfl⟩
    |false=>rw[M]at p;cases p
   rintro r u⟨C,e,⟨rfl,rfl⟩,_,rfl,rfl⟩;exact⟨K,K⟩
  rintro q u⟨rfl,rfl⟩_;refine⟨_,K,?_⟩;refine Ev.fq [13] ?_;exact Ev.done (eB j) (aEo _) K ⟨K,.take 3 Y Y K K⟩
def rL{x:Nat}{f T:Nat->Option Nat}{L:List Nat}(h: ∃j,L[x]?=E j/\T a=E j)(t: ∀g i,f g=E i-> ∃j,L[i]?=E j/\T g=E j): ∀g i,(bif Nat.beq g a then E x else f g)=E i-> ∃j,L[i]?=E j/\T g=E j:=by
  intro g i p;cases H:Nat.beq g a with
  |true=>rw[H]at p;cases p;rw[iB H];exact h
  |false=>rw[H]at p;exact t g i p
def DO{T:Nat->Option Nat}{L:List Nat}: ∀g i,(N:Option Nat)=E i-> ∃j,L[i]?=E j/\T g=E j:=λ_ _ h=>by cases h
end
abbrev gz:Nat->Option Nat:=λ_=>N
def plT(c a b:Int):Int:=U.u64.wrap (c+U.u64.wrap (U.u64.wrap a+U.u64.wrap b))
def Yl(c:Int):List Int->List Int->Int
  |a::p,b::q=>Yl ((plT c a b).fdiv 4294967296) p q
  |_,_=>c
def plO(c:Int):List Int->List Int->List Int
  |a::p,b::q=>U.u32.wrap (plT c a b)::plO ((plT c a b).fdiv 4294967296) p q
  |_,_=>[]
def miT(c a b:Int):Int:=U.i64.wrap (c+U.i64.wrap (U.i64.wrap a-U.i64.wrap b))
def XF(c:Int):List Int->List Int->Int
  |a::p,b::q=>XF ((miT c a b).fdiv 4294967296) p q
  |_,_=>c
def miO(c:Int):List Int->List Int->List Int
  |a::p,b::q=>U.u32.wrap (miT c a b)::miO ((miT c a b).fdiv 4294967296) p q
  |_,_=>[]
abbrev au(l:List Int):List V:=l.map (V.i .u32)
def fg:List Int->Int
  |[]=>0
  |x::l=>x+4294967296*fg l
def ow(l:List Int):Prop:= ∀x∈l,0<=x/\x<4294967296
def fY(v:Nat):List Int:=[fL v 0,fL v 1,fL v 2,fL v 3,fL v 4,fL v 5,fL v 6,fL v 7]
def Du:Nat->Int
  |0=>1
  |n+1=>4294967296*Du n
def gO{x:Int}:ow (x::l)↔(0<=x/\x<4294967296)/\ow l:=by simp[ow]
def pJ(v:Nat):ow (fY v):=by intro x L;simp only[fY,kh,lO,lN]at L;rcases L with rfl|rfl|rfl|rfl|rfl|rfl|rfl|rfl<;>exact nO v _
def lV{v:Nat}(h:v<115792089237316195423570985008687907853269984665640564039457584007913129639936):fg (fY v)=(v:Int):=by have:=MD (p:=sh v 0) (j:=sh v 1) (m:=sh v 2) (g:=sh v 3) (k:=sh v 4) (P:=sh v 5) (R:=sh v 6) K K K K K K K (CY h);have e:((sh v 0:Nat):Int)=(v:Int):=K;rw[<-e,<-this];simp only[fg,fY,fL,rJ,lJ];rfl
def rO: ∀{l:List Int},ow l->0<=fg l/\fg l<Du l.length
  |[],_=>J
  |x::l,h=>by obtain⟨L,f⟩:=gO.1 h;have:=rO f;simp only[fg,eI,Du];omega
def UA{v:Nat}(r:l.length=8)(h:ow l)(Q:fg l=v):au l=dg v/\v<115792089237316195423570985008687907853269984665640564039457584007913129639936:=by
  match l,r with
  |[a,b,c,d,e,f,g,k],_=>
   simp only[gO]at h;obtain⟨t,H,s,z,j,u,p,R,_⟩:=h;obtain⟨o,rfl⟩:=fy t.1;obtain⟨x,rfl⟩:=fy H.1;obtain⟨n,rfl⟩:=fy s.1;obtain⟨m,rfl⟩:=fy z.1;obtain⟨y,rfl⟩:=fy j.1;obtain⟨q,rfl⟩:=fy u.1;obtain⟨L,rfl⟩:=fy p.1;obtain⟨i,rfl⟩:=fy R.1;obtain⟨M,S⟩:=amv (a:=o) (b:=x) (c:=n) (d:=m) (e:=y) (f:=q) (g:=L) (h:=i) O O O O O O O O
   have:Ty o x n m y q L i=v:=by simp only[fg]at Q;unfold Ty;omega
   rw[<-this];exact⟨M,S⟩
def Np: ∀(x y:List Int)(c:Int),x.length=y.length->ow x->ow y->0<=c->c<=1->
    (plO c x y).length=x.length/\ow (plO c x y)/\0<=Yl c x y/\Yl c x y<=1/\fg (plO c x y)+Du x.length*Yl c x y=fg x+fg y+c
  |[],[],c,_,_,_,C,M=>⟨K,(λ_ h=>by cases h),C,M,by simp[plO,Yl,fg,Du]⟩
  |a::p,b::q,c,f,L,Q,C,M=>by
   obtain⟨t,g⟩:=gO.1 L;obtain⟨H,z⟩:=gO.1 Q;have u:plT c a b=c+a+b:=by unfold plT;rw[mP (O:0<=a/\a<=18446744073709551615),mP (O:0<=b/\b<=18446744073709551615),mP (O:0<=a+b/\a+b<=18446744073709551615),mP O];omega
   have i:(c+a+b).fdiv 4294967296=(c+a+b)/4294967296:=kB _ J;have v:=Np p q ((c+a+b)/4294967296) (by simpa using f) g z O O;obtain⟨F,w,R,j,s⟩:=v;simp only[plO,Yl,u,i];rw[wa];refine⟨by simp[F],gO.2 ⟨O,w⟩,R,j,?_⟩;simp only[fg,eI,Du,fO];generalize Du p.length*Yl ((c+a+b)/4294967296) p q=k at*;omega
def Mo: ∀(x y:List Int)(c:Int),x.length=y.length->ow x->ow y-> -1<=c->c<=0->
    (miO c x y).length=x.length/\ow (miO c x y)/\ -1<=XF c x y/\XF c x y<=0/\fg (miO c x y)+Du x.length*XF c x y=fg x-fg y+c
  |[],[],c,_,_,_,C,M=>⟨K,(λ_ h=>by cases h),C,M,by simp[miO,XF,fg,Du]⟩
  |a::p,b::q,c,f,L,Q,C,M=>by
   obtain⟨t,g⟩:=gO.1 L;obtain⟨H,z⟩:=gO.1 Q;have u:miT c a b=c+a-b:=by unfold miT;rw[iy (O: -9223372036854775808<=a/\a<=9223372036854775807),iy (O: -9223372036854775808<=b/\b<=9223372036854775807),iy (O: -9223372036854775808<=a-b/\a-b<=9223372036854775807),iy O];omega
   have i:(c+a-b).fdiv 4294967296=(c+a-b)/4294967296:=kB _ J;have v:=Mo p q ((c+a-b)/4294967296) (by simpa using f) g z O O;obtain⟨F,w,R,j,s⟩:=v;simp only[miO,XF,u,i];rw[wa];refine⟨by simp[F],gO.2 ⟨O,w⟩,R,j,?_⟩;simp only[fg,eI,Du,fO];generalize Du p.length*XF ((c+a-b)/4294967296) p q=k at*;omega
abbrev gM:Nat:=115792089237316195423570985008687907853269984665640564039457584007913129639936
def aqi:eM B gz 30 [] [] (λr m=>r= .g (dg pN)/\m=[]):=
  vm (C:=ep gz [] []) lP f30 (i:=N) (j:=200) (z:=[]) (o:=G) I K I
def axm{a b:Nat}:letI c:Nat:=115792089237316195423570985008687907853269984665640564039457584007913129639936;∀(t:a<c)(H:b<c),eM B gz 28 [.g (dg a),.g (dg b)] [] (λr m=>r= .t [.g (dg ((a+b)%gM)),.i .u32 (((a+b)/gM:Nat):Int)]/\m=[]):=by
  intro t H;obtain⟨M,S,l,u,y⟩:=Np (fY a) (fY b) 0 K (pJ a) (pJ b) J J;have j:=rO S;rw[M]at j;rw[lV t,lV H]at y;have w:Du (fY a).length=115792089237316195423570985008687907853269984665640564039457584007913129639936:=by rfl
  rw[w]at y j;have T:Yl 0 (fY a) (fY b)=(((a+b)/gM:Nat):Int):=by unfold gM;omega
  have f:fg (plO 0 (fY a) (fY b))=(((a+b)%gM:Nat):Int):=by unfold gM at T⊢;omega
  have Q:=(UA (by rw[M];rfl) S f).1;have F:U.u32.wrap (Yl 0 (fY a) (fY b))=(((a+b)/gM:Nat):Int):=by rw[wa,<-T];omega
  rw[<-Q,<-F];exact vm (C:=ep gz [] []) lP f28 (i:=(E [2,3,4,5,6,7,8])) (j:=3000) (z:=[]) (o:=G) I K I
def avc{a b:Nat}:letI c:Nat:=115792089237316195423570985008687907853269984665640564039457584007913129639936;∀(t:a<c)(H:b<c),eM B gz 29 [.g (dg a),.g (dg b)] [] (λr m=>r= .t [.g (dg ((a+(gM-b))%gM)),.i .u32 (if a<b then 1 else 0)]/\m=[]):=by
  intro t H;obtain⟨M,S,l,u,y⟩:=Mo (fY a) (fY b) 0 K (pJ a) (pJ b) J J;have j:=rO S;rw[M]at j;rw[lV t,lV H]at y;have w:Du (fY a).length=115792089237316195423570985008687907853269984665640564039457584007913129639936:=by rfl
  rw[w]at y j;have T:XF 0 (fY a) (fY b)=if a<b then-1 else 0:=by split<;>omega
  have f:fg (miO 0 (fY a) (fY b))=(((a+(gM-b))%gM:Nat):Int):=by unfold gM;split at T<;>omega
  have Q:=(UA (by rw[M];rfl) S f).1;have F:U.u32.wrap (U.i64.wrap (0-XF 0 (fY a) (fY b)))=if a<b then 1 else 0:=by rw[T];split<;>rfl
  rw[<-Q,<-F];exact vm (C:=ep gz [] []) lP f29 (i:=(E [2,3,4,5,6,7,8])) (j:=3000) (z:=[]) (o:=G) I K I
def F30:QF:=λargs m=>match args with
  |[]=>E (.g (dg pN),ek m.length m)
  |_=>N
noncomputable def F28:QF:=λargs m=>match args with
  |[.g a,.g b]=>E (.t [.g (dg ((num a+num b)%gM)),.i .u32 (((num a+num b)/gM:Nat):Int)],ed (iw a) (ed (iw b) (ek m.length m)))
  |_=>N
noncomputable def F29:QF:=λargs m=>match args with
  |[.g a,.g b]=>E (.t [.g (dg ((num a+(gM-num b))%gM)),.i .u32 (if num a<num b then 1 else 0)],ed (iw a) (ed (iw b) (ek m.length m)))
  |_=>N
def agu(R:Nat->Option Nat):oR B R 30 F30:=by
  refine gD λargs m r h=>?_
  unfold F30 at h;split at h
  .simp only[eJ,ef]at h;obtain⟨rfl,d⟩:=h;exact gZ aqi d K K
  .cases h
def ado(R:Nat->Option Nat):oR B R 28 F28:=by
  refine gD λargs m r h=>?_
  unfold F28 at h;split at h
  .simp only[eJ,ef]at h;obtain⟨rfl,d⟩:=h;obtain⟨M,i⟩:=dN d;obtain⟨S,l⟩:=dN i;obtain⟨a,rfl,t,ea⟩:=mI M;obtain⟨b,rfl,H,x⟩:=mI S;rw[ea,x];exact gZ (axm t H) l K K
  .cases h
def acw(R:Nat->Option Nat):oR B R 29 F29:=by
  refine gD λargs m r h=>?_
  unfold F29 at h;split at h
  .simp only[eJ,ef]at h;obtain⟨rfl,d⟩:=h;obtain⟨M,i⟩:=dN d;obtain⟨S,l⟩:=dN i;obtain⟨a,rfl,t,ea⟩:=mI M;obtain⟨b,rfl,H,x⟩:=mI S;rw[ea,x];exact gZ (avc t H) l K K
  .cases h
abbrev mf(a b:Nat)(w u:List Bool)(S:Bool):Prop:=(Rb (ep gz [] []) f10.results.toList (et (ep gz [] []) f10.ntmps (E [2,3,4,5]) 3000 [.code (dB f10)] ⟨fo 0 [.g (dg a),.g (dg b)],[],w,[]⟩))=(G,E (.b S,G),u)
def aBg(a b:Nat):mf a b [G,G] [G,G,G,G,(fL a 7 !=fL b 7)==G,G,G,G,G,G] (D (fL a 7<fL b 7)):=dR
def aKb(a b:Nat):mf a b [G,A,G,G] [G,G,G,G,(fL a 6 !=fL b 6)==G,G,G,G,G,G,(fL a 7 !=fL b 7)==A,G,G,G,G,G] (D (fL a 6<fL b 6)):=dR
def aOv(a b:Nat):mf a b [G,A,G,A,G,G] [G,G,G,G,(fL a 5 !=fL b 5)==G,G,G,G,G,G,(fL a 6 !=fL b 6)==A,G,G,G,G,G,(fL a 7 !=fL b 7)==A,G,G,G,G,G] (D (fL a 5<fL b 5)):=dR
def aFk(a b:Nat):mf a b [G,A,G,A,G,A,G,G] [G,G,G,G,(fL a 4 !=fL b 4)==G,G,G,G,G,G,(fL a 5 !=fL b 5)==A,G,G,G,G,G,(fL a 6 !=fL b 6)==A,G,G,G,G,G,(fL a 7 !=fL b 7)==A,G,G,G,G,G] (D (fL a 4<fL b 4)):=dR
def aEf(a b:Nat):mf a b ((λS=>S) [G,A,G,A,G,A,G,A,G,G]) ((λS=>S) [G,G,G,G,(fL a 3 !=fL b 3)==G,G,G,G,G,G,(fL a 4 !=fL b 4)==A,G,G,G,G,G,(fL a 5 !=fL b 5)==A,G,G,G,G,G,(fL a 6 !=fL b 6)==A,G,G,G,G,G,(fL a 7 !=fL b 7)==A,G,G,G,G,G]) (D (fL a 3<fL b 3)):=dR
def aEa(a b:Nat):mf a b ((λS=>G::A::S) [G,A,G,A,G,A,G,A,G,G]) ((λS=>G::G::G::G::((fL a 2 !=fL b 2)==G)::G::S) [G,G,G,G,(fL a 3 !=fL b 3)==A,G,G,G,G,G,(fL a 4 !=fL b 4)==A,G,G,G,G,G,(fL a 5 !=fL b 5)==A,G,G,G,G,G,(fL a 6 !=fL b 6)==A,G,G,G,G,G,(fL a 7 !=fL b 7)==A,G,G,G,G,G]) (D (fL a 2<fL b 2)):=dR
def aMc(a b:Nat):mf a b [G,A,G,A,G,A,G,A,G,A,G,A,G,G] [G,G,G,G,(fL a 1 !=fL b 1)==G,G,G,G,G,G,(fL a 2 !=fL b 2)==A,G,G,G,G,G,(fL a 3 !=fL b 3)==A,G,G,G,G,G,(fL a 4 !=fL b 4)==A,G,G,G,G,G,(fL a 5 !=fL b 5)==A,G,G,G,G,G,(fL a 6 !=fL b 6)==A,G,G,G,G,G,(fL a 7 !=fL b 7)==A,G,G,G,G,G] (D (fL a 1<fL b 1)):=dR
def aKe(a b:Nat):mf a b [G,A,G,A,G,A,G,A,G,A,G,A,G,A,G,G] ((λS=>G::G::G::S) [G,(fL a 0 !=fL b 0)==G,G,G,G,G,G,(fL a 1 !=fL b 1)==A,G,G,G,G,G,(fL a 2 !=fL b 2)==A,G,G,G,G,G,(fL a 3 !=fL b 3)==A,G,G,G,G,G,(fL a 4 !=fL b 4)==A,G,G,G,G,G,(fL a 5 !=fL b 5)==A,G,G,G,G,G,(fL a 6 !=fL b 6)==A,G,G,G,G,G,(fL a 7 !=fL b 7)==A,G,G,G,G,G]) (D (fL a 0<fL b 0)):=dR
def aKj(a b:Nat):mf a b [G,A,G,A,G,A,G,A,G,A,G,A,G,A,G,A,A] ((λS=>S) [G,(fL a 0 !=fL b 0)==A,G,G,G,G,G,(fL a 1 !=fL b 1)==A,G,G,G,G,G,(fL a 2 !=fL b 2)==A,G,G,G,G,G,(fL a 3 !=fL b 3)==A,G,G,G,G,G,(fL a 4 !=fL b 4)==A,G,G,G,G,G,(fL a 5 !=fL b 5)==A,G,G,G,G,G,(fL a 6 !=fL b 6)==A,G,G,G,G,G,(fL a 7 !=fL b 7)==A,G,G,G,G,G]) A:=dR
def vU(a i:Nat):(sh a i:Int)=fL a i+4294967296*(sh a (i+1):Int):=by have:sh a (i+1)=sh a i/4294967296:=K;unfold fL;omega
def VB{i:Nat}(h:sh a (i+1)≠sh b (i+1)):sh a i≠sh b i/\(sh a i<sh b i↔sh a (i+1)<sh b (i+1)):=by have M:=vU a i;have S:=vU b i;have m:=nO a i;have k:=nO b i;omega
def ug{i:Nat}(h:sh a (i+1)=sh b (i+1))(z:fL a i=fL b i):sh a i=sh b i:=by have M:=vU a i;have S:=vU b i;rw[h]at M;omega
def uU{i:Nat}(h:sh a (i+1)=sh b (i+1))(z:fL a i≠fL b i):sh a i≠sh b i/\(sh a i<sh b i↔fL a i<fL b i):=by have M:=vU a i;have S:=vU b i;have m:=nO a i;have k:=nO b i;rw[h]at M;omega
def nj: ∀(i:Nat),sh a i≠sh b i->(a<b↔sh a i<sh b i)
  |0,_=>xN
  |i+1,h=>by obtain⟨M,S⟩:=VB h;rw[nj i M,S]
def sh8(h:a<115792089237316195423570985008687907853269984665640564039457584007913129639936):sh a 8=0:=by have:=CY h;show sh a 7/4294967296=0;omega
def akl{a b:Nat}:letI c:Nat:=115792089237316195423570985008687907853269984665640564039457584007913129639936;∀(t:a<c)(H:b<c),eM B gz 10 [.g (dg a),.g (dg b)] [] (λr m=>r= .b (D (a<b))/\m=[]):=by
  intro t H;have h:sh a 8=sh b 8:=by rw[sh8 t,sh8 H]
  by_cases x:fL a 7=fL b 7
  case neg=>
    obtain⟨M,S⟩:=uU h x
    have:D (a<b)=D (fL a 7<fL b 7):=by rw[rH,nj 7 M,S]
    rw[this];refine iX (C:=ep gz [] []) lP f10 (i:=(E [2,3,4,5])) (j:=3000) (z:=[G,G]) (o:=G) (aBg a b) ?_ K K;simp[dX,fM,bT,kY,x]
  have y:=ug h x;by_cases i:fL a 6=fL b 6
  case neg=>
    obtain⟨M,S⟩:=uU y i
    have:D (a<b)=D (fL a 6<fL b 6):=by rw[rH,nj 6 M,S]
    rw[this];refine iX (C:=ep gz [] []) lP f10 (i:=(E [2,3,4,5])) (j:=3000) (z:=[G,A,G,G]) (o:=G) (aKb a b) ?_ K K;simp[dX,fM,bT,kY,x,i]
  have w:=ug y i;by_cases q:fL a 5=fL b 5
  case neg=>
    obtain⟨M,S⟩:=uU w q
    have:D (a<b)=D (fL a 5<fL b 5):=by rw[rH,nj 5 M,S]
    rw[this];refine iX (C:=ep gz [] []) lP f10 (i:=(E [2,3,4,5])) (j:=3000) (z:=[G,A,G,A,G,G]) (o:=G) (aOv a b) ?_ K K;simp[dX,fM,bT,kY,x,i,q]
  have s:=ug w q;by_cases j:fL a 4=fL b 4
  case neg=>
    obtain⟨M,S⟩:=uU s j
    have:D (a<b)=D (fL a 4<fL b 4):=by rw[rH,nj 4 M,S]
    rw[this];refine iX (C:=ep gz [] []) lP f10 (i:=(E [2,3,4,5])) (j:=3000) (z:=[G,A,G,A,G,A,G,G]) (o:=G) (aFk a b) ?_ K K;simp[dX,fM,bT,kY,x,i,q,j]
  have l:=ug s j;by_cases n:fL a 3=fL b 3
  case neg=>
    obtain⟨M,S⟩:=uU l n
    have:D (a<b)=D (fL a 3<fL b 3):=by rw[rH,nj 3 M,S]
    rw[this];refine iX (C:=ep gz [] []) lP f10 (i:=(E [2,3,4,5])) (j:=3000) (z:=[G,A,G,A,G,A,G,A,G,G]) (o:=G) (aEf a b) ?_ K K;simp[dX,fM,bT,kY,x,i,q,j,n]
  have T:=ug l n;by_cases k:fL a 2=fL b 2
  case neg=>
    obtain⟨M,S⟩:=uU T k
    have:D (a<b)=D (fL a 2<fL b 2):=by rw[rH,nj 2 M,S]
    rw[this];refine iX (C:=ep gz [] []) lP f10 (i:=(E [2,3,4,5])) (j:=3000) (z:=[G,A,G,A,G,A,G,A,G,A,G,G]) (o:=G) (aEa a b) ?_ K K;simp[dX,fM,bT,kY,x,i,q,j,n,k]
  have f:=ug T k;by_cases d:fL a 1=fL b 1
  case neg=>
    obtain⟨M,S⟩:=uU f d
    have:D (a<b)=D (fL a 1<fL b 1):=by rw[rH,nj 1 M,S]
    rw[this];refine iX (C:=ep gz [] []) lP f10 (i:=(E [2,3,4,5])) (j:=3000) (z:=[G,A,G,A,G,A,G,A,G,A,G,A,G,G]) (o:=G) (aMc a b) ?_ K K;simp[dX,fM,bT,kY,x,i,q,j,n,k,d]
  have g:=ug f d;by_cases e:fL a 0=fL b 0
  case neg=>
    obtain⟨M,S⟩:=uU g e
    have:D (a<b)=D (fL a 0<fL b 0):=by rw[rH,nj 0 M,S]
    rw[this];refine iX (C:=ep gz [] []) lP f10 (i:=(E [2,3,4,5])) (j:=3000) (z:=[G,A,G,A,G,A,G,A,G,A,G,A,G,A,G,G]) (o:=G) (aKe a b) ?_ K K;simp[dX,fM,bT,kY,x,i,q,j,n,k,d,e]
  have Q:=ug g e;obtain rfl:a=b:=Q;rw[(Y:D (a<a)=A)];refine iX (C:=ep gz [] []) lP f10 (i:=(E [2,3,4,5])) (j:=3000) (z:=[G,A,G,A,G,A,G,A,G,A,G,A,G,A,G,A,A]) (o:=G) (aKj a a) ?_ K K;simp[eb]
def Pd(h:a<115792089237316195423570985008687907853269984665640564039457584007913129639936):fY a=fY 0↔a=0:=by
  constructor
  .intro j;have M:=lV h;rw[j,lV J]at M;omega
  .rintro rfl;rfl
def aHy(t:a<115792089237316195423570985008687907853269984665640564039457584007913129639936):eM B gz 9 [.g (dg a)] [] (λr m=>r= .b (D (a=0))/\m=[]):=by
  have e:D (a=0)=(fY a==fY 0):=by rw[show(fY a==fY 0)=D (fY a=fY 0)by rw[Bool.eq_iff_iff];simp,rH.2 (Pd t)]
  rw[e];exact vm (C:=ep gz [] []) lP f9 (i:=N) (j:=200) (z:=[]) (o:=G) I K K
noncomputable def F10:QF:=λargs m=>match args with
  |[.g a,.g b]=>E (.b (D (num a<num b)),ed (iw a) (ed (iw b) (ek m.length m)))
  |_=>N
noncomputable def F9:QF:=λargs m=>match args with
  |[.g a]=>E (.b (D (num a=0)),ed (iw a) (ek m.length m))
  |_=>N
def aft(R:Nat->Option Nat):oR B R 10 F10:=by
  refine gD λargs m r h=>?_
  unfold F10 at h;split at h
  .simp only[eJ,ef]at h;obtain⟨rfl,d⟩:=h;obtain⟨M,i⟩:=dN d;obtain⟨S,l⟩:=dN i;obtain⟨a,rfl,t,ea⟩:=mI M;obtain⟨b,rfl,H,x⟩:=mI S;rw[ea,x];exact gZ (akl t H) l K K
  .cases h
def arq(R:Nat->Option Nat):oR B R 9 F9:=by
  refine gD λargs m r h=>?_
  unfold F9 at h;split at h
  .simp only[eJ,ef]at h;obtain⟨rfl,d⟩:=h;obtain⟨M,i⟩:=dN d;obtain⟨a,rfl,t,ea⟩:=mI M;rw[ea];exact gZ (aHy t) i K K
  .cases h
noncomputable abbrev LN:List (Nat×QF):=[(30,F30),(28,F28),(29,F29),(10,F10),(9,F9)]
noncomputable def wY(a b p:List V):Bool:= @decide (∃x y,a=dg x/\b=dg y/\p=dg pN/\x<pN/\y<pN) (Classical.propDecidable _)
def MQ{a b p:List V}(h:wY a b p=G): ∃x y,a=dg x/\b=dg y/\p=dg pN/\x<pN/\y<pN:=by unfold wY at h;exact@fU _ (Classical.propDecidable _) h
def qp{x y:Nat}(L:x<pN)(Q:y<pN):wY (dg x) (dg y) (dg pN)=G:=by unfold wY;exact@fG _ (Classical.propDecidable _) ⟨x,y,K,K,K,L,Q⟩
def Qh:eo B 30:=ga f30
def Rn:eo B 28:=ga f28
def Ts:eo B 29:=ga f29
def QK:eo B 10:=ga f10
def WQ:eo B 9:=ga f9
def wb(R:Nat->Option Nat):gf R LN:=⟨⟨Qh,agu R⟩,⟨Rn,ado R⟩,⟨Ts,acw R⟩,⟨QK,aft R⟩,⟨WQ,arq R⟩,dD⟩
abbrev zt(a b p:Nat)(w:List ResultVar)(S u4 i:Nat)(u:Func)(u3:List Bool)(o v F:Bool):Prop:=letI c:Prop:=0+8<=8;(Rb (ep gz [] LN) w (et (ep gz [] LN) S N 200 [.code (dB u)] ⟨fo 0 [.g (dg a),.g (dg b),.g (dg p)],[],u3,[]⟩))=(G,E (.g (dg ((u4)%gM)),D c),[D (8=8/\c),D c,o,ed (iw (dg ((i)%gM))) (iw (dg p)),G,D c,v==F,D (8=8/\c),ed (iw (dg a)) (iw (dg b)),G,G])
def aHk(a b p:Nat):letI c:=num (dg a)+num (dg b);zt a b p f11.results.toList f11.ntmps (num (dg ((c)%gM))+(gM-num (dg p))) c f11 [G] (D (8=8/\0+8<=8)) ((↑(c/gM):Int)==1) G:=dR
abbrev zG(p:Nat)(w:List ResultVar)(S o v:Nat)(u:Option (List Nat))(u3:Func)(u4:(List V->List V))(i t:List Bool)(F:Bool):Prop:=(Rb (ep gz [] LN) w (et (ep gz [] LN) S u 200 [.code (dB u3)] ⟨fo 0 (u4 [.g (dg o),.g (dg p)]),[],i,[]⟩))=(G,E (.g (dg v),F),t)
def aNp(a b p:Nat):letI f:=num (dg a)+num (dg b);letI c:=dg ((f)%gM);letI d:Prop:=0+8<=8;letI e:=ed (iw c) (iw (dg p));zG p f11.results.toList f11.ntmps b ((num c+(gM-num (dg p)))%gM) N f11 (λS=> .g (dg a)::S) [A,G] ((λS=>D (8=8/\d)::D (d)::D (8=8/\d)::e::G::D (d)::((!D (num c<num (dg p)))==G)::e::G::S) [D d,((↑(f/gM):Int)==1)==A,D (8=8/\d),ed (iw (dg a)) (iw (dg b)),G,G]) (D d):=dR
def aLb(a b p:Nat):letI c:=num (dg a)+num (dg b);zt a b p f11.results.toList f11.ntmps c c f11 [A,A] ((!D (num (dg ((c)%gM))<num (dg p)))==A) ((↑(c/gM):Int)==1) A:=dR
def aDv(a b p:Nat):zt a b p f59.results.toList f59.ntmps (num (dg ((num (dg a)+(gM-num (dg b)))%gM))+num (dg p)) (num (dg a)+(gM-num (dg b))) f59 [G] (D (8=8/\0+8<=8)) ((if num (dg a)<num (dg b)then(1:Int)else(0:Int))==(1:Int)) G:=dR
def aIa(a b p:Nat):zG p f59.results.toList f59.ntmps b ((num (dg a)+(gM-num (dg b)))%gM) N f59 (λS=> .g (dg a)::S) [A] ((λS=>D (8=8/\0+8<=8)::S) [D (0+8<=8),((if num (dg a)<num (dg b)then(1:Int)else(0:Int))==(1:Int))==A,D (8=8/\0+8<=8),ed (iw (dg a)) (iw (dg b)),G,G]) (D (0+8<=8)):=dR
def aFf(a p:Nat):zG p f38.results.toList f38.ntmps a a (E [2,3,4]) f38 (λS=>S) [A] [G,G,(!D (num (dg a)<num (dg p)))==A,ed (iw (dg a)) (iw (dg p)),G,G] G:=dR
def gG:pN<115792089237316195423570985008687907853269984665640564039457584007913129639936:=J
def mod_lt(x:Nat):x%gM<115792089237316195423570985008687907853269984665640564039457584007913129639936:=iD _ J
def qZ(a b:Nat):lQ a b<pN:=iD _ J
def rk(a b:Nat):lF a b<pN:=iD _ J
def kQ(a b:Nat):fc a b<pN:=iD _ J
def aqd(t:a<pN)(H:b<pN):eM B gz 11 [.g (dg a),.g (dg b),.g (dg pN)] [] (λr m=>r= .g (dg (lQ a b))/\m=[]):=by
  have s:a<115792089237316195423570985008687907853269984665640564039457584007913129639936:=fI t gG;have z:b<115792089237316195423570985008687907853269984665640564039457584007913129639936:=fI H gG;have l:=fK s;have i:=fK z;have q:=fK gG;have d:=fK (mod_lt (a+b));have F:=fT s;have w:=fT z;have R:=fT gG;have j:=fT (mod_lt (a+b));unfold pN at t H;by_cases M:(a+b)/gM=1
  .have e:lQ a b=(num (dg ((num (dg a)+num (dg b))%gM))+(gM-num (dg pN)))%gM:=by rw[l,i,q,d];unfold lQ pN gM at*;omega
   rw[e];refine iX (C:=ep gz [] LN) (gK dD (wb gz)) f11 (i:=N) (j:=200) (z:=[G]) (aHk a b pN) ?_ J K;simp+decide only[l,i,q,d,F,w,R,j,M,dX,fM,iO,xn]
  .by_cases S:(a+b)%gM<pN
   .have e:lQ a b=(num (dg a)+num (dg b))%gM:=by rw[l,i];unfold lQ pN gM at*;omega
    have c: ¬(((a+b)/gM:Nat):Int)=1:=O;rw[e];refine iX (C:=ep gz [] LN) (gK dD (wb gz)) f11 (i:=N) (j:=200) (z:=[A,A]) (aLb a b pN) ?_ J K;simp[l,i,q,d,F,w,R,j,c,S,dX,fM,iO,bT,bF]<;>(unfold gM at M;omega)
   .have e:lQ a b=(num (dg ((num (dg a)+num (dg b))%gM))+(gM-num (dg pN)))%gM:=by rw[l,i,q,d];unfold lQ pN gM at*;omega
    have c: ¬(((a+b)/gM:Nat):Int)=1:=O;rw[e];refine iX (C:=ep gz [] LN) (gK dD (wb gz)) f11 (i:=N) (j:=200) (z:=[A,G]) (aNp a b pN) ?_ J K;simp[l,i,q,d,F,w,R,j,c,S,dX,fM,iO,bT,bF]<;>(unfold gM at M;omega)
def azu(t:a<pN)(H:b<pN):eM B gz 59 [.g (dg a),.g (dg b),.g (dg pN)] [] (λr m=>r= .g (dg (lF a b))/\m=[]):=by
  have s:a<115792089237316195423570985008687907853269984665640564039457584007913129639936:=fI t gG;have z:b<115792089237316195423570985008687907853269984665640564039457584007913129639936:=fI H gG;have l:=fK s;have i:=fK z;have q:=fK gG;have d:=fK (mod_lt (a+(gM-b)));have F:=fT s;have w:=fT z;have R:=fT gG;have j:=fT (mod_lt (a+(gM-b)));unfold pN at t H;by_cases M:a<b
  .have e:lF a b=(num (dg ((num (dg a)+(gM-num (dg b)))%gM))+num (dg pN))%gM:=by rw[l,i,q,d];unfold lF pN gM at*;omega
   rw[e];refine iX (C:=ep gz [] LN) (gK dD (wb gz)) f59 (i:=N) (j:=200) (z:=[G]) (aDv a b pN) ?_ J K;simp[l,i,q,d,F,w,R,j,M,dX,fM,iO,bT,bF]
  .have e:lF a b=(num (dg a)+(gM-num (dg b)))%gM:=by rw[l,i];unfold lF pN gM at*;omega
   rw[e];refine iX (C:=ep gz [] LN) (gK dD (wb gz)) f59 (i:=N) (j:=200) (z:=[A]) (aIa a b pN) ?_ J K;simp[l,i,q,d,F,w,R,j,M,dX,fM,iO,bT,bF]
def aum{p:Nat}(t:a<p)(g:p<115792089237316195423570985008687907853269984665640564039457584007913129639936):eM B gz 38 [.g (dg a),.g (dg p)] [] (λr m=>r= .g (dg a)/\m=[]):=by have s:a<115792089237316195423570985008687907853269984665640564039457584007913129639936:=fI t g;have l:=fK s;have i:=fK g;have F:=fT s;have w:=fT g;refine iX (C:=ep gz [] LN) (gK dD (wb gz)) f38 (i:=(E [2,3,4])) (j:=200) (z:=[A]) (aFf a p) ?_ J K;simp[l,i,F,w,t,dX,fM,iO,bT,bF]
noncomputable def F11:QF:=λargs m=>match args with
  |[.g a,.g b,.g p]=>E (.g (dg (lQ (num a) (num b))),ed (wY a b p) (ek m.length m))
  |_=>N
noncomputable def F59:QF:=λargs m=>match args with
  |[.g a,.g b,.g p]=>E (.g (dg (lF (num a) (num b))),ed (wY a b p) (ek m.length m))
  |_=>N
def abx(R:Nat->Option Nat):oR B R 11 F11:=by
  refine gD λargs m r h=>?_
  unfold F11 at h;split at h
  .simp only[eJ,ef]at h;obtain⟨rfl,d⟩:=h;obtain⟨M,i⟩:=dN d;obtain⟨a,b,rfl,rfl,rfl,t,H⟩:=MQ M;rw[fK (fI t gG),fK (fI H gG)];exact gZ (aqd t H) i K K
  .cases h
def agn(R:Nat->Option Nat):oR B R 59 F59:=by
  refine gD λargs m r h=>?_
  unfold F59 at h;split at h
  .simp only[eJ,ef]at h;obtain⟨rfl,d⟩:=h;obtain⟨M,i⟩:=dN d;obtain⟨a,b,rfl,rfl,rfl,t,H⟩:=MQ M;rw[fK (fI t gG),fK (fI H gG)];exact gZ (azu t H) i K K
  .cases h
noncomputable abbrev UQ:List Item:=gQ (dB f86) 0 []
noncomputable abbrev TS3:List Item:=gQ (dB f86) 3 []
abbrev ai(l:List Int):List V:=l.map (V.i .i64)
def seT(c d:Int):Int:=U.i64.wrap (c+d)
def xv(c:Int):List Int->Int
  |d::l=>xv ((seT c d).fdiv 4294967296) l
  |[]=>c
def Jx(c:Int):List Int->List Int
  |d::l=>eA .and .i64 (seT c d) 4294967295::Jx ((seT c d).fdiv 4294967296) l
  |[]=>[]
def XU(c:Int):List Int->List Int
  |[q,F,y,H,M,p,v,n]=>[U.i64.wrap (q+c),F,U.i64.wrap (y-c),U.i64.wrap (H+c),M,p,v,U.i64.wrap (n+c)]
  |l=>l
def ahh(l:List Int):List Int:=l.map U.u32.wrap
def aPz(t m k n j q i x:Int)(ty:es):letI a:dI:=⟨.lit (ai [t,m,k,n,j,q,i,x]),ty⟩;(si [0,2] (o5 (ep gz [] LN) f86.ntmps (E [0,2]) 0 200 [.code (dB f86)] ⟨[(0,.p (E (0,0)))],[a],[],[]⟩))=(UQ,[(0,.p (E (0,0))),(2,.p (E (1,0)))],[a,⟨.lit ql.zero,28⟩],G):=I
def aJy(t m k n j q i c:Int)(ty:es)(x:dI):letI a:=[t,m,k,n,j,q,i,c];letI b:eZ:=[(0,.p (E (0,0))),(2,.p (E (1,0)))];(si [0,2] (o5 (ep gz [] LN) f86.ntmps (E [0,2,3,4,8]) 0 3000 UQ ⟨b,[⟨.lit (ai a),ty⟩,x],[G,G,G,G,G,G,G,G,A,A],[]⟩))=(UQ,b,[⟨.lit (ai (XU (xv 0 a) (Jx 0 a))),ty⟩,x],eb [(xv 0 a==0)==A]):=I
def aFy(t m k n j q i x:Int)(ty:es):letI a:=[t,m,k,n,j,q,i,x];letI b:dI:=⟨.lit ql.zero,28⟩;(si [0,2,5,7] (o5 (ep gz [] LN) f86.ntmps (E [0,2,3,4,5,6,8,61]) 6 3000 UQ ⟨[(0,.p (E (0,0))),(2,.p (E (1,0)))],[⟨.lit (ai a),ty⟩,b],[G,G,G,G,G,G,G,G,A,G],[]⟩))=(TS3,[(0,.p (E (0,0))),(2,.p (E (1,0))),(5,.p (E (2,0))),(7,.p (E (3,0)))],[⟨.lit (ai (Jx 0 a)),ty⟩,b,⟨.lit (au (ahh (Jx 0 a))),28⟩,⟨.lit (dg pN),28⟩],eb [(xv 0 a==0)==G]):=I
abbrev ES(v p:Nat)(x:dI)(w u3:(List Bool->List Bool))(S:Nat)(u u4:Bool):Prop:=letI c:=dg p;letI a:dE:=[x,⟨.lit ql.zero,28⟩,⟨.lit (dg v),28⟩,⟨.lit c,28⟩];letI b:dI:=⟨.lit (dg S),28⟩;(runM (ep gz [] LN) f86.results.toList (et (ep gz [] LN) f86.ntmps (E [0,2,5,7]) 200 TS3 ⟨[(0,.p (E (0,0))),(2,.p (E (1,0))),(5,.p (E (2,0))),(7,.p (E (3,0)))],a,(w [A]),[]⟩))=(G,E (.g (dg S),u),[x,b,b,⟨.lit c,28⟩],(u3 [G,G,(!D (num (dg v)<num c))==u4,ed (iw (dg v)) (ed (iw c) (ek 4 a)),G,G]))
def aMj(v p:Nat)(x:dI):ES v p x (λS=>S) (λS=>S) v G A:=dR
def aKs(v p:Nat)(x:dI):letI d:=dg v;letI c:=dg p;letI a:=(num d+(gM-num c))%gM;letI b:dE:=[x,⟨.lit ql.zero,28⟩,⟨.lit d,28⟩,⟨.lit c,28⟩];ES v p x (λS=>G::S) (λS=>D (8=8/\0+8<=8)::D (8<=8)::((!D (num (dg a)<num c))==A)::ed (iw (dg a)) (ed (iw c) (ek 4 (b.set 2 ⟨.lit (jp 0 d++dg a++kw (0+8) d),28⟩)))::G::D (8<=8)::D (8=8/\0+8<=8)::ed (iw d) (ed (iw c) (ek 4 b))::S) a (D (8<=8)) G:=dR
def asw(x:Int):eA .and .i64 x 4294967295=x%4294967296:=by have h:(BitVec.ofInt 64 (4294967295:Int)).toNat=2^32-1:=J;show U.i64.wrap ((BitVec.ofInt 64 x&&&BitVec.ofInt 64 4294967295).toNat:Int)=_;rw[Gk,h,Cs,BitVec.toNat_ofInt];have C:0<=x%((2^64:Nat):Int):=j7 _ J;have e:(((x%((2^64:Nat):Int)).toNat%2^32:Nat):Int)=x%4294967296:=O;rw[e,iy O]
def WK(l:List Int):Prop:= ∀x∈l,-1152921504606846976<=x/\x<=1152921504606846976
def Ig{x:Int}:WK (x::l)↔(-1152921504606846976<=x/\x<=1152921504606846976)/\WK l:=by simp[WK]
def Lh:letI a:Int:=1073741824;∀(l:List Int)(c:Int),WK l-> -a<=c->c<=a->
    (Jx c l).length=l.length/\ow (Jx c l)/\ -a<=xv c l/\xv c l<=a/\fg (Jx c l)+Du l.length*xv c l=fg l+c
  |[],c,_,C,M=>⟨K,(λ_ h=>by cases h),C,M,by simp[Jx,xv,fg,Du]⟩
  |d::l,c,z,C,M=>by
   obtain⟨L,f⟩:=Ig.1 z;have u:seT c d=c+d:=by unfold seT;rw[iy O]
   have i:(c+d).fdiv 4294967296=(c+d)/4294967296:=kB _ J;obtain⟨F,w,R,j,s⟩:=Lh l ((c+d)/4294967296) f O O;simp only[Jx,xv,u,i,asw];refine⟨by simp[F],gO.2 ⟨O,w⟩,R,j,?_⟩;simp only[fg,eI,Du,fO];generalize Du l.length*xv ((c+d)/4294967296) l=k at*;omega
def MB: ∀{l:List Int},ow l->ahh l=l
  |[],_=>rfl
  |x::l,h=>by obtain⟨L,f⟩:=gO.1 h;have:=MB f;simp only[ahh,nA]at this⊢;rw[this,wa,og L.1 L.2]
def VY{o:List Int}{c:Int}(f:o.length=8)(F:ow o)(C: -1073741824<=c)(M:c<=1073741824):
    (XU c o).length=8/\WK (XU c o)/\fg (XU c o)=fg o+c*26959946667150639794667015087019630673716372585036390074623444647937:=by
  match o,f with
  |[q,e,y,H,d,p,v,n],_=>
   simp only[gO]at F;obtain⟨T,P,L,s,b4,u,b,a,_⟩:=F;simp only[XU];rw[iy (O: -9223372036854775808<=q+c/\q+c<=9223372036854775807),iy (O: -9223372036854775808<=y-c/\y-c<=9223372036854775807),iy (O: -9223372036854775808<=H+c/\H+c<=9223372036854775807),iy (O: -9223372036854775808<=n+c/\n+c<=9223372036854775807)];refine⟨K,?_,?_⟩
   .simp only[Ig];refine⟨O,O,O,O,O,O,O,O,(λ_ h=>by cases h)⟩
   .simp only[fg];omega
def NZ(h:l.length=8): ∃t m k n j q i x,l=[t,m,k,n,j,q,i,x]:=by
  match l,h with
  |[t,m,k,n,j,q,i,x],_=>exact⟨_,_,_,_,_,_,_,_,K⟩
def OKN:ji B (ep gz [] LN):=gy dD (wb gz)
section
variable{ty:es}{Q:V->dE->Prop}
abbrev SeE:eZ:=[(0,.p (E (0,0))),(2,.p (E (1,0)))]
abbrev SeM(d:List Int)(ty:es):dE:=[⟨.lit (ai d),ty⟩,⟨.lit ql.zero,28⟩]
def KM(f:d.length=8)(hd:WK d)(s:xv 0 d=0)(o: ∀u,fs 1 u [⟨.dead,ty⟩]->Q (.g (dg (fg d%115792089210356248756420345214020892766250353991924191454421193933289684991999).toNat)) u):
    Ev B (ep gz [] LN) 86 f86.ntmps 1 [] UQ SeE (SeM d ty) Q:=by
  obtain⟨R,g,_,_,c⟩:=Lh d 0 hd J J;rw[s,o4,jP,jP]at c;have H:=rO g;rw[R,f]at H;obtain⟨v,p⟩:=fy H.1;obtain⟨h1,S⟩:=UA (by rw[R,f]) g p;have M:=MB g;obtain⟨t,m,k,n,j,q,a,x,rfl⟩:=NZ f;have b:=aFy t m k n j q a x ty;rw[s,M,h1]at b;have T:= @vr B (ep gz [] LN) 86 f86.ntmps 1 [] UQ [(0,.p (E (0,0))),(2,.p (E (1,0)))] [⟨.lit (ai [t,m,k,n,j,q,a,x]),ty⟩,⟨.lit ql.zero,28⟩] Q (eB OKN) (E [0,2,3,4,5,6,8,61]) 6 3000 [G,G,G,G,G,G,G,G,A,G] [0,2,5,7];refine T b J K ?_;rw[<-c,p]at o;have l:=fK S;have i:=fK gG;have F:=fT S;have w:=fT gG;have y:ek 4 [⟨.lit (ai (Jx 0 [t,m,k,n,j,q,a,x])),ty⟩,⟨.lit ql.zero,28⟩,⟨.lit (dg v),28⟩,⟨.lit (dg pN),28⟩]=G:=I;by_cases z:v<pN
  .have e:((v:Int)%115792089210356248756420345214020892766250353991924191454421193933289684991999).toNat=v:=by unfold pN at z;omega
   rw[e]at o;refine ue (eB OKN) (aMj v pN _) ?_ K (o _ (.drop 0 ty Y K (.take 1 Y Y K K)));simp[l,i,F,w,y,z,dX,fM,iO,bT,bF]
  .have e:((v:Int)%115792089210356248756420345214020892766250353991924191454421193933289684991999).toNat=(num (dg v)+(gM-num (dg pN)))%gM:=by rw[l,i];unfold pN gM at*;omega
   have P:(v+(gM-pN))%gM<pN:=by unfold pN gM at*;omega
   have C:=fK (fI P gG);have L:=fT (fI P gG);rw[e]at o;refine ue (eB OKN) (aKs v pN _) ?_ J (o _ (.drop 0 ty Y K (.take 1 Y Y K K)));rw[l,i];have r:ek 4 [⟨.lit (ai (Jx 0 [t,m,k,n,j,q,a,x])),ty⟩,⟨.lit ql.zero,28⟩,⟨.lit (dg ((v+(gM-pN))%gM)),28⟩,⟨.lit (dg pN),28⟩]=G:=I;have h:ek 4 ([⟨.lit (ai (Jx 0 [t,m,k,n,j,q,a,x])),ty⟩,⟨.lit ql.zero,28⟩,⟨.lit (dg v),28⟩,⟨.lit (dg pN),28⟩].set 2 ⟨.lit (jp 0 (dg v)++dg ((v+(gM-pN))%gM)++kw (0+8) (dg v)),28⟩)=G:=I;simp only[l,i,C,F,w,L,y,r,h,z,P,dX,fM,iO,bT,bF];simp[z,P]
def Iz(f:d.length=8)(s:xv 0 d≠0)(next:Ev B (ep gz [] LN) 86 f86.ntmps 1 [] UQ SeE (SeM (XU (xv 0 d) (Jx 0 d)) ty) Q):
    Ev B (ep gz [] LN) 86 f86.ntmps 1 [] UQ SeE (SeM d ty) Q:=by
  obtain⟨t,m,k,n,j,q,i,x,rfl⟩:=NZ f;have b:=aJy t m k n j q i x ty ⟨.lit ql.zero,28⟩;have T:= @vr B (ep gz [] LN) 86 f86.ntmps 1 [] UQ [(0,.p (E (0,0))),(2,.p (E (1,0)))] [⟨.lit (ai [t,m,k,n,j,q,i,x]),ty⟩,⟨.lit ql.zero,28⟩] Q (eB OKN) (E [0,2,3,4,8]) 0 3000 [G,G,G,G,G,G,G,G,A,A] [0,2];refine T b ?_ K next;rw[dX];exact⟨by simpa using s,K⟩
def G2(f:d.length=8)(z:WK d):letI a:Int:=115792089237316195423570985008687907853269984665640564039457584007913129639936;letI b:List Int:=XU (xv 0 d) (Jx 0 d);b.length=8/\WK b/\0<=fg d-a*xv 0 d/\fg d-a*xv 0 d<a/\fg b=fg d-115792089210356248756420345214020892766250353991924191454421193933289684991999*xv 0 d:=by
  obtain⟨R,g,q,l,c⟩:=Lh d 0 z J J;have H:=rO g;rw[R,f]at H;rw[f]at c;have T:Du 8=115792089237316195423570985008687907853269984665640564039457584007913129639936:=by rfl
  rw[T]at H c;obtain⟨k,e,i⟩:=VY (by rw[R,f]) g q l;refine⟨k,e,O,O,O⟩
def axy(f:d.length=8)(z:WK d):letI a:Int:=1852673427797059126777135760139006525652319754650249024631321344126610074238976;∀(C: -a<=fg d)(M:fg d<=a),eM B gz 86 [.p (E (0,0))] [⟨.lit (ai d),ty⟩] (λr u=>r= .g (dg (fg d%115792089210356248756420345214020892766250353991924191454421193933289684991999).toNat)/\u=[⟨.dead,ty⟩]):=by
  intro C M;refine eV Y K ?_;refine dL (ep gz [] LN) f86 ?_
  have start: ∀Q,Ev B (ep gz [] LN) 86 f86.ntmps 1 [] UQ SeE (SeM d ty) Q->Ev B (ep gz [] LN) 86 f86.ntmps 1 [] [.code (dB f86)] (fo 0 [.p (E (0,0))]) [⟨.lit (ai d),ty⟩] Q:=by intro Q h;obtain⟨t,m,k,n,j,q,i,x,rfl⟩:=NZ f;have b:=aPz t m k n j q i x ty;have T:= @vr B (ep gz [] LN) 86 f86.ntmps 1 [] [.code (dB f86)] [(0,.p (E (0,0)))] [⟨.lit (ai [t,m,k,n,j,q,i,x]),ty⟩] Q (eB OKN) (E [0,2]) 0 200 [] [0,2];exact T b K K h
  refine start _ ?_;by_cases w:xv 0 d=0
  .exact KM f z w λu v=>⟨K,v⟩
  obtain⟨F,y,a3,a4,p⟩:=G2 f z;refine Iz f w ?_;generalize c:XU (xv 0 d) (Jx 0 d)=m at*;by_cases H:xv 0 m=0
  .refine KM F y H λu v=>⟨?_,v⟩
   rw[p,(O:fg d-115792089210356248756420345214020892766250353991924191454421193933289684991999*xv 0 d=fg d+115792089210356248756420345214020892766250353991924191454421193933289684991999*(-xv 0 d)),pM]
  obtain⟨P,L,b3,b4,e⟩:=G2 F y;refine Iz F H ?_;generalize l:XU (xv 0 m) (Jx 0 m)=k at*;obtain⟨c1,c2,c3,c4,o⟩:=G2 P L
  have s:xv 0 k=0:=by generalize xv 0 d=g at*;generalize xv 0 m=S at*;generalize xv 0 k=R at*;omega
  refine KM P L s λu v=>⟨?_,v⟩
  rw[e,p,(O:fg d-115792089210356248756420345214020892766250353991924191454421193933289684991999*xv 0 d-115792089210356248756420345214020892766250353991924191454421193933289684991999*xv 0 m=fg d+115792089210356248756420345214020892766250353991924191454421193933289684991999*(-xv 0 d-xv 0 m)),pM]
end
noncomputable abbrev YQ:List Item:=gQ (dB f58) 3 []
noncomputable abbrev T0:List (Nat×jB):=[(85,inl gz [] LN f85 [])]
def maT(c a b x:Int):Int:=U.u64.wrap (c+U.u64.wrap (U.u64.wrap (U.u64.wrap a*U.u64.wrap b)+U.u64.wrap x))
def maO(c a:Int):List Int->List Int->List Int
  |b::p,x::q=>U.u32.wrap (maT c a b x)::maO ((maT c a b x).fdiv 4294967296) a p q
  |[],_::q=>U.u32.wrap c::q
  |_,[]=>[]
def Db(n:List Int):List Int->List Int->List Int
  |a::p,H=>match maO 0 a n H with
   |x::r=>x::Db n p r
   |[]=>[]
  |[],H=>H
abbrev UK:List Int:=[0,0,0,0,0,0,0,0,0,0,0,0,0,0,0,0]
def ahp(l:List Int):List Int:=l.map U.i64.wrap
def E2:List Int:=[1,0,-1,1,0,0,0,1,1,1,-1,0,1,0,0,1,1,1,0,0,0,1,0,1,1,1,0,1,0,0,1,1,1,1,0,1,1,0,0,2,2,1,-1,2,1,1,0,2,2,2,-1,1,2,1,1,2,2,2,0,1,1,2,1,3]
def aJs(a b:Nat):letI c:=Db (fY b) (fY a) UK;(si [4,5,10,12,68] (o5 (ep gz T0 LN) f58.ntmps (E [2,3,4,5,6,7,8,9,10,11,17,24,57]) 6 20000 [.code (dB f58)] ⟨fo 0 [.g (dg a),.g (dg b)],[],[],[]⟩))=(YQ,[(4,.p (E (2,0))),(5,.p (E (3,0))),(10,.p (E (4,0))),(12,.p (E (5,0))),(68,.i .i64 0)],[⟨.lit (dg a),28⟩,⟨.lit (dg b),28⟩,⟨.lit ql.zero,28⟩,⟨.lit (au c),104⟩,⟨.lit (ai (ahp (c.take 8))),127⟩,⟨.lit (ai E2),157⟩],G):=I
def adT(h r d:Int):Int:=U.i64.wrap (d+U.i64.wrap (h*r))
def adR(h:Int):List Int->List Int->List Int
  |r::p,d::q=>adT h r d::adR h p q
  |_,_=>[]
abbrev MpE(i:Int):eZ:=[(4,.p (E (2,0))),(5,.p (E (3,0))),(10,.p (E (4,0))),(12,.p (E (5,0))),(68,.i .i64 i)]
def Tb(j:Nat):List Int:=(E2.drop (8*j)).take 8
def aPr(F c w P L q u C s M o v p y e l t m k n f d i x:Int)(R S:dI)(j:Nat)(H:j<8):letI b:=[F,c,w,P,L,q,u,C,s,M,o,v,p,y,e,l];letI a:dE:=[R,S,⟨.lit ql.zero,28⟩,⟨.lit (au b),104⟩,⟨.lit (ai [t,m,k,n,f,d,i,x]),127⟩,⟨.lit (ai E2),157⟩];(si [4,5,10,12,68] (o5 (ep gz T0 LN) f58.ntmps (E [4,5,10,12,14,15,16,68,82]) 6 3000 YQ ⟨MpE (j:Int),a,[G,G],[]⟩))=(YQ,MpE ((j+1:Nat):Int),a,eb [(U.i64.wrap (b.getD (8+j) 0)==0)==G]):=
  match j,H with|0,_|1,_|2,_|3,_|4,_|5,_|6,_|7,_=>dR
def aLp(F h w P L q u C s M o v p y g l t m k n z r i x:Int)(R S:dI)(j:Nat)(H:j<8):letI a:=[F,h,w,P,L,q,u,C,s,M,o,v,p,y,g,l];letI b:=[t,m,k,n,z,r,i,x];letI c:Int:=U.i64.wrap (a.getD (8+j) 0);letI d:dI:=⟨.lit (ai E2),157⟩;letI e:dI:=⟨.lit (au a),104⟩;letI f:dI:=⟨.lit ql.zero,28⟩;(si [4,5,10,12,68] (o5 (ep gz T0 LN) f58.ntmps (E [4,5,10,12,14,15,16,68,82]) 6 3000 YQ ⟨MpE (j:Int),[R,S,f,e,⟨.lit (ai b),127⟩,d],[G,A],[]⟩))=(YQ,MpE ((j+1:Nat):Int),[R,S,f,e,⟨.lit (ai (adR c (Tb j) b)),127⟩,d],eb [(c==0)==A]):=
  match j,H with|0,_|1,_|2,_|3,_|4,_|5,_|6,_|7,_=>dR
def aJh(l:dE):(mW (ep gz T0 LN) (eC (ep gz T0 LN) f58.ntmps 200 [4,10] YQ ⟨MpE 8,l,[],[]⟩))=(E (86,([.p (E (4,0))],E 99)),dF 35 1 (dB f58) [],[(4,.p (E (2,0))),(10,.p (E (4,0)))],l,[]):=I
def aRt(v:Nat)(R S C i q:dI):(runM (ep gz T0 LN) f58.results.toList (et (ep gz T0 LN) f58.ntmps N 200 (dF 35 1 (dB f58) []) ⟨[(99,.g (dg v)),(4,.p (E (2,0)))],[R,S,⟨.lit ql.zero,28⟩,C,i,q],[],[]⟩))=(G,E (.g (dg v),G),[R,S,⟨.lit (dg v),28⟩,C,i,q],[G]):=I
def agt{c a b x:Int}(s:0<=c/\c<4294967296)(t:0<=a/\a<4294967296)(H:0<=b/\b<4294967296)(L:0<=x/\x<4294967296):maT c a b x=c+(a*b+x)/\0<=a*b/\c+(a*b+x)<18446744073709551616:=by have C:0<=a*b:=jL t.1 H.1;have M:a*b<=4294967295*4294967295:=SO O O H.1 J;unfold maT;rw[mP (O:0<=a/\a<=18446744073709551615),mP (O:0<=b/\b<=18446744073709551615),mP (O:0<=a*b/\a*b<=18446744073709551615),mP (O:0<=x/\x<=18446744073709551615),mP (O:0<=a*b+x/\a*b+x<=18446744073709551615),mP O];exact⟨K,C,O⟩
def Mr(a:Int)(t:0<=a/\a<4294967296): ∀(n p r:List Int)(c:Int),p.length=n.length->ow n->ow p->ow r->0<=c/\c<4294967296->
    ∃q,maO c a n (p++0::r)=q++r/\q.length=n.length+1/\ow q/\fg q=a*fg n+fg p+c
  |[],[],r,c,_,_,_,_,s=>⟨[c],by show U.u32.wrap c::r=[c]++r;rw[wa,og s.1 s.2];rfl,K,gO.2 ⟨s,λ_ h=>by cases h⟩,by simp[fg]⟩
  |b::n,x::p,r,c,f,H,g,y,s=>by
   obtain⟨j,k⟩:=gO.1 H;obtain⟨z,m⟩:=gO.1 g;obtain⟨e,C,M⟩:=agt s t j z;have i:(c+(a*b+x)).fdiv 4294967296=(c+(a*b+x))/4294967296:=kB _ J;obtain⟨q,v,d,P,l⟩:=Mr a t n p r ((c+(a*b+x))/4294967296) (by simpa using f) k m y O;refine⟨(c+(a*b+x))%4294967296::q,?_,by simp[d],gO.2 ⟨O,P⟩,?_⟩
   .show U.u32.wrap (maT c a b x)::maO ((maT c a b x).fdiv 4294967296) a n (p++0::r)=_;rw[e,i,v,wa];rfl
   .simp only[fg,l,fh];rw[show a*(4294967296*fg n)=4294967296*(a*fg n)by rw[<-fO,eD a 4294967296,fO]];generalize a*fg n=u at*;generalize a*b=w at*;omega
def xW: ∀(p q:List Int),fg (p++q)=fg p+Du p.length*fg q
  |[],q=>by simp[fg,Du]
  |x::p,q=>by simp only[ym,fg,xW p q,eI,Du,fh,fO];omega
def IM(n:List Int)(H:ow n): ∀(i p:List Int),p.length=n.length->ow i->ow p->(Db n i (p++lc i.length 0)).length=n.length+i.length/\ow (Db n i (p++lc i.length 0))/\fg (Db n i (p++lc i.length 0))=fg i*fg n+fg p
  |[],p,f,_,g=>by simp[Db,fg,f,g]
  |a::i,p,f,t,g=>by
   obtain⟨l,j⟩:=gO.1 t;have o:ow (lc i.length 0):=λx L=>by rw[K8 L];decide
   obtain⟨q,v,d,P,r⟩:=Mr a l n p (lc i.length 0) 0 f H g o J
   match q,d with
   |y::q,d=>
    obtain⟨z,M⟩:=gO.1 P;obtain⟨F,b,R⟩:=IM n H i q (by simpa using d) j M
    have e:Db n (a::i) (p++lc (a::i).length 0)=y::Db n i (q++lc i.length 0):=by rw[eI,CI];simp only[Db,v,ym]
    rw[e];refine⟨by simp[F];omega,gO.2 ⟨z,b⟩,?_⟩;simp only[fg]at r⊢;rw[R,jN,fO];generalize a*fg n=u at*;generalize fg i*fg n=w at*;omega
def Jk{a b:Nat}:letI c:Nat:=115792089237316195423570985008687907853269984665640564039457584007913129639936;letI d:=Db (fY b) (fY a) UK;∀(t:a<c)(H:b<c),d.length=16/\ow d/\fg d=((a*b:Nat):Int):=by intro t H;have h:=IM (fY b) (pJ b) (fY a) [0,0,0,0,0,0,0,0] K (pJ a) (λx L=>by simp at L;subst L;decide);rw[lV t,lV H]at h;have e:fg [0,0,0,0,0,0,0,0]=0:=J;rw[e,jP,<-lJ]at h;exact h
def Nt(h:Int)(P:0<=h/\h<4294967296): ∀(p H:List Int)(n:Int),H.length=p.length->(∀r∈p,-3<=r/\r<=3)->(∀d∈H,-n<=d/\d<=n)->n<=1152921504606846976->
    (adR h p H).length=p.length/\(∀d∈adR h p H,-(n+12884901888)<=d/\d<=n+12884901888)/\fg (adR h p H)=fg H+h*fg p
  |[],[],n,_,_,_,_=>⟨K,(λ_ h=>by cases h),by simp[adR,fg]⟩
  |r::p,d::H,n,f,y,z,a=>by
   obtain⟨F,w,R⟩:=Nt h P p H n (by simpa using f) (λx L=>y x (jh _ L)) (λx L=>z x (jh _ L)) a;have k:=y r (jt ..);have m:=z d (jt ..)
   have e:h*r= -3*h∨h*r= -2*h∨h*r= -1*h∨h*r=0∨h*r=h∨h*r=2*h∨h*r=3*h:=by have:r= -3∨r= -2∨r= -1∨r=0∨r=1∨r=2∨r=3:=O;rcases this with rfl|rfl|rfl|rfl|rfl|rfl|rfl<;>omega
   have u:adT h r d=d+h*r:=by unfold adT;rw[iy (O: -9223372036854775808<=h*r/\h*r<=9223372036854775807),iy O]
   simp only[adR,u];refine⟨by simp[F],?_,?_⟩
   .intro x L;rcases kh.1 L with rfl|L
    .omega
    .exact w x L
   .simp only[fg,R,fh];rw[show h*(4294967296*fg p)=4294967296*(h*fg p)by rw[<-fO,eD h 4294967296,fO]];omega
def MG: ∀{l:List Int},ow l->ahp l=l
  |[],_=>rfl
  |x::l,h=>by obtain⟨L,f⟩:=gO.1 h;have:=MG f;simp only[ahp,nA]at this⊢;rw[this,iy O]
def Sp:eo B 86:=ga f86
def OKM:ji B (ep gz T0 LN):=gy ⟨⟨ga f85,mV (l:=[]) dD (wb gz) I I []⟩,dD⟩ (wb gz)
section
variable{BA BB:dI}{Q:V->dE->Prop}
abbrev MpM(BA BB:dI)(X i:List Int):dE:=[BA,BB,⟨.lit ql.zero,28⟩,⟨.lit (au X),104⟩,⟨.lit (ai i),127⟩,⟨.lit (ai E2),157⟩]
def Y0{F H w P L q u t s h o v g f e l x p:Int}{i:List Int}(j:Nat)(hj:j<8):letI a:=[F,H,w,P,L,q,u,t,s,h,o,v,g,f,e,l];letI b:=ep gz T0 LN;∀(k:a.getD (8+j) 0=x)(eK:fg (Tb j)=p)(y:(Tb j).length=8/\ ∀r∈Tb j,-3<=r/\r<=3)(M:0<=x/\x<4294967296)(hl:i.length=8)(n:Int)(z: ∀d∈i,-n<=d/\d<=n)(hn:n<=1152921504606846976)(next: ∀m,m.length=8->(∀d∈m,-(n+12884901888)<=d/\d<=n+12884901888)->fg m=fg i+x*p->Ev B b 58 f58.ntmps 0 [] YQ (MpE ((j+1:Nat):Int)) (MpM BA BB a m) Q),Ev B b 58 f58.ntmps 0 [] YQ (MpE (j:Int)) (MpM BA BB a i) Q:=by
  intro k eK y M hl n z hn next;have hw:U.i64.wrap x=x:=iy O;obtain⟨d0,d1,d2,d3,d4,d5,S,R,rfl⟩:=NZ hl;by_cases C:x=0
  .have c:=aPr F H w P L q u t s h o v g f e l d0 d1 d2 d3 d4 d5 S R BA BB j hj;rw[k,hw]at c;refine vr (eB OKM) c (by rw[C];rfl) K (next _ K (λd T=>?_) (by rw[C,mN,jP]));have:=z d T;omega
  .have c:=aLp F H w P L q u t s h o v g f e l d0 d1 d2 d3 d4 d5 S R BA BB j hj;rw[k,hw]at c;obtain⟨i1,i2,i3⟩:=Nt x M (Tb j) [d0,d1,d2,d3,d4,d5,S,R] n (by rw[y.1];rfl) y.2 z hn;exact vr (eB OKM) c (by simp[dX,fM,C]) K (next _ (by rw[i1,y.1]) i2 (by rw[i3,eK]))
end
def Xo{i s M o v p y e l w:Int}(t:0<=i/\i<115792089237316195423570985008687907853269984665640564039457584007913129639936):letI a:Int:=1852673427797059126777135760139006525652319754650249024631321344126610074238976;letI b:Int:=4294967296;∀(g0:0<=s/\s<b)(n:0<=M/\M<b)(C:0<=o/\o<b)(F:0<=v/\v<b)(r:0<=p/\p<b)(x:0<=y/\y<b)(f:0<=e/\e<b)(q:0<=l/\l<b)(H:w=i+(s*26959946667150639794667015087019630673716372585036390074623444647937+M*26959946667150639794667015087359913040558082885985500344465963876353+o*26959946667150639796128516724350533591840829255256855500763837759489+v*26959946673427741530053695850855420096924039001157192263165483679745+p*53919893334301279589334030174379543714274455471058783907236827627521+y*53919893334301279590795531811710446632557368466270884520412594569218+e*53919893340578381326182212575886518422606745183322350234719148310530+l*80879840007729021122310729299896769647526635975134277872120632442882)),-a<=w/\w<=a:=by intro g0 n C F r x f q H;omega
def TN{i s M o v p y e l w:Int}{n:Nat}(H:w=i+(s*26959946667150639794667015087019630673716372585036390074623444647937+M*26959946667150639794667015087359913040558082885985500344465963876353+o*26959946667150639796128516724350533591840829255256855500763837759489+v*26959946673427741530053695850855420096924039001157192263165483679745+p*53919893334301279589334030174379543714274455471058783907236827627521+y*53919893334301279590795531811710446632557368466270884520412594569218+e*53919893340578381326182212575886518422606745183322350234719148310530+l*80879840007729021122310729299896769647526635975134277872120632442882)):letI a:Int:=4294967296;∀(u:(n:Int)=i+115792089237316195423570985008687907853269984665640564039457584007913129639936*(s+a*(M+a*(o+a*(v+a*(p+a*(y+a*(e+a*l)))))))),(w%115792089210356248756420345214020892766250353991924191454421193933289684991999).toNat=n%pN:=by intro u;have:w=(n:Int)+115792089210356248756420345214020892766250353991924191454421193933289684991999*(-(s*1+M*4294967297+o*18446744078004518913+v*79228162532711081671548469249+p*340282367000166625996085689103316680705+y*1461501637671185285203851458712368708759249223682+e*6277101736848182401506974708411517874814724153227578703874+l*26959946673427741531515197488526605382048662297373743378404898504706)):=O;rw[this,pM];unfold pN;omega
def ass{a b:Nat}:letI c:Nat:=115792089237316195423570985008687907853269984665640564039457584007913129639936;∀(ha:a<c)(hb:b<c),eM B gz 58 [.g (dg a),.g (dg b)] [] (λr m=>r= .g (dg (fc a b))/\m=[]):=by
  intro ha hb;obtain⟨l1,g,l3⟩:=Jk ha hb;have k:=aJs a b;generalize Db (fY b) (fY a) UK=f at*
  match f,l1 with
  |[F,H,w,P,L,q,u,C,s,M,o,v,p,y,e,l],_=>
   have t:ow [F,H,w,P,L,q,u,C]:=λx hx=>g x (List.mem_of_mem_take (i:=8) hx)
   rw[show jp 8 [F,H,w,P,L,q,u,C,s,M,o,v,p,y,e,l]=[F,H,w,P,L,q,u,C]from K,MG t]at k;refine eV Y K ?_;refine dL (ep gz T0 LN) f58 ?_;have T:=λQ=> @vr B (ep gz T0 LN) 58 f58.ntmps 0 [] [.code (dB f58)] (fo 0 [.g (dg a),.g (dg b)]) [] Q (eB OKM) (E [2,3,4,5,6,7,8,9,10,11,17,24,57]) 6 20000 [] [4,5,10,12,68]
   refine T _ k K K ?_;refine Y0 0 J (x:=s) K (p:=26959946667150639794667015087019630673716372585036390074623444647937) kt kt (g _ Y) K 4294967296 (λd z=>by have:=t d z;omega) J λD0 a0 b0 c0=>?_
   refine Y0 1 J (x:=M) K (p:=26959946667150639794667015087359913040558082885985500344465963876353) kt kt (g _ Y) a0 _ b0 J λD1 a1 b1 c1=>?_
   refine Y0 2 J (x:=o) K (p:=26959946667150639796128516724350533591840829255256855500763837759489) kt kt (g _ Y) a1 _ b1 J λD2 a2 b2 c2=>?_
   refine Y0 3 J (x:=v) K (p:=26959946673427741530053695850855420096924039001157192263165483679745) kt kt (g _ Y) a2 _ b2 J λD3 a3 b3 c3=>?_
   refine Y0 4 J (x:=p) K (p:=53919893334301279589334030174379543714274455471058783907236827627521) kt kt (g _ Y) a3 _ b3 J λD4 a4 b4 c4=>?_
   refine Y0 5 J (x:=y) K (p:=53919893334301279590795531811710446632557368466270884520412594569218) kt kt (g _ Y) a4 _ b4 J λD5 a5 b5 c5=>?_
   refine Y0 6 J (x:=e) K (p:=53919893340578381326182212575886518422606745183322350234719148310530) kt kt (g _ Y) a5 _ b5 J λD6 a6 b6 c6=>?_
   refine Y0 7 J (x:=l) K (p:=80879840007729021122310729299896769647526635975134277872120632442882) kt kt (g _ Y) a6 _ b6 J λD7 a7 b7 c7=>?_
   have j:=rO t;have e8:Du [F,H,w,P,L,q,u,C].length=115792089237316195423570985008687907853269984665640564039457584007913129639936:=by rfl
   rw[e8]at j;have hV:fg D7=fg [F,H,w,P,L,q,u,C]+(s*26959946667150639794667015087019630673716372585036390074623444647937+M*26959946667150639794667015087359913040558082885985500344465963876353+o*26959946667150639796128516724350533591840829255256855500763837759489+v*26959946673427741530053695850855420096924039001157192263165483679745+p*53919893334301279589334030174379543714274455471058783907236827627521+y*53919893334301279590795531811710446632557368466270884520412594569218+e*53919893340578381326182212575886518422606745183322350234719148310530+l*80879840007729021122310729299896769647526635975134277872120632442882):=by rw[c7,c6,c5,c4,c3,c2,c1,c0];simp only[wO]
   have S:=g;simp only[gO]at S;obtain⟨_,_,_,_,_,_,_,_,g0,g1,g2,g3,g4,g5,g6,g7,_⟩:=S
   have hT:((a*b:Nat):Int)=fg [F,H,w,P,L,q,u,C]+115792089237316195423570985008687907853269984665640564039457584007913129639936*(s+4294967296*(M+4294967296*(o+4294967296*(v+4294967296*(p+4294967296*(y+4294967296*(e+4294967296*l))))))):=by rw[<-l3,show [F,H,w,P,L,q,u,C,s,M,o,v,p,y,e,l]=[F,H,w,P,L,q,u,C]++[s,M,o,v,p,y,e,l]from K,xW,e8];simp only[fg,o4,jP]
   have R:(fg D7%115792089210356248756420345214020892766250353991924191454421193933289684991999).toNat=fc a b:=TN hV hT;obtain⟨v0,v1⟩:=Xo j g0 g1 g2 g3 g4 g5 g6 g7 hV
   refine dY (eB OKM) (aJh _) K K K Sp
     (Q1:=λr n=>r= .g (dg (fc a b))/\n=[⟨.lit (dg a),28⟩,⟨.lit (dg b),28⟩,⟨.lit ql.zero,28⟩,⟨.lit (au [F,H,w,P,L,q,u,C,s,M,o,v,p,y,e,l]),104⟩,⟨.dead,127⟩,⟨.lit (ai E2),157⟩]) ?_ K ?_
   .refine((axy (d:=D7) (ty:=127) a7 (λd z=>by have:=b7 d z;omega) v0 v1).lift (gl:=gz) [4] ⟨?_,K,dD⟩ J (λ_ _ h=>by cases h) ?_).mono ?_
    .obtain⟨d0,d1,d2,d3,d4,d5,d6,d7,rfl⟩:=NZ a7;rfl
    .obtain⟨d0,d1,d2,d3,d4,d5,d6,d7,rfl⟩:=NZ a7;rfl
    .rintro r n⟨r0,aa,⟨rfl,rfl⟩,_,rfl,rfl⟩;exact⟨by rw[R];rfl,K⟩
   rintro r n⟨rfl,rfl⟩_;refine⟨_,K,?_⟩;refine Ev.fq [99,4] ?_;exact ue (eB OKM) (aRt _ _ _ _ _ _) K K ⟨K,.take 0 Y Y K K⟩
noncomputable def F58:QF:=λargs m=>match args with
  |[.g a,.g b]=>E (.g (dg (fc (num a) (num b))),ed (ed (iw a) (iw b)) (ek m.length m))
  |_=>N
def ain(R:Nat->Option Nat):oR B R 58 F58:=by
  refine gD λargs m r h=>?_
  unfold F58 at h;split at h
  .simp only[eJ,ef]at h;obtain⟨rfl,d⟩:=h;obtain⟨M,i⟩:=dN d;obtain⟨S,l⟩:=dN M;obtain⟨a,rfl,t,ea⟩:=mI S;obtain⟨b,rfl,H,x⟩:=mI l;rw[ea,x];exact gZ (ass t H) i K K
  .cases h
def SX:eo B 58:=ga f58
end Go.Proofs.YtiggidfngfkanaaGreatDoor
