/- FnPacked, part 20. No condition. -/
import Derived.Test.YtiggidfngfkanaaGreatDoorW19
import Derived.Test.YtiggidfngfkanaaGreatDoorRows
namespace Go.Proofs.YtiggidfngfkanaaGreatDoor
open Go Go.Proofs.Tryz
set_option maxRecDepth 100000
set_option maxHeartbeats 4000000
set_option linter.all false
open Bool renaming false->A, true->G
open Decidable renaming decide->D
open Go renaming IntKind->U, TypeId->es, Value->ip, World->ii
open Go.Proofs.Tryz renaming prog->B
open List renaming replicate->lc
open Option renaming none->N, some->E
variable{P:Program}{n:String}{c w:ii}
def lu.aQk{C C':fw}{f:FuncId}{n:Nat}{t:List Item}{e:eZ}{m s:dE}{Z:Ending->ii->Prop}{Q:V->dE->Prop}(hM: ∀w,TF c w-> ∃q,jA q s w/\OQ q C'.mw s.length)(he: ∀t v,eZ.get e t=E v-> ∀q l,v.ee q=v.ee l)(hl: ∀x∈s,x.c.live=G)(hQ: ∀r m',Q r m'-> ∃F,m'=s++F/\ ∀q S,TF c S->Z (.returned (r.ee q)) S)(L:ek s.length s=G)(h:Ev P C' f n s.length [] t e s Q):lu c P C f n t e m Z:=by
  intro q a w u hF hr R hg hn hd;obtain⟨d,h1,h2⟩:=hM w u;refine h d a w Z (eT _) h1 (λt v hv=>by rw[R t v hv,he t v hv q d]) h2 hn hd ?_;rintro en S⟨p,r,m2,hx,rfl,hq⟩;obtain⟨F,rfl,hz⟩:=hQ r m2 hq;refine hz p S ?_;have M:=hx.whole;refine⟨mh u.size M.iY.size,λb hb _=>?_,M.iY.os.trans u.os,M.iY.output.trans u.output,M.iY.tape.trans u.tape⟩;have aa:b<w.heap.size:=pY hb u.size;rw[<-u.fq b hb (λh=>h)];by_cases k:kW d s w b
  .have o: ∀i x,s[i]?=E x->d i=b->S.heap[b]?=w.heap[b]?:=by intro i x g z;have H:i<s.length:=(fQ.1 g).1;have T:=hl x (BC g);have a1:=h1.cells i x g;have a2:=M.rel.cells i x (by rw[oF H];exact g);rw[M.ln i H]at a2;rw[uz.kA T]at a1;have a3:=(qC (λj hj=>M.ln j hj) (m5 L i x g)).1 a2;rw[uz.kA T]at a3;rw[<-z,a1,a3]
   rcases k with⟨i,g,z⟩ |⟨i,x,g,ho⟩
   .exact o i _ (jr g) z
   .rw [fp.kA (hl x (BC g))]at ho;exact o i x g ho.symm
  .exact M.iY.fq b aa k
def xG{l t:List Int}{k:Nat}(h:k<l.length):(l++t).getD k 0=l.getD k 0:=by simp[List.getD,oF h]
def UE:(List.range 256).all (λz=>D (eA .and .u8 (z:Int) 1=(z:Int)%2))=G:=I
def atx{z:Int}(C:0<=z)(M:z<256):eA .and .u8 z 1=z%2:=by have:=yM.1 UE z.toNat (AA.2 O);have e:((z.toNat:Nat):Int)=z:=O;rw[e]at this;exact fU this
def aur(y:Nat):iI y 0 0%2=(y:Int)%2/\0<=iI y 0 0/\iI y 0 0<256:=by have e:iI y 0 0=((y%4294967296:Nat):Int)/1%256:=K;rw[e];refine⟨?_,?_,?_⟩<;>omega
noncomputable abbrev B5:Code:=dB f5
noncomputable abbrev O6:List Oper:=(opsOf 6 B5).toList
noncomputable abbrev O7:List Oper:=(opsOf 7 B5).toList
abbrev Er(oa:Option Addr)(n F:Nat)(w:List Item)(S:St)(u u3:Nat)(u4:Bool):Prop:=mQ (et m7 f5.ntmps N 200 w S) [0,u]=(dF u3 1 B5 [],[(0,dV oa n F),(u,dV oa n F)],[],u4)
def aIm(oa:Option Addr)(n F:Nat):Er oa n F [.code B5] ⟨fo 0 [dV oa n F],[],[],[]⟩ 8 1 G:=dR
abbrev Ea(d:V)(w S u3:Nat)(u:V)(u4:Bool):Prop:=oX m7 f5.results.toList (et m7 f5.ntmps N 200 (dF w 2 B5 []) ⟨[(S,u),(0,d),(u3,d)],[],[G],[]⟩)=(G,E (.b G,G),[],u4)
def aEg(n:Nat)(d:V):Ea d 1 9 8 (.i .i64 (n:Int)) (eb [D ((n:Int)>2147483647)==G]):=dR
def aQf(oa:Option Addr)(n F:Nat):Er oa n F (dF 1 2 B5 []) ⟨[(9,.i .i64 (n:Int)),(0,dV oa n F),(8,dV oa n F)],[],[A],[]⟩ 11 3 (eb [D ((n:Int)>2147483647)==A]):=dR
def aDj(d:V):Ea d 3 12 11 (.b A) G:=dR
abbrev Eo(w:List Item×St)(S:Nat)(u:List Item)(u3:V)(u4:List dI):Prop:=mQ w [S]=(u,[(S,u3)],u4,G)
def aLi(oa:Option Addr)(n F:Nat):letI a:=dV oa n F;Eo (et m7 f5.ntmps N 200 (dF 3 2 B5 []) ⟨[(12,.b G),(0,a),(11,a)],[],[A],[]⟩) 14 (dF 5 1 B5 []) a []:=dR
section
variable{tg te tk tq tc tt:es}{ev:Addr}{th:Int}{x y:Nat}
abbrev M5(tg te tk tq tc tt:es)(ev:Addr)(th:Int)(r:dE):dE:=kj 1 tg ev::gY ev te::⟨.lit [.i .i64 th],tk⟩::⟨.lit [.i .i64 40],tq⟩::⟨.ws .u32 mn,tc⟩::⟨.ws .u8 jJ,tt⟩::r
abbrev RW(x:Nat)(F:List Int):dI:=⟨.ws .u8 (bL x++F),5⟩
def aDt(x y:Nat)(T P L s b4 u:dI):Eo (fF m8 f5.ntmps N 6 200 (dF 5 2 B5 []) ⟨[(15,.g (oB x y))],[T,P,L,s,b4,u],[],[]⟩) 3 (dO 6 B5 []) (pt 6) [T,P,L,s,b4,u,⟨.lit (oB x y),36⟩]:=dR
def aSb(n:Nat)(m:dE):letI a:eZ:=[(3,pt 6),(4,.s (E (9,0)) 33 (n+33))];mQ (fF m8 f5.ntmps N 7 200 (jM 6 B5) ⟨a,m,[],[]⟩) [3,4]=(dO 7 B5 [],a,m,G):=I
def aMq(c:Bool)(n:Nat)(m:dE):letI a:V:= .s (E (9,0)) 33 (n+33);(Nb m8 (eC m8 f5.ntmps 200 [3,49] (jM 7 B5) ⟨[(3,pt 6),(4,a),(47,.b c)],m,[A],[]⟩))=(E (23,[a],E 50),dF 9 2 B5 [],[(3,pt 6),(49,a)],m,eb [c==A]):=I
def aEq(x y n:Nat)(T P L s b4 u:dI)(r:dE):letI e:=oB x y;letI a:dE:=T::P::L::s::b4::u::⟨.lit e,36⟩::r;letI c:V:= .s (E (12,0)) 32 32;letI d:V:= .s (E (13,0)) 32 32;(Nb m8 (eC m8 f5.ntmps 200 [55,56,57,58] (dF 9 2 B5 []) ⟨[(50,.t [c,d,.b G]),(3,pt 6),(49,.s (E (9,0)) 33 (n+33))],a,[G],[]⟩))=(E (14,[c,d,.g e],E 59),dF 10 6 B5 [],[(55,.b G),(56,c),(57,d),(58,.g e)],a,G):=I
def aGn(u v w:V)(m:dE):oX m8 f5.results.toList (fe m8 f5.ntmps N N 200 (dF 10 6 B5 []) ⟨[(59,.b G),(55,.b G),(56,u),(57,v),(58,w)],m,[G],[]⟩)=(G,E (.b G,G),m,G):=I
def ard: ∀g i,qF g=E i-> ∃j,[0,1,2,7,8][i]?=E j/\oD g=E j:=rL ⟨_,K,K⟩ (rL ⟨_,K,K⟩ DO)
def ala: ∀g i,oD g=E i-> ∃j,[0,1,2,3,4,5,9][i]?=E j/\oD g=E j:=rL ⟨_,K,K⟩ (rL ⟨_,K,K⟩ (rL ⟨_,K,K⟩ (rL ⟨_,K,K⟩ (rL ⟨_,K,K⟩ DO))))
def HI(p:Ij x y)(L:x<115792089237316195423570985008687907853269984665640564039457584007913129639936)(q:4<th):letI a:dE:=M5 tg te tk tq tc tt ev th [];Ev B m8 5 f5.ntmps 6 [] (dF 5 2 B5 []) [(15,.g (oB x y))] a (λr m=>r= .b G/\ ∃F,m=a++F):=by
  have Q:y<115792089237316195423570985008687907853269984665640564039457584007913129639936:=by have h1:=p.yp;have h2:pN<115792089237316195423570985008687907853269984665640564039457584007913129639936:=J;omega
  have t:0<y:=pY J p.y2;refine fk (eB ma) (aDt x y _ _ _ _ _ _) K ?_;refine Ev.eq (t':= .code (.region 6 (opsOf 6 B5) G)::jM 6 B5) I K K ?_;refine tX [6] [0,1,3,4,2,5,6,7] iZ ni I K K ?_;refine iS [0,1,3,4] [2,5,6,7] (b:=[(20,.g (dg y)),(19,.p (E (6,8))),(17,.g (dg x)),(16,pt 6),(3,pt 6)]) (p:=[G,G]) I K ?_;refine ko (g:=21) (L:=[.g (dg x)]) (d:=E 18) I yU ((Nu x).lift (gl:=oD) (m:=(M5 tg te tk tq tc tt ev th [⟨.lit (oB x y),36⟩])) [] dD J (λg i h=>by cases h) K) ?_;rintro r u⟨C,e,⟨T,rfl,rfl⟩,_,rfl,rfl⟩_;refine⟨K,(λb H f=>by simp only[kh,lO,lN]at H;subst H;rfl),[(18,.s (E (7,0)) 32 (32+T.length)),(20,.g (dg y)),(19,.p (E (6,8))),(17,.g (dg x)),(16,pt 6),(3,pt 6)],K,?_⟩;show kJ B m8 f5.ntmps O6 [6] _ [5,6,7] ([(18,.s (E (7,0)) 32 (32+T.length)),(20,.g (dg y)),(19,.p (E (6,8))),(17,.g (dg x)),(16,pt 6),(3,pt 6)]) (M5 tg te tk tq tc tt ev th [⟨.lit (oB x y),36⟩,RW x T]);refine ko (g:=21) (L:=[.g (dg y)]) (d:=E 21) I yU ((Nu y).lift (gl:=oD) (m:=(M5 tg te tk tq tc tt ev th [⟨.lit (oB x y),36⟩,RW x T])) [] dD J (λg i h=>by cases h) K) ?_;rintro r u⟨C,e,⟨z,rfl,rfl⟩,_,rfl,rfl⟩_;refine⟨K,(λb H f=>by simp only[kh,lO,lN]at H;subst H;rfl),[(21,.s (E (8,0)) 32 (32+z.length)),(18,.s (E (7,0)) 32 (32+T.length)),(20,.g (dg y)),(19,.p (E (6,8))),(17,.g (dg x)),(16,pt 6),(3,pt 6)],K,?_⟩;show kJ B m8 f5.ntmps O6 [6] _ [6,7] ([(21,.s (E (8,0)) 32 (32+z.length)),(18,.s (E (7,0)) 32 (32+T.length)),(20,.g (dg y)),(19,.p (E (6,8))),(17,.g (dg x)),(16,pt 6),(3,pt 6)]) (M5 tg te tk tq tc tt ev th [⟨.lit (oB x y),36⟩,RW x T,RW y z]);refine ko (g:=20) (L:=[.s (E (7,0)) 32 (32+T.length),.s (E (8,0)) 32 (32+z.length)]) (d:=E 22) I PW ((azh (tg:=tg) (te:=te) (tk:=tk) (tb:=5) (tc:=5) (ev:=ev) (xs:=bL x++T) (ys:=bL y++z) (c:=(32+T.length)) (d:=(32+z.length)) q L Q O O (by rw[gw,lL];omega) (λk R=>xG (by rw[lL];exact R)) (by rw[gw,lL];omega) (λk R=>xG (by rw[lL];exact R)) p.x2 t).lift (gl:=oD) (m:=(M5 tg te tk tq tc tt ev th [⟨.lit (oB x y),36⟩,RW x T,RW y z])) [0,1,2,7,8] ⟨K,K,K,K,K,K,K,K,K,K,dD⟩ J ard K) ?_;rintro r u⟨C,e,⟨v,rfl,rfl⟩,_,rfl,rfl⟩_;refine⟨K,(λb H f=>by simp only[kh,lO,lN]at H;subst H;rfl),[(22,.s (E (9,0)) 33 (v.length+33)),(21,.s (E (8,0)) 32 (32+z.length)),(18,.s (E (7,0)) 32 (32+T.length)),(20,.g (dg y)),(19,.p (E (6,8))),(17,.g (dg x)),(16,pt 6),(3,pt 6)],by rw[mE v.length 33];rfl,?_⟩;show kJ B m8 f5.ntmps O6 [6] _ [7] ([(22,.s (E (9,0)) 33 (v.length+33)),(21,.s (E (8,0)) 32 (32+z.length)),(18,.s (E (7,0)) 32 (32+T.length)),(20,.g (dg y)),(19,.p (E (6,8))),(17,.g (dg x)),(16,pt 6),(3,pt 6)]) (M5 tg te tk tq tc tt ev th [⟨.lit (oB x y),36⟩,RW x T,RW y z,⟨.ws .u8 (((y:Int)%2)::(bL x++v)),5⟩]);refine iS [7] [] (b:=[(4,.s (E (9,0)) 33 (v.length+33)),(22,.s (E (9,0)) 33 (v.length+33)),(21,.s (E (8,0)) 32 (32+z.length)),(18,.s (E (7,0)) 32 (32+T.length)),(20,.g (dg y)),(19,.p (E (6,8))),(17,.g (dg x)),(16,pt 6),(3,pt 6)]) (p:=[]) I K ?_;refine kJ.done ?_;refine Ev.fq [3,4] ?_;show Ev B m8 5 f5.ntmps 6 [] (jM 6 B5) [(3,pt 6),(4,.s (E (9,0)) 33 (v.length+33))] (M5 tg te tk tq tc tt ev th [⟨.lit (oB x y),36⟩,RW x T,RW y z,⟨.ws .u8 (((y:Int)%2)::(bL x++v)),5⟩]) _;refine fk (eB ma) (aSb v.length _) K ?_;refine Ev.eq (t':= .code (.region 7 (opsOf 7 B5) G)::jM 7 B5) I K K ?_;refine tX [6,9,11] (List.range 25) iZ ni I K K ?_;refine iS [0,1,2,3,4,5,6,7] [8,9,10,11,12,13,14,15,16,17,18,19,20,21,22,23,24] (b:=[(30,.g (dg x)),(29,pt 6),(28,.s (E (9,1)) 32 (v.length+32)),(27,.s (E (9,0)) 33 (v.length+33)),(26,.b A),(25,.b A),(24,.i .i64 33),(23,.s (E (9,0)) 33 (v.length+33)),(3,pt 6),(4,.s (E (9,0)) 33 (v.length+33))]) (p:=[G,G,G]) I K ?_;refine ko (g:=21) (L:=[.g (dg x)]) (d:=E 31) I yU ((Nu x).lift (gl:=oD) (m:=(M5 tg te tk tq tc tt ev th [⟨.lit (oB x y),36⟩,RW x T,RW y z,⟨.ws .u8 (((y:Int)%2)::(bL x++v)),5⟩])) [] dD J (λg i h=>by cases h) K) ?_;rintro r u⟨C,e,⟨s,rfl,rfl⟩,_,rfl,rfl⟩_;refine⟨K,(λb H f=>by simp only[kh,lO,lN]at H;rcases H with rfl|rfl|rfl<;>first|rfl|exact absurd f (JF (mi K))),[(31,.s (E (10,0)) 32 (32+s.length)),(30,.g (dg x)),(29,pt 6),(28,.s (E (9,1)) 32 (v.length+32)),(27,.s (E (9,0)) 33 (v.length+33)),(26,.b A),(25,.b A),(24,.i .i64 33),(23,.s (E (9,0)) 33 (v.length+33)),(3,pt 6),(4,.s (E (9,0)) 33 (v.length+33))],K,?_⟩;show kJ B m8 f5.ntmps O7 [6,9,11] _ [9,10,11,12,13,14,15,16,17,18,19,20,21,22,23,24] ([(31,.s (E (10,0)) 32 (32+s.length)),(30,.g (dg x)),(29,pt 6),(28,.s (E (9,1)) 32 (v.length+32)),(27,.s (E (9,0)) 33 (v.length+33)),(26,.b A),(25,.b A),(24,.i .i64 33),(23,.s (E (9,0)) 33 (v.length+33)),(3,pt 6),(4,.s (E (9,0)) 33 (v.length+33))]) (M5 tg te tk tq tc tt ev th [⟨.lit (oB x y),36⟩,RW x T,RW y z,⟨.ws .u8 (((y:Int)%2)::(bL x++v)),5⟩,RW x s])
  refine ko (g:=22) (L:=[.s (E (9,1)) 32 (v.length+32),.s (E (10,0)) 32 (32+s.length)]) (d:=E 32) I RS ((azf (o:=1) (c:=v.length+32) (d:=32+s.length) (H:=((y:Int)%2)::(bL x++v)) (p:=bL x++s) (T:=5) (R:=5) (by rw[eI,gw,lL];omega) (by rw[gw,lL];omega) (by
    show(bL x++v).take 32=(bL x++s).take 32
    rw[jO (lL x),jO (lL x)])).lift (gl:=oD) (m:=(M5 tg te tk tq tc tt ev th [⟨.lit (oB x y),36⟩,RW x T,RW y z,⟨.ws .u8 (((y:Int)%2)::(bL x++v)),5⟩,RW x s])) [9,10] ⟨K,K,K,K,dD⟩ J (λg i h=>by cases h) K) ?_
  rintro r u⟨C,e,⟨rfl,rfl⟩,_,rfl,rfl⟩_;refine⟨K,(λb H f=>by simp only[kh,lO,lN]at H;rcases H with rfl|rfl|rfl<;>first|rfl|exact absurd f (JF (mi K))),[(32,.b G),(31,.s (E (10,0)) 32 (32+s.length)),(30,.g (dg x)),(29,pt 6),(28,.s (E (9,1)) 32 (v.length+32)),(27,.s (E (9,0)) 33 (v.length+33)),(26,.b A),(25,.b A),(24,.i .i64 33),(23,.s (E (9,0)) 33 (v.length+33)),(3,pt 6),(4,.s (E (9,0)) 33 (v.length+33))],K,?_⟩;show kJ B m8 f5.ntmps O7 [6,9,11] _ [10,11,12,13,14,15,16,17,18,19,20,21,22,23,24] ([(32,.b G),(31,.s (E (10,0)) 32 (32+s.length)),(30,.g (dg x)),(29,pt 6),(28,.s (E (9,1)) 32 (v.length+32)),(27,.s (E (9,0)) 33 (v.length+33)),(26,.b A),(25,.b A),(24,.i .i64 33),(23,.s (E (9,0)) 33 (v.length+33)),(3,pt 6),(4,.s (E (9,0)) 33 (v.length+33))]) (M5 tg te tk tq tc tt ev th [⟨.lit (oB x y),36⟩,RW x T,RW y z,⟨.ws .u8 (((y:Int)%2)::(bL x++v)),5⟩,RW x s]);refine iS [10,11,12,13,14,15,16,17,18] [19,20,21,22,23,24] (b:=[(41,.g (dg y)),(40,.p (E (6,8))),(39,.i .u8 (eA .and .u8 ((((y:Int)%2)::(bL x++v)).getD 0 0) 1)),(38,.i .u8 ((((y:Int)%2)::(bL x++v)).getD 0 0)),(37,pt 9),(36,.s (E (9,0)) 33 (v.length+33)),(35,.b A),(34,.b A),(33,.b A),(32,.b G),(31,.s (E (10,0)) 32 (32+s.length)),(30,.g (dg x)),(29,pt 6),(28,.s (E (9,1)) 32 (v.length+32)),(27,.s (E (9,0)) 33 (v.length+33)),(26,.b A),(25,.b A),(24,.i .i64 33),(23,.s (E (9,0)) 33 (v.length+33)),(3,pt 6),(4,.s (E (9,0)) 33 (v.length+33))]) (p:=[G,D (0<(((y:Int)%2)::(bL x++v)).length),G]) I (by rw[fG (show 0<(((y:Int)%2)::(bL x++v)).length by rw[eI];omega)];rfl) ?_;refine ko (g:=21) (L:=[.g (dg y)]) (d:=E 42) I yU ((Nu y).lift (gl:=oD) (m:=(M5 tg te tk tq tc tt ev th [⟨.lit (oB x y),36⟩,RW x T,RW y z,⟨.ws .u8 (((y:Int)%2)::(bL x++v)),5⟩,RW x s])) [] dD J (λg i h=>by cases h) K) ?_;rintro r u⟨C,e,⟨j,rfl,rfl⟩,_,rfl,rfl⟩_;refine⟨K,(λb H f=>by simp only[kh,lO,lN]at H;rcases H with rfl|rfl|rfl<;>first|rfl|exact absurd f (JF (mi K))),[(42,.s (E (11,0)) 32 (32+j.length)),(41,.g (dg y)),(40,.p (E (6,8))),(39,.i .u8 (eA .and .u8 ((((y:Int)%2)::(bL x++v)).getD 0 0) 1)),(38,.i .u8 ((((y:Int)%2)::(bL x++v)).getD 0 0)),(37,pt 9),(36,.s (E (9,0)) 33 (v.length+33)),(35,.b A),(34,.b A),(33,.b A),(32,.b G),(31,.s (E (10,0)) 32 (32+s.length)),(30,.g (dg x)),(29,pt 6),(28,.s (E (9,1)) 32 (v.length+32)),(27,.s (E (9,0)) 33 (v.length+33)),(26,.b A),(25,.b A),(24,.i .i64 33),(23,.s (E (9,0)) 33 (v.length+33)),(3,pt 6),(4,.s (E (9,0)) 33 (v.length+33))],K,?_⟩;show kJ B m8 f5.ntmps O7 [6,9,11] _ [20,21,22,23,24] ([(42,.s (E (11,0)) 32 (32+j.length)),(41,.g (dg y)),(40,.p (E (6,8))),(39,.i .u8 (eA .and .u8 ((((y:Int)%2)::(bL x++v)).getD 0 0) 1)),(38,.i .u8 ((((y:Int)%2)::(bL x++v)).getD 0 0)),(37,pt 9),(36,.s (E (9,0)) 33 (v.length+33)),(35,.b A),(34,.b A),(33,.b A),(32,.b G),(31,.s (E (10,0)) 32 (32+s.length)),(30,.g (dg x)),(29,pt 6),(28,.s (E (9,1)) 32 (v.length+32)),(27,.s (E (9,0)) 33 (v.length+33)),(26,.b A),(25,.b A),(24,.i .i64 33),(23,.s (E (9,0)) 33 (v.length+33)),(3,pt 6),(4,.s (E (9,0)) 33 (v.length+33))]) (M5 tg te tk tq tc tt ev th [⟨.lit (oB x y),36⟩,RW x T,RW y z,⟨.ws .u8 (((y:Int)%2)::(bL x++v)),5⟩,RW x s,RW y j]);refine iS [20,21,22,23,24] [] (b:=[(47,.b ((eA .and .u8 ((((y:Int)%2)::(bL x++v)).getD 0 0) 1)!=(eA .and .u8 ((bL y++j).getD 31 0) 1))),(46,.b ((eA .and .u8 ((((y:Int)%2)::(bL x++v)).getD 0 0) 1)!=(eA .and .u8 ((bL y++j).getD 31 0) 1))),(45,.i .u8 (eA .and .u8 ((bL y++j).getD 31 0) 1)),(44,.i .u8 ((bL y++j).getD 31 0)),(43,.p (E (11,31))),(42,.s (E (11,0)) 32 (32+j.length)),(41,.g (dg y)),(40,.p (E (6,8))),(39,.i .u8 (eA .and .u8 ((((y:Int)%2)::(bL x++v)).getD 0 0) 1)),(38,.i .u8 ((((y:Int)%2)::(bL x++v)).getD 0 0)),(37,pt 9),(36,.s (E (9,0)) 33 (v.length+33)),(35,.b A),(34,.b A),(33,.b A),(32,.b G),(31,.s (E (10,0)) 32 (32+s.length)),(30,.g (dg x)),(29,pt 6),(28,.s (E (9,1)) 32 (v.length+32)),(27,.s (E (9,0)) 33 (v.length+33)),(26,.b A),(25,.b A),(24,.i .i64 33),(23,.s (E (9,0)) 33 (v.length+33)),(3,pt 6),(4,.s (E (9,0)) 33 (v.length+33))]) (p:=[G,D (31<(bL y++j).length)]) I (by rw[fG (show 31<(bL y++j).length by rw[gw,lL];omega)];rfl) ?_;refine kJ.done ?_;refine Ev.fq [3,4,47] ?_;have l:(bL y++j).getD 31 0=iI y 0 0:=K;have P:((((y:Int)%2)::(bL x++v)).getD 0 0)=(y:Int)%2:=K;obtain⟨q1,S,M⟩:=aur y
  have w:(((eA .and .u8 ((((y:Int)%2)::(bL x++v)).getD 0 0) 1)!=(eA .and .u8 ((bL y++j).getD 31 0) 1))==A)=G:=by rw[l,P,atx O O,atx S M,q1,nY,uH];omega
  refine fH (eB ma) (aMq _ v.length _) (by rw[w];rfl) K K Si ((aqh (tg:=tg) (te:=te) (tk:=tk) (tq:=tq) (tc:=tc) (tt:=tt) (tb:=5) (ev:=ev) (th:=th) (xs:=((y:Int)%2)::(bL x++v)) (n:=v.length) p L q (by rw[eI,gw,lL];omega) K (λk R=>by
    rw[mE];show(bL x++v).getD k 0=_
    exact xG (by rw[lL];exact R))).lift (gl:=oD) (m:=(M5 tg te tk tq tc tt ev th [⟨.lit (oB x y),36⟩,RW x T,RW y z,⟨.ws .u8 (((y:Int)%2)::(bL x++v)),5⟩,RW x s,RW y j])) [0,1,2,3,4,5,9] ⟨K,K,K,K,K,K,K,K,K,K,K,K,K,K,dD⟩ J ala K) K ?_
  rintro r u⟨C,e,⟨rfl,rfl⟩,_,rfl,rfl⟩_;refine⟨_,K,?_⟩;refine fH (eB ma) (aEq x y v.length _ _ _ _ _ _ _) K K K RI ((aub L Q).lift (gl:=oD) (m:=(M5 tg te tk tq tc tt ev th [⟨.lit (oB x y),36⟩,RW x T,RW y z,⟨.ws .u8 (((y:Int)%2)::(bL x++v)),5⟩,RW x s,RW y j,⟨.ws .u8 (bL x),5⟩,⟨.ws .u8 (bL y),5⟩])) [12,13] ⟨K,K,K,K,dD⟩ J (λg i h=>by cases h) K) K ?_;rintro r u⟨C,e,⟨rfl,rfl⟩,_,rfl,rfl⟩_;refine⟨_,K,?_⟩;exact gB (eB ma) (aGn _ _ _ _) K K ⟨K,_,K⟩
end
def R9{k:Nat}(R:k<65536){z:Nat->Int}(C: ∀j,j<30->z j=0)(s:z 30=((k/256:Nat):Int))(l:z 31=((k%256:Nat):Int)): ∀j,j<32->z j=(bL k).getD j 0:=by
  have a: ∀i,1<=i->sh k i=0:=by
    intro i g
    induction i with
    |zero=>omega
    |succ i v=>
     show sh k i/4294967296=0;by_cases h:i=0
     .subst h;show k/4294967296=0;omega
     .rw [v O]
  have T: ∀i r,1<=i->iI k i r=0:=λi r g=>by unfold iI fL;rw[a i g];simp
  have t:fL k 0=(k:Int):=by show((k%4294967296:Nat):Int)=_;omega
  have d:iI k 0 3=0:=by unfold iI;rw[t];show(k:Int)/16777216%256=0;omega
  have u:iI k 0 2=0:=by unfold iI;rw[t];show(k:Int)/65536%256=0;omega
  have b:iI k 0 1=((k/256:Nat):Int):=by unfold iI;rw[t];show(k:Int)/256%256=_;omega
  have c:iI k 0 0=((k%256:Nat):Int):=by unfold iI;rw[t];show(k:Int)/1%256=_;omega
  have e:bL k=lc 30 0++[((k/256:Nat):Int),((k%256:Nat):Int)]:=by unfold bL;simp only[T 7 _ J,T 6 _ J,T 5 _ J,T 4 _ J,T 3 _ J,T 2 _ J,T 1 _ J,d,u,b,c];rfl
  intro j H;rw[e];by_cases h:j<30
  .rw [C j h,xG (by rw[fJ];exact h)];rw[ie,YZ,if_pos h];rfl
  .have:j=30∨j=31:=O;rcases this with rfl|rfl
   .rw [s];rfl
   .rw [l];rfl
def aao(k:Nat):Xy k<115792089237316195423570985008687907853269984665640564039457584007913129639936:=by have S:pN<115792089237316195423570985008687907853269984665640564039457584007913129639936:=J;exact fI (iD _ J) S
section
variable{tg te tk tq tc tt:es}{ev:Addr}{th:Int}{w0:ii}{oa:Option Addr}{n cap:Nat}{z:Nat->Int}
def aOy(b:4<th)(hM: ∀w,TF w0 w-> ∃q,jA q (M5 tg te tk tq tc tt ev th []) w/\OQ q oD 6)
    (hd:n=32->32<=cap/\ ∃l,oa=E l/\ ∀k,k<32->w0.cell? (l.add k)=E (.int .u8 (z k)))(o: ∀k,k<32->0<=z k/\z k<256):
    Calls B 5 #[.slice oa n cap] w0 (λen S=>en= .returned (.bool G)/\TF w0 S):=by
  refine lu.of (C:=m7) (fn:=f5) (c:=B5) (args:=[dV oa n cap]) (a:=[.slice oa n cap]) (λ_=>rfl) I I I (λ_=>rfl) ?_;refine lu.run (eB jb) (aIm oa n cap) K ?_;refine lu.at B5 1 1 3 (.i .i64 (n:Int)) (k:=dF 1 2 B5 []) I I I K (λq a w u he hg=>yI (x:= .tmp 8) I (vu he hg (.tmp 8) (dV oa n cap) K)) K ?_;by_cases f:(n:Int)>2147483647
  .exact pD (eB jb) (aEg n _) (by rw[fG f];rfl) K (λq S u=>⟨K,u⟩)
  refine lu.run (eB jb) (aQf oa n cap) (by rw[nB f];rfl) ?_
  refine lu.call (g:=18) (vs:=[dV oa n cap]) (d:=E 12) (r:= .b (fits n z)) I Sb (λq w u=>ayi (w0:=w) (λh=>by
    obtain⟨h1,l,h2,h3⟩:=hd h
    exact⟨h1,l,h2,λk T=>qK u (h3 k T)⟩)) (λ_ _=>rfl) K K K ?_
  by_cases e:W7 n z
  .rw [Tp e];obtain⟨H,M,i⟩:=e;obtain⟨aa,l,rfl,hc⟩:=hd H;subst H;have ae:=o 30 J;have ac:=o 31 J;obtain⟨k,T⟩: ∃k:Nat,(k:Int)=z 30*256+z 31:=⟨(z 30*256+z 31).toNat,O⟩
   have R:1<=k:=by
     rcases np k with h|h
     .exact absurd ⟨O,O⟩ i
     .exact h
   have p:k<65536:=O;obtain⟨p1,p2⟩:=pts R p;have P:=R9 p M O O;refine lu.run (t:=dF 3 2 B5 []) (eB jb) (aLi (E l) 32 cap) K ?_;have y:k<BD:=fI p J;refine lu.call (g:=19) (vs:=[dV (E l) 32 cap]) (d:=E 15) (r:= .g (oB (Xy k) (YN k))) I TE (λq w u=>(aav (e:=w) y p1 (λj hj=>qK u (hc j hj)) P).mono λen S h=>⟨h.1 q,h.2⟩) (λ_ _=>rfl) K K K ?_;refine lu.fq [15] ?_;refine lu.aQk (C':=m8) (s:=M5 tg te tk tq tc tt ev th []) (Q:=λr m=>r= .b G/\ ∃F,m=M5 tg te tk tq tc tt ev th []++F) hM ?_ ?_ ?_ K ?_
   .intro t v hv;have s:(bif Nat.beq 15 t then E (V.g (oB (Xy k) (YN k)))else N)=E v:=hv;cases hb:Nat.beq 15 t with
    |true=>rw[hb]at s;cases s;intro q ab;rfl
    |false=>rw[hb]at s;cases s
   .intro x L;simp only[kh,lO,lN]at L;rcases L with rfl|rfl|rfl|rfl|rfl|rfl<;>rfl
   .rintro r m'⟨rfl,F,rfl⟩;exact⟨F,K,λq S u=>⟨K,u⟩⟩
   .exact HI p2 (aao k) b
  .rw [F0 e];exact pD (t:=dF 3 2 B5 []) (eB jb) (aDj _) K K (λq S u=>⟨K,u⟩)
end
def DF(s k:Nat):Nat:=match k with
  |0=>1|1=>5|2=>4|3=>7|4=>3|5=>11|k+6=>s+k
def aHf{n:Addr}{l:Int}{R F M T m a:es}(h0:w.heap[1]?=E (.cells #[.iface 253 (.pointer (E n))] R (0,0)))(h1:w.heap[5]?=E (.cells #[.int .i64 12] F (0,0)))(h2:w.heap[4]?=E (.cells #[.int .i64 l] M (0,0)))(h3:w.heap[7]?=E (.cells #[.int .i64 40] T (0,0)))(S:w.heap[3]?=E (.cells (mn.map (ip.int .u32)).toArray m (0,0)))(H:w.heap[11]?=E (.cells (jJ.map (ip.int .u8)).toArray a (0,0))): ∃q,jA q (M5 R F M T m a n l []) w/\OQ q oD 6:=by
  have C: ∀{b:Nat}{o:Obj},w.heap[b]?=E o->b<w.heap.size:=λh=>(Co.1 h).1
  have f: ∀(k:Nat)(x:dI),(M5 R F M T m a n l [])[k]?=E x->x.c.live=G:=λk x L=>by
    match k,L with
    |0,L=>cases L;rfl
    |1,L=>cases L;rfl
    |2,L=>cases L;rfl
    |3,L=>cases L;rfl
    |4,L=>cases L;rfl
    |5,L=>cases L;rfl
    |k+6,L=>cases L
  refine⟨DF w.heap.size,⟨λk x L=>?_,λi j x y c L Q s z=>?_,λk hk=>?_,λj=>?_⟩,?_⟩
  .rw [uz.kA (f k x L)]
   match k,L with
   |0,L=>cases L;exact h0
   |1,L=>cases L;exact h1
   |2,L=>cases L;exact h2
   |3,L=>cases L;exact h3
   |4,L=>
    cases L;show w.heap[3]?=E (.cells (dZ _ (eH.ws .u32 mn).list).toArray m (0,0));rw[kN];exact S
   |5,L=>
    cases L;show w.heap[11]?=E (.cells (dZ _ (eH.ws .u8 jJ).list).toArray a (0,0));rw[kN];exact H
   |k+6,L=>cases L
  .rw [fp.kA (f i x L)]at s;rw[fp.kA (f j y Q)]at z;have hi:i<6:=(fQ.1 L).1;have hj:j<6:=(fQ.1 Q).1;have e:DF w.heap.size i=DF w.heap.size j:=s.symm.trans z
   match i,j,hi,hj with
   |0,0,_,_|1,1,_,_|2,2,_,_|3,3,_,_|4,4,_,_|5,5,_,_=>rfl
   |0,1,_,_|0,2,_,_|0,3,_,_|0,4,_,_|0,5,_,_=>exact absurd e (by simp[DF])
   |1,0,_,_|1,2,_,_|1,3,_,_|1,4,_,_|1,5,_,_=>exact absurd e (by simp[DF])
   |2,0,_,_|2,1,_,_|2,3,_,_|2,4,_,_|2,5,_,_=>exact absurd e (by simp[DF])
   |3,0,_,_|3,1,_,_|3,2,_,_|3,4,_,_|3,5,_,_=>exact absurd e (by simp[DF])
   |4,0,_,_|4,1,_,_|4,2,_,_|4,3,_,_|4,5,_,_=>exact absurd e (by simp[DF])
   |5,0,_,_|5,1,_,_|5,2,_,_|5,3,_,_|5,4,_,_=>exact absurd e (by simp[DF])
  .have t:k<6:=hk
   match k,t with
   |0,_=>exact C h0
   |1,_=>exact C h1
   |2,_=>exact C h2
   |3,_=>exact C h3
   |4,_=>exact C S
   |5,_=>exact C H
  .show DF w.heap.size (6+j)=_;rw[mE];rfl
  .intro g i p;unfold oD at p;cases u:Nat.beq g 1 with
   |true=>rw[u]at p;cases p;exact⟨J,(iB u).symm⟩
   |false=>
    rw[u]at p;cases v:Nat.beq g 4 with
    |true=>rw[v]at p;cases p;exact⟨J,(iB v).symm⟩
    |false=>
     rw[v]at p;cases d:Nat.beq g 7 with
     |true=>rw[d]at p;cases p;exact⟨J,(iB d).symm⟩
     |false=>
      rw[d]at p;cases P:Nat.beq g 3 with
      |true=>rw[P]at p;cases p;exact⟨J,(iB P).symm⟩
      |false=>
       rw[P]at p;cases r:Nat.beq g 11 with
       |true=>rw[r]at p;cases p;exact⟨J,(iB r).symm⟩
       |false=>rw[r]at p;cases p
section
open Go.ChangeShapes Go.WideShapes
def Mh(u:TF c w){p:MemPlace}(g:p.block<c.heap.size):c.sameAt w p:=by
  have h:=u.fq p.block g (λh=>h);cases p with
  |cell b j=>exact(show w.cell? ⟨b,j,N⟩=c.cell? ⟨b,j,N⟩by unfold ii.cell?;rw[show w.heap[b]?=c.heap[b]? from h])
  |map b=>exact h
def agz(u:TF c w){o:Array ip}(h:c.var? P n=E o):w.var? P n=E o:=by
  unfold ii.var? at h⊢;cases p:P.globalNamed n with
  |none=>rw[p]at h;cases h
  |some g=>
   rw[p]at h;simp only[Option.bind_some]at h⊢;by_cases z:g<c.heap.size
   .rw [u.fq g z (λh=>h)];exact h
   .rw [Array.getElem?_eq_none (Nat.le_of_not_lt z)]at h;cases h
def Oq(u:TF c w){a:Addr}(h:a.block<c.heap.size):w.frozen? a=c.frozen? a:=by unfold ii.frozen?;rw[u.fq a.block h (λh=>h)]
def Xa(u:TF c w)(m:MemPlace->Prop):c.keptBut w m:=by
  refine⟨u.os,u.output,λi g=>?_⟩;rw[u.fq i g (λh=>h)];cases c.heap[i]? with
  |none=>trivial
  |some o=>cases o<;>first|exact⟨K,K,K,λ_ _=>rfl⟩ |exact .inr ⟨K,K⟩ |rfl
def uI{H:Type}{enc:es×ip->H}{C:Nat->Bool}(f:laidOutB P=G)(a:TF c w):
    ∀{R:List String}{i:List (DataW H)}{b:List MemPlace},(∀n∈R,∀g t,P.globalNamed n=E g->(P.globals[g]?).map (·.type)=E t->P.readableRec t=G/\t<P.types.size)->DataW.TrodVars enc P c (λ_=>G) R i b->(∀p∈b,p.block<c.heap.size)->(∀p∈b,C p.block=G)->DataW.TrodVars enc P w C R i b
  |[],[],_,_,h,_,_=>h
  |n::R,d::s,b,y,h,z,v=>by obtain⟨g,t,o,j,p,q,M,S,l,u,r,rfl⟩:=h;obtain⟨k,Q⟩:=y n (jt ..) g t M S;refine⟨g,t,o,j,p,q,M,S,agz a l,?_,uI f a (λm e=>y m (jh _ e)) r (λx L=>z x (by simp[L])) (λx L=>v x (by simp[L])),K⟩;exact DataW.trod_stays (kids_book f k) (book_sized k) (λh=>by cases h) ⟨Q,book_self t⟩ u (λx L=>Mh a (z x (by simp[L]))) (λx L=>v x (by simp[L]))
  |[],_::_,_,_,h,_,_=>h.elim
  |_::_,[],_,_,h,_,_=>h.elim
end
section
open Go.ChangeShapes Go.WideShapes
def Q8{H:Type}{enc:es×ip->H}{d:Nat}{C:Nat->Bool}{y:Bool}{j:Nat}{t e:es}{n:Nat}{k:U}{o:List ip}{F:List Int}{p:List MemPlace}(r:P.underlying t=E (.array n e))(v:P.underlying e=E (.int k))(s:P.cellsOf e=1)(u:P.cellsOf t=n)(x:F.length=n)(h:DataW.trod enc P w d C y j t o=E (.agg (F.map λz=> .lit (.int k z)),p)):o=F.map (ip.int k):=by
  obtain⟨b,m,_,L,f,c,g⟩:=DataW.trod_array r h;simp only[ef,DataW.agg.injEq]at L;obtain⟨L,_⟩:=L;refine List.ext_getElem (by rw[f,u,pc,x]) λi M h2=>?_
  have q:i<n:=by rw[f,u]at M;exact M
  have l:=g i q;rw[s,jq,uX M,Gu,tF,jr O]at l;obtain⟨z,T,S,_⟩:=DataW.trod_int v l;have Q:o[i]=ip.int k z:=by simpa using T
  have R:(b.map (·.1))[i]'(by rw[pc];omega)= .lit (.int k z):=by rw[KN,S]
  have a:(F.map λz=>(DataW.lit (.int k z):DataW H))[i]'(by rw[pc];omega)= .lit (.int k z):=by simp only[L]at*;exact R
  rw[KN]at a;simp only[DataW.lit.injEq,Lit.int.injEq,fV]at a;rw[Q,KN,a]
def HX{d:DataW Unit}: ∀{l:List (String×DataW Unit)}{b:List MemPlace},DataW.LaidVars P w l b->(n,d)∈l->
    ∃g t o j p,P.globalNamed n=E g/\(P.globals[g]?).map (·.type)=E t/\w.var? P n=E o/\DataW.trod (λ_=>()) P w 0 (λ_=>G) A j t o.toList=E (d,p)/\ ∀x∈MemPlace.row ⟨g,0,N⟩ o.size,x∈b
  |(Q,R)::r,b,h,e=>by
   obtain⟨g,t,o,j,p,q,M,S,k,u,i,rfl⟩:=h;rcases kh.1 e with C|C
   .cases C;exact⟨g,t,o,j,p,M,S,k,u,λx L=>FD _ (FD _ L)⟩
   .obtain⟨m,a,c,f,s,F,y,H,z,v⟩:=HX i C;exact⟨m,a,c,f,s,F,y,H,z,λx L=>JG _ (v x L)⟩
end
section
open Go.ChangeShapes Go.WideShapes
def xg{l:List (String×DataW Unit)}(h:laidMet P l w){d:DataW Unit}(x:(n,d)∈l){g:Nat}{t:es}(z:P.globalNamed n=E g)(r:(P.globals[g]?).map (·.type)=E t){L:List ip->Prop}(Q: ∀j o p,DataW.trod (λ_=>()) P w 0 (λ_=>G) A j t o=E (d,p)->(∀u v,o=[.iface u v]->ip.okWide P w .any 0 u v)->L o/\o.length≠0)(m: ∀j o p,DataW.trod (λ_=>()) P w 0 (λ_=>G) A j t o=E (d,p)->o.length≠0):
    ∃o a,w.heap[g]?=E (.cells o a (0,0))/\L o.toList:=by
  obtain⟨b,S,_,C⟩:=h;obtain⟨g',a,o,j,p,F,a2,H,M,T⟩:=HX S x;obtain rfl:=zL (z.symm.trans F);obtain rfl:=zL (r.symm.trans a2);have i:=m j o.toList p M
  have q:MemPlace.cell g 0∈b:=T _ (by
    simp only[MemPlace.row,Mc,AA]
    exact⟨0,by rw[JP]at i;omega,Y⟩)
  obtain⟨⟨c,k,s⟩,y⟩:=C g 0 q
  have R:c=o:=by unfold ii.var? at H;rw[F]at H;simp only[Option.bind_some,s]at H;exact zL H
  subst R;refine⟨c,k,s,(Q j c.toList p M λu v f=>y u v ?_).1⟩
  have:w.cell? ⟨g,0,N⟩=c[0]?:=by unfold ii.cell?;rw[s];simp
  rw[this];have e:c.toList[0]?=E (.iface u v):=by rw[f];rfl
  simpa using e
abbrev nC:List (String×DataW Unit):=Rows.fnPackedRow.laid
def Kh(h:laidMetH B nC w):laidMet B nC w:=h
def un3:B.underlying 3=E (.int .i64):=I
def Ct{v:Int}{g:Nat}(h:laidMet B nC w)(d:(n,(.lit (.int .i64 v):DataW Unit))∈nC)(c:B.globalNamed n=E g)(r:(B.globals[g]?).map (·.type)=E 3): ∃a,w.heap[g]?=E (.cells #[.int .i64 v] a (0,0)):=by
  have b: ∀j o p,DataW.trod (λ_=>()) B w 0 (λ_=>G) A j 3 o=E (.lit (.int .i64 v),p)->o=[.int .i64 v]:=λj o p P=>by obtain⟨u,T,f,_⟩:=DataW.trod_int un3 P;simp only[ef,DataW.lit.injEq,Lit.int.injEq,fV]at f;rw[T,<-f.1]
  obtain⟨o,a,M,S⟩:=xg h d c r (L:=λo=>o=[.int .i64 v]) (λj o p P _=>⟨b j o p P,by rw[b j o p P];simp⟩) (λj o p P=>by rw[b j o p P];simp);refine⟨a,?_⟩
  have e:o= #[.int .i64 v]:=by have:o=o.toList.toArray:=Y;rw[this,S]
  rw[M,e]
end
section
open Go.ChangeShapes Go.WideShapes
def Mz:("*errors.errorString" :String)= "*" ++ "errors.errorString" :=J
def acx(u:es)(h:B.typeName? 3 u=E "*errors.errorString"):u=253:=
  typeName_ptr_named (nm:= "errors.errorString") (by rw[<-Mz];kernel_rfl) I J u (by rw[<-Mz];exact h)
def azi:B.underlying 48=E (.interface (B.methodsAt 48)):=I
def arl:B.underlying 253=E (.pointer 288):=I
def ape:B.underlying 288=E (.struct #[{name:= "s",type:=9,offset:=0,embedded:=A,tag:= "",pkgPath:= "errors",byteOffset:=0}]):=I
def aql:B.underlying 165=E (.array 72 26):=I
def akm:B.underlying 232=E (.array 64 5):=I
def aCc:B.underlying 26=E (.int .u32):=I
def UJ(h:laidMet B nC w): ∃b f,w.heap[1]?=E (.cells #[.iface 253 (.pointer (E b))] f (0,0)):=by
  have c:B.cellsOf 288=1:=I;have q:B.cellsOf 9=1:=I
  have m: ∀j o p,DataW.trod (λ_=>()) B w 0 (λ_=>G) A j 48 o=E (Rows.laid_io_EOF,p)->o.length≠0:=λj o p P=>by obtain⟨_,u,v,rfl,_,_⟩:=iface_of_trod azi P;simp
  obtain⟨o,f,M,b,S⟩:=xg (g:=1) (t:=48) h (n:= "io.EOF") (d:=Rows.laid_io_EOF) (by simp[nC,Rows.fnPackedRow]) I I (L:=λo=> ∃b,o=[.iface 253 (.pointer (E b))]) (λj o p P x=>by
    obtain⟨a,s,e,_⟩:=errorString_of_trod azi acx arl ape K K un9 c q P x
    exact⟨⟨a,e⟩,m j o p P⟩) m
  refine⟨b,f,?_⟩
  have e:o= #[.iface 253 (.pointer (E b))]:=by have:o=o.toList.toArray:=Y;rw[this,S]
  rw[M,e]
def Hq{d:DataW Unit}{g T:Nat}{t e:es}{k:U}{F:List Int}(h:laidMet B nC w)(i:(n,d)∈nC)(q:d= .agg (F.map λz=> .lit (.int k z)))(l:B.globalNamed n=E g)(r:(B.globals[g]?).map (·.type)=E t)(f:B.underlying t=E (.array T e))(m:B.underlying e=E (.int k))(s:B.cellsOf e=1)(u:B.cellsOf t=T)(o:F.length=T)(C:T≠0): ∃a,w.heap[g]?=E (.cells (F.map (ip.int k)).toArray a (0,0)):=by
  subst q;have b: ∀j c p,DataW.trod (λ_=>()) B w 0 (λ_=>G) A j t c=E (.agg (F.map λz=> .lit (.int k z)),p)->c=F.map (ip.int k):=λj c p P=>Q8 f m s u o P
  obtain⟨c,a,M,S⟩:=xg h i l r (L:=λc=>c=F.map (ip.int k)) (λj c p P _=>⟨b j c p P,by rw[b j c p P,pc];omega⟩) (λj c p P=>by rw[b j c p P,pc];omega);refine⟨a,?_⟩
  have e:c=(F.map (ip.int k)).toArray:=by have:c=c.toList.toArray:=Y;rw[this,S]
  rw[M,e]
def Un(C:laidMetH B nC w): ∃(c:Addr)(R a M T m Q:es),∀S,TF w S-> ∃q,jA q (M5 R a M T m Q c 40 []) S/\OQ q oD 6:=by
  have h:=Kh C;obtain⟨c,R,j⟩:=UJ h;obtain⟨a,F⟩:=Ct (n:= "given.example/pub-waxwright/pub/bigall.basicSqrThreshold") (v:=12) (g:=5) h (by simp[nC,Rows.fnPackedRow,Rows.laid_given_example_pub_waxwright_pub_bigall_basicSqrThreshold]) I I;obtain⟨M,y⟩:=Ct (n:= "given.example/pub-waxwright/pub/bigall.divRecursiveThreshold") (v:=40) (g:=4) h (by simp[nC,Rows.fnPackedRow,Rows.laid_given_example_pub_waxwright_pub_bigall_divRecursiveThreshold]) I I;obtain⟨T,f⟩:=Ct (n:= "given.example/pub-waxwright/pub/bigall.karatsubaThreshold") (v:=40) (g:=7) h (by simp[nC,Rows.fnPackedRow,Rows.laid_given_example_pub_waxwright_pub_bigall_karatsubaThreshold]) I I;obtain⟨m,e⟩:=Hq (n:= "given.example/pub-waxwright/pub/gmsmt/sm2.sm2P256Carry") (d:=Rows.laid_given_example_pub_waxwright_pub_gmsmt_sm2_sm2P256Carry) (g:=3) (F:=mn) (k:= .u32) h (by simp[nC,Rows.fnPackedRow]) I I I aql aCc I I I J;obtain⟨Q,p⟩:=Hq (n:= "math/bits.deBruijn64tab") (d:=Rows.laid_math_bits_deBruijn64tab) (g:=11) (F:=jJ) (k:= .u8) h (by simp[nC,Rows.fnPackedRow]) I I I akm un5 I I I J;refine⟨c,R,a,M,T,m,Q,λS u=>?_⟩
  have i: ∀{b:Nat}{o:Obj},w.heap[b]?=E o->S.heap[b]?=E o:=λ{b o}H=>by rw[u.fq b (Co.1 H).1 (λh=>h)];exact H
  exact aHf (i j) (i F) (i y) (i f) (i e) (i p)
end
section
open Go.ChangeShapes Go.WideShapes Go.RowKit
section
variable{H:Type}{enc:es×ip->H}{P:Program}
def Vr{f:Func}{s:ChangeSpec}{apart fresh handsOn again:Bool}{W W':ii}{args:Array ip}{v:ip}{ds gs:List (DataW H)}{before pa pv:List MemPlace}(hT:TF W W')
    (hW:DataW.Whole enc P f.params.toList s.vars apart W args.toList ds gs before)
    (hres: ∀(b:Nat)(sp:Nat->Bool)(hd:Bool),DataW.TrodAll enc P W' b sp hd f.resultTypes.toList (v.resultList f.resultTypes.size) (s.fn H (ds++gs)).results [])
    (hargs: ∀sp:Nat->Bool,(∀p∈before,sp p.block=G)->DataW.TrodAll enc P W' 0 sp G f.params.toList args.toList (s.fn H (ds++gs)).args pa)
    (hvars: ∀sp:Nat->Bool,(∀p∈before,sp p.block=G)->DataW.TrodVars enc P W' sp s.vars (s.fn H (ds++gs)).vars pv)
    (hps:before=pa++pv)
    (hok: ∀(j:Nat)(t:es)(r:ip),f.resultTypes[j]?=E t->(v.resultList f.resultTypes.size)[j]?=E r->ip.okWide P W' .any 0 t r):
    s.post enc P f apart fresh handsOn again W args v W':=by
  have hold: ∀p∈before,(λb=>D (b<W.heap.size)) p.block=G:=λp hp=>by simpa using hW.lt p hp
  have hlt:=λp hp=>hW.lt p hp
  refine⟨ds,gs,before,[],pa,pv,hW,hres _ _ _,hargs _ hold,hvars _ hold,Xa hT _,λ_=>?_⟩;obtain⟨_,_,_,_,_,hz,hn⟩:=hW;refine⟨hok,_,_,([]++pa)++pv,⟨[]++pa,pv,trodAll_append (hargs _ (λ_ _=>rfl)) (hres _ _ _),hvars _ (λ_ _=>rfl),K,?_,?_⟩,?_⟩
  .intro b off hp;have hb:MemPlace.cell b off∈before:=by rw[hps];simpa using hp
   rw[Oq hT (hlt _ hb)];exact hz b off hb
  .intro ha;have:=hn ha;rw[hps]at this;simpa using this
  .intro p hp _;rw[hps];simpa using hp
end
def un4:B.underlying 4=E .bool:=I
def WD: ∀n∈Rows.fnPackedSpec.vars,∀g t,B.globalNamed n=E g->(B.globals[g]?).map (·.type)=E t->B.readableRec t=G/\t<B.types.size:=by have key:(Rows.fnPackedSpec.vars.all λn=>match B.globalNamed n with|some g=>(match(B.globals[g]?).map (·.type)with|some t=>B.readableRec t&&D (t<B.types.size) |none=>G) |none=>G)=G:=I;intro n hn g t hg ht;have:=yM.1 key n hn;simp only[hg,ht,iv,eG]at this;exact this
def laidOut:laidOutB B=G:=I
def aho:B.readableRec 22=G:=I
def aui:22<B.types.size:=fU I
def aMf:ownKnob B.godebug=N:=I
def func5:B.funcs[5]?=E f5:=I
def params5:f5.params= #[22]:=I
def results5:f5.resultTypes= #[4]:=I
def Pc{H:Type}{enc:es×ip->H}(W:ii)(base:Nat)(args:Array ip)(ds gs:List (DataW H))(before:List MemPlace)
    (hval: ∀(j:Nat)t v,f5.params[j]?=E t->args[j]?=E v->ip.okWide B W .any base t v)
    (hW:DataW.Whole enc B f5.params.toList Rows.fnPackedSpec.vars A W args.toList ds gs before)(hL:laidMetH B nC W):
    Calls B 5 args W λe W'=> ∃v,e= .returned v/\Rows.fnPackedSpec.post enc B f5 A Rows.fnPackedRow.fresh Rows.fnPackedRow.handsOn Rows.fnPackedRow.again W args v W':=by
  have hW':=hW;obtain⟨p,q,hA0,hV,hpq,_,_⟩:=hW;have hA:DataW.TrodAll enc B W 0 (λ_=>G) G f5.params.toList args.toList ds p:=hA0;rw[params5]at hA hval;obtain⟨v0,d0,rfl,rfl,h0⟩:=trodAll_one hA;obtain⟨a1,len,cap,rfl⟩:=okWide_slice P7 (hval 0 22 v0 K K);obtain⟨ev,tg,te,tk,tq,tc,tt,hM⟩:=Un hL;have hlt:=λx hx=>hW'.lt x hx
  have c5:B.cellsOf 5=1:=I
  obtain⟨z,hd,hz⟩: ∃z:Nat->Int,(len=32->32<=cap/\ ∃ad,a1=E ad/\ ∀k,k<32->W.cell? (ad.add k)=E (.int .u8 (z k)))/\ ∀k,k<32->0<=z k/\z k<256:=by
    obtain⟨fuel,hf⟩:=h0;rcases open_ints P7 un5 c5 hf with⟨hcs,hx⟩ |⟨a,len',cap',zs,hcs,_,hl,hm,hzl,hx,hcell,hwz⟩
    .simp [ip.cells]at hcs;obtain⟨rfl,rfl,rfl⟩:=hcs;exact⟨λ_=>0,⟨λh=>(by cases h),λk _=>show(0:Int)<=0/\(0:Int)<256 from J⟩⟩
    .simp [ip.cells]at hcs;obtain⟨rfl,rfl,rfl⟩:=hcs;simp only[oH]at hzl;by_cases h32:len=32
     .refine⟨λk=>zs.getD k 0,λ_=>⟨O,a,K,λk hk=>hcell k O⟩,λk hk=>?_⟩;have hr:=range_u8 hwz k;rw[<-ie]at hr;exact⟨hr.1,(O:zs.getD k 0<256)⟩
     .exact⟨λ_=>0,⟨λh=>absurd h h32,λk _=>show(0:Int)<=0/\(0:Int)<256 from J⟩⟩
  refine(aOy (cap:=cap) (J:(4:Int)<40) hM hd hz).mono ?_;rintro e W'⟨rfl,hT⟩;refine⟨_,K,?_⟩
  obtain⟨g1,g2,g3,g4,g5,g6,g7,rfl⟩: ∃g1 g2 g3 g4 g5 g6 g7,gs=[g1,g2,g3,g4,g5,g6,g7]:=by
    have hlen: ∀{ns:List String}{gs:List (DataW H)}{ps:List MemPlace},DataW.TrodVars enc B W (λ_=>G) ns gs ps->gs.length=ns.length:=by
      intro ns
      induction ns with
      |nil=>intro gs ps h;cases gs with|nil=>rfl|cons _ _=>exact h.elim
      |cons n ns ih=>
       intro gs ps h;cases gs with
       |nil=>exact h.elim
       |cons d ds=>obtain⟨_,_,_,_,_,_,_,_,_,_,h5,_⟩:=h;simp[ih h5]
    have:=hlen hV
    match gs,this with
    |[g1,g2,g3,g4,g5,g6,g7],_=>exact⟨g1,g2,g3,g4,g5,g6,g7,K⟩
  refine Vr (pa:=p) (pv:=q) hT hW' ?_ ?_ ?_ hpq ?_
  .intro b sp hd;rw[results5];exact trodAll_mk1 (shut_bool un4 G)
  .intro sp hs;rw[params5];exact trodAll_mk1 (WideElems.Trod_stays laidOut aho aui h0 (λx hx=>Mh hT (hlt x (by rw[hpq];exact FD _ hx))) (λx hx=>hs x (by rw[hpq];exact FD _ hx)))
  .intro sp hs;exact uI laidOut hT WD hV (λx hx=>hlt x (by rw[hpq];exact JG _ hx)) (λx hx=>hs x (by rw[hpq];exact JG _ hx))
  .exact ok_one results5 K (okWide_bool_mk un4 G)
end
end Go.Proofs.YtiggidfngfkanaaGreatDoor
