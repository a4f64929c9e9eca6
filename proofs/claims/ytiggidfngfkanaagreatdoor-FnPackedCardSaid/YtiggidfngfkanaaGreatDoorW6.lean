/- FnPacked, part 6. No condition. -/
import Derived.Test.YtiggidfngfkanaaGreatDoorW5
namespace Go.Proofs.YtiggidfngfkanaaGreatDoor
open Go Go.Proofs.Tryz
set_option maxRecDepth 100000
set_option maxHeartbeats 4000000
set_option linter.all false
open Bool renaming false->A, true->G
open Decidable renaming decide->D
open Go renaming IntKind->U, TypeId->es
open Go.Proofs.Tryz renaming prog->B
open List renaming drop->kw, replicate->lc, take->jp
open Option renaming none->N, some->E
variable{v:Int}{Z p:List Int}{q:Nat}
noncomputable abbrev N76(R:Nat->Option Nat)(F:jB)(o:List Bool):List (Nat×jB):=put R ((107,XW)::N2 R F) 76 f76 o
def aPy:eo B 107:=ga f107
def Dh{R:Nat->Option Nat}{F:jB}{o:List Bool}(h:fl R (N1 F)):fl R (N76 R F o):=ks (L:=(107,XW)::N2 R F) ⟨⟨aPy,Yp R⟩,wG h⟩ I I I
abbrev wk(F y:List Int)(P t ty R:es)(w:jB)(S:List dI)(u:List Int)(u3 i:Int)(u4 o:Nat)(v b:Bool):Prop:=letI a:List Int×Int:=gP u3 (jp 1 (kw 0 F)) (jp 1 (kw 0 y));letI c:List Int:=dC u a.fst 0;letI d:V:= .p (E (0,0));(gi f52.results.toList (et (ep g0 (N76 g0 w [A,A,A,A]) LR) f52.ntmps N 200 [.code (dB f52)] ⟨fo 0 [d,d,.p (E (1,0))],[⟨.lit [.b A,.s (E (3,0)) 1 F.length],P⟩,⟨.lit [.b A,.s (E (2,0)) 1 y.length],t⟩,⟨.ws .u64 y,ty⟩,⟨.ws .u64 F,R⟩],[G,G],[]⟩))=(G,E d,S,[G,D ((↑(gm (λj=>(c.set 1 a.snd).getD (0+j) u3) 2):Int)>u3)==G,G,G,G,eb [D (2<4294967296/\u4<=(c.set 1 a.snd).length/\2<=o),D (1=1/\1<c.length),G,G,D (1=1/\1=1/\1<4294967296/\0+1<=o/\0+1<=F.length/\0+1<=y.length/\dG F/\dG y),D ((0:Int)<=i/\i<=(y.length:Int)),D ((0:Int)<=i/\i<=(F.length:Int)),v,b,G,G,G,G,G],G,G,G,G,G,G,G])
def QT(nz:Bool)(C:Nat)(F y:List Int)(P t ty R:es):wk F y P t ty R oK [⟨.lit [.b A,.s (E (4,0)) (gm (λj=>((dC (lc 6 (0:Int)) (gP (0:Int) (jp 1 (kw 0 F)) (jp 1 (kw 0 y))).fst 0).set 1 (gP (0:Int) (jp 1 (kw 0 F)) (jp 1 (kw 0 y))).snd).getD (0+j) (0:Int)) 2) 6],P⟩,⟨.lit [.b A,.s (E (2,0)) 1 (y.length)],t⟩,⟨.ws .u64 y,ty⟩,⟨.ws .u64 F,R⟩,⟨.ws .u64 ((dC (lc 6 (0:Int)) (gP (0:Int) (jp 1 (kw 0 F)) (jp 1 (kw 0 y))).fst 0).set 1 (gP (0:Int) (jp 1 (kw 0 F)) (jp 1 (kw 0 y))).snd),137⟩] (lc 6 (0:Int)) (0:Int) (1:Int) (0+2) 6 G (D ((F.length:Int)<(2:Int)/\(2:Int)<=(1048000:Int))):=dR
def Qo(nz:Bool)(m:Nat)(F y:List Int)(P t ty R:es):(gi f52.results.toList (et (ep g0 (N76 g0 oK [A,A,A,G]) LR) f52.ntmps N 200 [.code (dB f52)] ⟨fo 0 [.p (E (0,0)),.p (E (0,0)),.p (E (1,0))],[⟨.lit [.b A,.s (E (3,0)) (m+2) F.length],P⟩,⟨.lit [.b A,.s (E (2,0)) 1 y.length],t⟩,⟨.ws .u64 y,ty⟩,⟨.ws .u64 F,R⟩],[G,G],[]⟩))=(G,E (.p (E (0,0))),[⟨.lit [.b A,.s (E (4,0)) (gm (λj=>((dC (dC (lc (dM (U.i64.wrap ((↑(m+2):Int)+(1:Int))).toNat) (0:Int)) (gP (0:Int) (jp 1 (kw 0 F)) (jp 1 (kw 0 y))).fst 0) (iG (gP (0:Int) (jp 1 (kw 0 F)) (jp 1 (kw 0 y))).snd (jp ((↑(m+2):Int).toNat-1) (kw (eO 0 F.length 1 1) F))).fst (eO 0 (dM (U.i64.wrap ((↑(m+2):Int)+(1:Int))).toNat) 1 1)).set (↑(m+2):Int).toNat (iG (gP (0:Int) (jp 1 (kw 0 F)) (jp 1 (kw 0 y))).snd (jp ((↑(m+2):Int).toNat-1) (kw (eO 0 F.length 1 1) F))).snd).getD (0+j) (0:Int)) (U.i64.wrap ((↑(m+2):Int)+(1:Int))).toNat) (dM (U.i64.wrap ((↑(m+2):Int)+(1:Int))).toNat)],P⟩,⟨.lit [.b A,.s (E (2,0)) 1 (y.length)],t⟩,⟨.ws .u64 y,ty⟩,⟨.ws .u64 F,R⟩,⟨.ws .u64 ((dC (dC (lc (dM (U.i64.wrap ((↑(m+2):Int)+(1:Int))).toNat) (0:Int)) (gP (0:Int) (jp 1 (kw 0 F)) (jp 1 (kw 0 y))).fst 0) (iG (gP (0:Int) (jp 1 (kw 0 F)) (jp 1 (kw 0 y))).snd (jp ((↑(m+2):Int).toNat-1) (kw (eO 0 F.length 1 1) F))).fst (eO 0 (dM (U.i64.wrap ((↑(m+2):Int)+(1:Int))).toNat) 1 1)).set (↑(m+2):Int).toNat (iG (gP (0:Int) (jp 1 (kw 0 F)) (jp 1 (kw 0 y))).snd (jp ((↑(m+2):Int).toNat-1) (kw (eO 0 F.length 1 1) F))).snd),137⟩],[G,D ((↑(gm (λj=>((dC (dC (lc (dM (U.i64.wrap ((↑(m+2):Int)+(1:Int))).toNat) (0:Int)) (gP (0:Int) (jp 1 (kw 0 F)) (jp 1 (kw 0 y))).fst 0) (iG (gP (0:Int) (jp 1 (kw 0 F)) (jp 1 (kw 0 y))).snd (jp ((↑(m+2):Int).toNat-1) (kw (eO 0 F.length 1 1) F))).fst (eO 0 (dM (U.i64.wrap ((↑(m+2):Int)+(1:Int))).toNat) 1 1)).set (↑(m+2):Int).toNat (iG (gP (0:Int) (jp 1 (kw 0 F)) (jp 1 (kw 0 y))).snd (jp ((↑(m+2):Int).toNat-1) (kw (eO 0 F.length 1 1) F))).snd).getD (0+j) (0:Int)) (U.i64.wrap ((↑(m+2):Int)+(1:Int))).toNat):Int)>(0:Int))==G,G,G,G,eb [D ((U.i64.wrap ((↑(m+2):Int)+(1:Int))).toNat<4294967296/\0+(U.i64.wrap ((↑(m+2):Int)+(1:Int))).toNat<=((dC (dC (lc (dM (U.i64.wrap ((↑(m+2):Int)+(1:Int))).toNat) (0:Int)) (gP (0:Int) (jp 1 (kw 0 F)) (jp 1 (kw 0 y))).fst 0) (iG (gP (0:Int) (jp 1 (kw 0 F)) (jp 1 (kw 0 y))).snd (jp ((↑(m+2):Int).toNat-1) (kw (eO 0 F.length 1 1) F))).fst (eO 0 (dM (U.i64.wrap ((↑(m+2):Int)+(1:Int))).toNat) 1 1)).set (↑(m+2):Int).toNat (iG (gP (0:Int) (jp 1 (kw 0 F)) (jp 1 (kw 0 y))).snd (jp ((↑(m+2):Int).toNat-1) (kw (eO 0 F.length 1 1) F))).snd).length/\(U.i64.wrap ((↑(m+2):Int)+(1:Int))).toNat<=dM (U.i64.wrap ((↑(m+2):Int)+(1:Int))).toNat),D (1=1/\(↑(m+2):Int).toNat<(dC (dC (lc (dM (U.i64.wrap ((↑(m+2):Int)+(1:Int))).toNat) (0:Int)) (gP (0:Int) (jp 1 (kw 0 F)) (jp 1 (kw 0 y))).fst 0) (iG (gP (0:Int) (jp 1 (kw 0 F)) (jp 1 (kw 0 y))).snd (jp ((↑(m+2):Int).toNat-1) (kw (eO 0 F.length 1 1) F))).fst (eO 0 (dM (U.i64.wrap ((↑(m+2):Int)+(1:Int))).toNat) 1 1)).length),D ((0:Int)<=(↑(m+2):Int)/\(↑(m+2):Int)<(↑(U.i64.wrap ((↑(m+2):Int)+(1:Int))).toNat:Int)),D (m+2-1=(↑(m+2):Int).toNat-1/\0<(↑(m+2):Int).toNat-1/\(↑(m+2):Int).toNat-1<4294967296/\(↑(m+2):Int).toNat-1<=dM (U.i64.wrap ((↑(m+2):Int)+(1:Int))).toNat-1/\(↑(m+2):Int).toNat-1<=F.length-1/\(0:Int)<=(gP (0:Int) (jp 1 (kw 0 F)) (jp 1 (kw 0 y))).snd/\(gP (0:Int) (jp 1 (kw 0 F)) (jp 1 (kw 0 y))).snd<=(1:Int)/\eO 0 (dM (U.i64.wrap ((↑(m+2):Int)+(1:Int))).toNat) 1 1+((↑(m+2):Int).toNat-1)<=(dC (lc (dM (U.i64.wrap ((↑(m+2):Int)+(1:Int))).toNat) (0:Int)) (gP (0:Int) (jp 1 (kw 0 F)) (jp 1 (kw 0 y))).fst 0).length/\eO 0 F.length 1 1+((↑(m+2):Int).toNat-1)<=F.length/\dG F),ed (D (m+2<=F.length)) (D ((0:Int)<=(1:Int)/\(1:Int)<=(↑(m+2):Int))),ed (D ((0:Int)<=(↑(m+2):Int)/\(↑(m+2):Int)<=(↑(dM (U.i64.wrap ((↑(m+2):Int)+(1:Int))).toNat):Int))) (D ((0:Int)<=(1:Int)/\(1:Int)<=(↑(↑(m+2):Int).toNat:Int))),D ((↑(m+2):Int)>(1:Int))==G,D (1=1/\1=1/\1<4294967296/\0+1<=(lc (dM (U.i64.wrap ((↑(m+2):Int)+(1:Int))).toNat) (0:Int)).length/\0+1<=F.length/\0+1<=y.length/\dG F/\dG y),D ((0:Int)<=(1:Int)/\(1:Int)<=(y.length:Int)),D ((0:Int)<=(1:Int)/\(1:Int)<=(F.length:Int)),D ((0:Int)<=(1:Int)/\(1:Int)<=(↑(dM (U.i64.wrap ((↑(m+2):Int)+(1:Int))).toNat):Int)),D ((F.length:Int)<U.i64.wrap ((↑(m+2):Int)+(1:Int))/\U.i64.wrap ((↑(m+2):Int)+(1:Int))<=(1048000:Int)),G,G,G,G,G],G,G,G,G,G,G,G]):=I
def Ra(nz:Bool)(C:Nat)(F y:List Int)(P t ty R:es):letI a:List Int×Int:=gP 0 (jp 1 (kw 0 F)) (jp 1 (kw 0 y));letI c:List Int:=(dC F a.fst 0).set 1 a.snd;letI d:=(F.length:Int);wk F y P t ty R mG [⟨.lit [.b A,.s (E (3,0)) (gm (λj=>c.getD (0+j) 0) 2) (F.length)],P⟩,⟨.lit [.b A,.s (E (2,0)) 1 (y.length)],t⟩,⟨.ws .u64 y,ty⟩,⟨.ws .u64 c,R⟩] F 0 1 2 F.length (D ((0:Int)<=1/\1<=d)) (D ((0:Int)<=2/\2<=d)):=dR
def TL(nz:Bool)(m:Nat)(F y:List Int)(P b ty R:es):letI a:List Int×Int:=gP 0 (jp 1 (kw 0 F)) (jp 1 (kw 0 y));letI g:List Int:=dC F a.fst 0;letI d:Int:=(↑(m+2):Int);letI i:=d.toNat;letI e:Nat:=eO 0 F.length 1 1;letI k:List Int×Int:=iG a.snd (jp (i-1) (kw e g));letI u:=dC g k.fst e;letI c:=u.set i k.snd;letI t:dI:=⟨.ws .u64 y,ty⟩;letI f:dE:=[⟨.lit [.b A,.s (E (3,0)) (m+2) F.length],P⟩,⟨.lit [.b A,.s (E (2,0)) 1 y.length],b⟩,t,⟨.ws .u64 F,R⟩];letI h:Int:=U.i64.wrap (d+1);letI l:=(F.length:Int);letI n:Prop:=(0:Int)<=1;letI q:=h.toNat;letI o:Nat:=gm (λj=>c.getD (0+j) 0) q;letI r:V:= .p (E (0,0));letI v:Nat:=4294967296;letI w:Prop:=e+(i-1)<=g.length;letI x:Prop:=i-1<=F.length-1;(gi f52.results.toList (et (ep g0 (N76 g0 mG [A,A,A,G]) LR) f52.ntmps N 200 [.code (dB f52)] ⟨fo 0 [r,r,.p (E (1,0))],f,[G,G],[]⟩))=(G,E r,[⟨.lit [.b A,.s (E (3,0)) o (F.length)],P⟩,⟨.lit [.b A,.s (E (2,0)) 1 (y.length)],b⟩,t,⟨.ws .u64 c,R⟩],[G,D ((o:Int)>0)==G,G,G,G,eb [D (q<v/\0+q<=c.length/\q<=F.length),D (1=1/\i<u.length),D (0<=d/\d<(q:Int)),ed (D (m+2-1=i-1/\0<i-1/\i-1<v/\x/\x/\0<=a.snd/\a.snd<=1/\w/\w/\dG g)) (oU (f.set 3 ⟨.ws .u64 g,R⟩) (3,e) (3,e)),ed (D (m+2<=F.length)) (D (n/\1<=d)),ed (D (0<=d/\d<=l)) (D (n/\1<=(i:Int))),D (d>1)==G,D (1=1/\1=1/\1<v/\0+1<=F.length/\0+1<=F.length/\0+1<=y.length/\dG F/\dG y),D (n/\1<=(y.length:Int)),D (n/\1<=l),D (n/\1<=l),D (0<=h/\h<=l),G,G,G,G,G],G,G,G,G,G,G,G]):=I
def Oh(m:Nat)(H y:List Int)(P t ty R Q:es):(gi f52.results.toList (et (ep g0 (N76 g0 oK [A,A,A,G]) LR) f52.ntmps N 200 [.code (dB f52)] ⟨fo 0 [.p (E (0,0)),.p (E (1,0)),.p (E (2,0))],[⟨.lit [.b A,.s N 0 0],P⟩,⟨.lit [.b A,.s (E (3,0)) (m+2) H.length],t⟩,⟨.lit [.b A,.s (E (4,0)) 1 y.length],ty⟩,⟨.ws .u64 H,R⟩,⟨.ws .u64 y,Q⟩],[G,G],[]⟩))=(G,E (.p (E (0,0))),[⟨.lit [.b A,.s (E (5,0)) (gm (λj=>((dC (dC (lc (dM (U.i64.wrap ((↑(m+2):Int)+(1:Int))).toNat) (0:Int)) (gP (0:Int) (jp 1 (kw 0 H)) (jp 1 (kw 0 y))).fst 0) (iG (gP (0:Int) (jp 1 (kw 0 H)) (jp 1 (kw 0 y))).snd (jp ((↑(m+2):Int).toNat-1) (kw (eO 0 H.length 1 1) H))).fst (eO 0 (dM (U.i64.wrap ((↑(m+2):Int)+(1:Int))).toNat) 1 1)).set (↑(m+2):Int).toNat (iG (gP (0:Int) (jp 1 (kw 0 H)) (jp 1 (kw 0 y))).snd (jp ((↑(m+2):Int).toNat-1) (kw (eO 0 H.length 1 1) H))).snd).getD (0+j) (0:Int)) (U.i64.wrap ((↑(m+2):Int)+(1:Int))).toNat) (dM (U.i64.wrap ((↑(m+2):Int)+(1:Int))).toNat)],P⟩,⟨.lit [.b A,.s (E (3,0)) (m+2) (H.length)],t⟩,⟨.lit [.b A,.s (E (4,0)) 1 (y.length)],ty⟩,⟨.ws .u64 H,R⟩,⟨.ws .u64 y,Q⟩,⟨.ws .u64 ((dC (dC (lc (dM (U.i64.wrap ((↑(m+2):Int)+(1:Int))).toNat) (0:Int)) (gP (0:Int) (jp 1 (kw 0 H)) (jp 1 (kw 0 y))).fst 0) (iG (gP (0:Int) (jp 1 (kw 0 H)) (jp 1 (kw 0 y))).snd (jp ((↑(m+2):Int).toNat-1) (kw (eO 0 H.length 1 1) H))).fst (eO 0 (dM (U.i64.wrap ((↑(m+2):Int)+(1:Int))).toNat) 1 1)).set (↑(m+2):Int).toNat (iG (gP (0:Int) (jp 1 (kw 0 H)) (jp 1 (kw 0 y))).snd (jp ((↑(m+2):Int).toNat-1) (kw (eO 0 H.length 1 1) H))).snd),137⟩],[G,D ((↑(gm (λj=>((dC (dC (lc (dM (U.i64.wrap ((↑(m+2):Int)+(1:Int))).toNat) (0:Int)) (gP (0:Int) (jp 1 (kw 0 H)) (jp 1 (kw 0 y))).fst 0) (iG (gP (0:Int) (jp 1 (kw 0 H)) (jp 1 (kw 0 y))).snd (jp ((↑(m+2):Int).toNat-1) (kw (eO 0 H.length 1 1) H))).fst (eO 0 (dM (U.i64.wrap ((↑(m+2):Int)+(1:Int))).toNat) 1 1)).set (↑(m+2):Int).toNat (iG (gP (0:Int) (jp 1 (kw 0 H)) (jp 1 (kw 0 y))).snd (jp ((↑(m+2):Int).toNat-1) (kw (eO 0 H.length 1 1) H))).snd).getD (0+j) (0:Int)) (U.i64.wrap ((↑(m+2):Int)+(1:Int))).toNat):Int)>(0:Int))==G,G,G,G,eb [D ((U.i64.wrap ((↑(m+2):Int)+(1:Int))).toNat<4294967296/\0+(U.i64.wrap ((↑(m+2):Int)+(1:Int))).toNat<=((dC (dC (lc (dM (U.i64.wrap ((↑(m+2):Int)+(1:Int))).toNat) (0:Int)) (gP (0:Int) (jp 1 (kw 0 H)) (jp 1 (kw 0 y))).fst 0) (iG (gP (0:Int) (jp 1 (kw 0 H)) (jp 1 (kw 0 y))).snd (jp ((↑(m+2):Int).toNat-1) (kw (eO 0 H.length 1 1) H))).fst (eO 0 (dM (U.i64.wrap ((↑(m+2):Int)+(1:Int))).toNat) 1 1)).set (↑(m+2):Int).toNat (iG (gP (0:Int) (jp 1 (kw 0 H)) (jp 1 (kw 0 y))).snd (jp ((↑(m+2):Int).toNat-1) (kw (eO 0 H.length 1 1) H))).snd).length/\(U.i64.wrap ((↑(m+2):Int)+(1:Int))).toNat<=dM (U.i64.wrap ((↑(m+2):Int)+(1:Int))).toNat),D (1=1/\(↑(m+2):Int).toNat<(dC (dC (lc (dM (U.i64.wrap ((↑(m+2):Int)+(1:Int))).toNat) (0:Int)) (gP (0:Int) (jp 1 (kw 0 H)) (jp 1 (kw 0 y))).fst 0) (iG (gP (0:Int) (jp 1 (kw 0 H)) (jp 1 (kw 0 y))).snd (jp ((↑(m+2):Int).toNat-1) (kw (eO 0 H.length 1 1) H))).fst (eO 0 (dM (U.i64.wrap ((↑(m+2):Int)+(1:Int))).toNat) 1 1)).length),D ((0:Int)<=(↑(m+2):Int)/\(↑(m+2):Int)<(↑(U.i64.wrap ((↑(m+2):Int)+(1:Int))).toNat:Int)),D (m+2-1=(↑(m+2):Int).toNat-1/\0<(↑(m+2):Int).toNat-1/\(↑(m+2):Int).toNat-1<4294967296/\(↑(m+2):Int).toNat-1<=dM (U.i64.wrap ((↑(m+2):Int)+(1:Int))).toNat-1/\(↑(m+2):Int).toNat-1<=H.length-1/\(0:Int)<=(gP (0:Int) (jp 1 (kw 0 H)) (jp 1 (kw 0 y))).snd/\(gP (0:Int) (jp 1 (kw 0 H)) (jp 1 (kw 0 y))).snd<=(1:Int)/\eO 0 (dM (U.i64.wrap ((↑(m+2):Int)+(1:Int))).toNat) 1 1+((↑(m+2):Int).toNat-1)<=(dC (lc (dM (U.i64.wrap ((↑(m+2):Int)+(1:Int))).toNat) (0:Int)) (gP (0:Int) (jp 1 (kw 0 H)) (jp 1 (kw 0 y))).fst 0).length/\eO 0 H.length 1 1+((↑(m+2):Int).toNat-1)<=H.length/\dG H),ed (D (m+2<=H.length)) (D ((0:Int)<=(1:Int)/\(1:Int)<=(↑(m+2):Int))),ed (D ((0:Int)<=(↑(m+2):Int)/\(↑(m+2):Int)<=(↑(dM (U.i64.wrap ((↑(m+2):Int)+(1:Int))).toNat):Int))) (D ((0:Int)<=(1:Int)/\(1:Int)<=(↑(↑(m+2):Int).toNat:Int))),D ((↑(m+2):Int)>(1:Int))==G,D (1=1/\1=1/\1<4294967296/\0+1<=(lc (dM (U.i64.wrap ((↑(m+2):Int)+(1:Int))).toNat) (0:Int)).length/\0+1<=H.length/\0+1<=y.length/\dG H/\dG y),D ((0:Int)<=(1:Int)/\(1:Int)<=(y.length:Int)),D ((0:Int)<=(1:Int)/\(1:Int)<=(H.length:Int)),D ((0:Int)<=(1:Int)/\(1:Int)<=(↑(dM (U.i64.wrap ((↑(m+2):Int)+(1:Int))).toNat):Int)),D ((0:Int)<U.i64.wrap ((↑(m+2):Int)+(1:Int))/\U.i64.wrap ((↑(m+2):Int)+(1:Int))<=(1048000:Int)),G,G,G,G,G],G,G,G,G,G,G,G]):=I
def take_one{l:List Int}(h:1<=l.length):jp 1 (kw 0 l)=[l.getD 0 0]:=by
  cases l with
  |nil=>simp at h
  |cons a l=>simp
def mB(a b:Int):gP 0 [a] [b]=([(a+b)%18446744073709551616],(a+b)/18446744073709551616):=by simp[gP]
def Gg{l:List Int}{a:Int}:(dC l [a] 0).drop 1=l.drop 1:=by simp[iz]
def Ou{m:Nat}(h:m+2<=p.length):val (p.take (m+2))=p.getD 0 0+18446744073709551616*val ((p.drop 1).take (m+2-1)):=by
  cases p with
  |nil=>simp at h
  |cons a l=>simp[val]
def GI{y:List Int}{m:Nat}{t:Int}(h:fX A p (m+2) v)(r:fX A y 1 t)(hZ:m+3<=Z.length)(cZ:Z.length<=9223372036854775807)(H:dG Z){W:List Int}:letI c:Int:=p.getD 0 0+y.getD 0 0;letI d:Int:=18446744073709551616;letI a:List Int×Int:=iG (c/d) ((p.drop 1).take (m+2-1));letI b:Nat:=gm (λj=>W.getD j 0) (m+3);∀(u:W=(dC (dC Z [(c)%d] 0) a.1 1).set (m+2) a.2),fX A W b (v+t)/\W.length=Z.length/\0<b:=by
  intro u;have Q:=h.val;have i:=r.val;simp only[oP,kT]at Q i;have e:=eg h.mM 0;have S:=eg r.mM 0;have a1:=e.1;have a2:=e.2;have b1:=S.1;have b2:=S.2
  have P:t=y.getD 0 0:=by
    rw[i];have:=r.le;cases y with
    |nil=>simp at this
    |cons a l=>simp[val]
  have g:=Ou h.le;obtain⟨T,f⟩:=uk ((p.drop 1).take (m+2-1)) ((p.getD 0 0+y.getD 0 0)/18446744073709551616);obtain⟨F,i2,i3⟩:=IC ((p.drop 1).take (m+2-1)) ((p.getD 0 0+y.getD 0 0)/18446744073709551616) (dS (fR h.mM _) _) O O;have o:((p.drop 1).take (m+2-1)).length=m+1:=by have:=h.le;simp;omega
  rw[o]at T f;generalize iG ((p.getD 0 0+y.getD 0 0)/18446744073709551616) ((p.drop 1).take (m+2-1))=R at*;have w:W.length=Z.length:=by rw[u,gU,fE,fE,f];simp;omega
  have k:W.take (m+3)=[(p.getD 0 0+y.getD 0 0)%18446744073709551616]++R.1++[R.2]:=by
    have z:dC (dC Z [(p.getD 0 0+y.getD 0 0)%18446744073709551616] 0) R.1 1=[(p.getD 0 0+y.getD 0 0)%18446744073709551616]++R.1++Z.drop (m+2):=by
      unfold dC;simp only[tF,sP,eI,fb];rw[jO Y,s6,sV Y,sP,lR]
      congr 2
      simp;omega
    rw[u,z,s9 _ _ _ gp];rw[jO gp,jO gp]
  have s:val (W.take (m+3))=v+t:=by rw[k,gb,gb,Q,g,P];have e3:=sr (p.getD 0 0+y.getD 0 0) (val R.1) (val ((p.drop 1).take (m+2-1))) R.2 (pw (m+1)) T;simp only[gw,eI,fb,f,val,o4,jP,ir];rw[(O:1+(m+1)=m+1+1),gV (m+1)];have e4:pw 1=18446744073709551616:=K;rw[e4,eD (18446744073709551616*pw (m+1)) R.2];omega
  have q:=(ic h).2.2.1 O;have C:=gH (m+2-1)
  have M:=kO (a:=A) (W:=W) (n:=m+3) O O (by
    rw[u]
    exact gu (eS (eS H (λx L=>by simp only[tI]at L;subst L;exact⟨O,O⟩)) F) ⟨O,O⟩) s (λh=>by cases h)
  simp only[oP,kT]at M;refine⟨M,w,y9 λh0=>?_⟩;have:=(gI M).1 h0;omega
def Jg{y:List Int}{t:Int}(h:fX A p 1 v)(r:fX A y 1 t)(R:2<=Z.length)(g:Z.length<=9223372036854775807)(H:dG Z){W:List Int}:letI a:Int:=p.getD 0 0+y.getD 0 0;letI b:Nat:=gm (λj=>W.getD j 0) 2;letI c:Int:=18446744073709551616;∀(u:W=(dC Z [(a)%c] 0).set 1 (a/c)),fX A W b (v+t)/\W.length=Z.length/\0<b:=by
  intro u;have Q:=h.val;have i:=r.val;simp only[oP,kT]at Q i;have e:=eg h.mM 0;have S:=eg r.mM 0;have F:=e.1;have z:=e.2;have P:=S.1;have o:=S.2
  have m: ∀{l:List Int},1<=l.length->val (l.take 1)=l.getD 0 0:=λ{l}f=>by
    cases l with
    |nil=>simp at f
    |cons a l=>simp[val]
  rw[m r.le]at i;rw[m h.le]at Q;have w:W.length=Z.length:=by rw[u,gU,fE];simp;omega
  have k:W.take 2=[(p.getD 0 0+y.getD 0 0)%18446744073709551616,(p.getD 0 0+y.getD 0 0)/18446744073709551616]:=by
    rw[u,iz]
    match Z,R with
    |a::b::l,_=>rfl
  have s:val (W.take 2)=v+t:=by rw[k,Q,i];simp only[val];omega
  have q:=(ic h).2.2.1 O;rw[m h.le]at q;have d:=gH (1-1)
  have M:=kO (a:=A) (W:=W) (n:=2) O O (by
    rw[u]
    exact gu (eS H (λx L=>by simp only[tI]at L;subst L;exact⟨O,O⟩)) ⟨O,O⟩) s (λh=>by cases h)
  simp only[oP,kT]at M;refine⟨M,w,y9 λC=>?_⟩;have:=(gI M).1 C;omega
def aad(v t:Int)(P b ty R:es)(F y:List Int)(o:fX A F 1 v)(d:fX A y 1 t)(s:2<=F.length):letI a:V:= .p (E (0,0));eM B g0 52 [a,a,.p (E (1,0))] [⟨.lit [.b A,.s (E (3,0)) 1 F.length],P⟩,⟨.lit [.b A,.s (E (2,0)) 1 y.length],b⟩,⟨.ws .u64 y,ty⟩,⟨.ws .u64 F,R⟩] (λr q=>r=a/\fs 2 q [⟨.int (v+t),P⟩,⟨.int t,b⟩]):=by
  have u:=d.cap;have e:=d.le;have g:=o.cap;have H:=o.le;have T:=take_one (l:=F) O;have f:=take_one (l:=y) O;obtain⟨M,S,c⟩:=Jg (Z:=F) o d s o.cap o.mM K;refine dL _ f52 (Ev.done (gK (Dh (wA _)) (eP _)) (Ra A 0 F y P b ty R) ?_ ?_)
  .simp only[T,f,mB];simp(disch:=omega)only[iK,Int.reduceToNat,Int.reduceAdd,Int.reduceSub];simp only[dK,dJ,eu,ew,Nat.reduceAdd,Nat.reduceLT,d.mM,o.mM];omega
  .simp only[T,f,mB]
   skip
   skip
   exact⟨(by trivial),fs.close' 0 3 Y J K K S M (.close' 1 2 Y J K K K d (.take 2 Y Y K K))⟩
def abr(v t:Int)(P b ty R:es)(F y:List Int)(o:fX A F 1 v)(d:fX A y 1 t)(s: ¬2<=F.length):letI a:V:= .p (E (0,0));eM B g0 52 [a,a,.p (E (1,0))] [⟨.lit [.b A,.s (E (3,0)) 1 F.length],P⟩,⟨.lit [.b A,.s (E (2,0)) 1 y.length],b⟩,⟨.ws .u64 y,ty⟩,⟨.ws .u64 F,R⟩] (λr q=>r=a/\fs 2 q [⟨.int (v+t),P⟩,⟨.int t,b⟩]):=by
  have u:=d.cap;have e:=d.le;have g:=o.cap;have H:=o.le;have T:=take_one (l:=F) O;have f:=take_one (l:=y) O;obtain⟨M,S,c⟩:=Jg (Z:=lc 6 0) o d Y Y (dP 6) K;refine dL _ f52 (Ev.done (gK (Dh (DP _)) (eP _)) (QT A 0 F y P b ty R) ?_ ?_)
  .simp only[T,f,mB];simp(disch:=omega)only[iK,Int.reduceToNat,Int.reduceAdd,Int.reduceSub];simp only[dK,dJ,eu,ew,Nat.reduceAdd,Nat.reduceLT,d.mM,o.mM];omega
  .simp only[T,f,mB]
   skip
   skip
   exact⟨(by trivial),fs.close' 0 4 Y J K K (S.trans Y) M (.close' 1 2 Y J K K K d (.take 2 Y Y K K))⟩
def aai(v t:Int)(P n ty w:es)(F y:List Int)(k:Nat)(R:k+2<=1000)(o:fX A F (k+2) v)(d:fX A y 1 t)(s:k+3<=F.length):letI a:V:= .p (E (0,0));eM B g0 52 [a,a,.p (E (1,0))] [⟨.lit [.b A,.s (E (3,0)) (k+2) F.length],P⟩,⟨.lit [.b A,.s (E (2,0)) 1 y.length],n⟩,⟨.ws .u64 y,ty⟩,⟨.ws .u64 F,w⟩] (λr q=>r=a/\fs 2 q [⟨.int (v+t),P⟩,⟨.int t,n⟩]):=by
  have u:=d.cap;have e:=d.le;have g:=o.cap;have H:=o.le;have T:=take_one (l:=F) O;have f:=take_one (l:=y) O;have m:=gL (k+3);have b:=gL (k+2+1);have p: ∀(l:List Int)(c:Int),(iG c ((l.drop 1).take (k+2-1))).1.length=((l.drop 1).take (k+2-1)).length:=λl c=>(uk _ _).2
  have i:=eg o.mM 0;have j:=eg d.mM 0;have b1:=i.1;have b2:=i.2;have C:=j.1;have b4:=j.2;have Q: ∀a:Int,(dC F [a] 0).drop 1=F.drop 1:=λa=>Gg
  have h:dG (dC F [(F.getD 0 0+y.getD 0 0)%18446744073709551616] 0):=eS o.mM (λx L=>by simp only[tI]at L;subst L;exact⟨O,O⟩);obtain⟨M,S,z⟩:=GI (Z:=F) o d s o.cap o.mM K;refine dL _ f52 (Ev.done (gK (Dh (wA _)) (eP _)) (TL A k F y P n ty w) ?_ ?_)
  .simp only[T,f,mB];simp(disch:=omega)only[iK,Int.reduceToNat,Int.reduceAdd,Int.reduceSub];simp only[dK,dJ,eu,ew,Nat.reduceAdd,Nat.reduceLT,d.mM,o.mM,Q,p,h,gR,jK,uY,Nat.reduceAdd];omega
  .simp only[T,f,mB];simp(disch:=omega)only[iK,Int.reduceToNat,Int.reduceAdd,Int.reduceSub];simp only[Q,uY,Nat.reduceAdd];exact⟨(by trivial),fs.close' 0 3 Y J K K S M (.close' 1 2 Y J K K K d (.take 2 Y Y K K))⟩
def Z3(v t:Int)(P h ty n:es)(F y:List Int)(k:Nat)(R:k+2<=1000)(o:fX A F (k+2) v)(d:fX A y 1 t)(s: ¬k+3<=F.length):letI a:V:= .p (E (0,0));eM B g0 52 [a,a,.p (E (1,0))] [⟨.lit [.b A,.s (E (3,0)) (k+2) F.length],P⟩,⟨.lit [.b A,.s (E (2,0)) 1 y.length],h⟩,⟨.ws .u64 y,ty⟩,⟨.ws .u64 F,n⟩] (λr q=>r=a/\fs 2 q [⟨.int (v+t),P⟩,⟨.int t,h⟩]):=by
  have u:=d.cap;have e:=d.le;have g:=o.cap;have H:=o.le;have T:=take_one (l:=F) O;have f:=take_one (l:=y) O;have m:=gL (k+3);have b:=gL (k+2+1);have p: ∀(l:List Int)(c:Int),(iG c ((l.drop 1).take (k+2-1))).1.length=((l.drop 1).take (k+2-1)).length:=λl c=>(uk _ _).2
  have i:=eg o.mM 0;have j:=eg d.mM 0;have z:=i.1;have L:=i.2;have x:=j.1;have b4:=j.2;obtain⟨M,S,w⟩:=GI (Z:=lc (dM (k+3)) 0) o d gp gp (dP _) K;refine dL _ f52 (Ev.done (gK (Dh (DP _)) (eP _)) (Qo A k F y P h ty n) ?_ ?_)
  .simp only[T,f,mB];simp(disch:=omega)only[iK,Int.reduceToNat,Int.reduceAdd,Int.reduceSub];simp only[dK,dJ,eu,ew,Nat.reduceAdd,Nat.reduceLT,d.mM,o.mM,p,gR,jK,uY,Nat.reduceAdd];omega
  .simp only[T,f,mB];simp(disch:=omega)only[iK,Int.reduceToNat,Int.reduceAdd,Int.reduceSub];simp only[uY,Nat.reduceAdd];exact⟨(by trivial),fs.close' 0 4 Y J K K (S.trans Y) M (.close' 1 2 Y J K K K d (.take 2 Y Y K K))⟩
def HQ{n:Bool}{T:Nat}(h:fX n p T v)(g:0<=v):n=A:=by
  cases n with
  |false=>rfl
  |true=>have:=(ic h).2.2.2.1 K;omega
def aab(v t:Int)(P b:es)(C:0<v)(Q:v<pw 1000)(L:0<t)(f:t<pw 1):letI a:V:= .p (E (0,0));eM B g0 52 [a,a,.p (E (1,0))] [⟨.int v,P⟩,⟨.int t,b⟩] (λr u=>r=a/\u=[⟨.int (v+t),P⟩,⟨.int t,b⟩]):=by
  refine eV Y K (eM.ld 1 K K K (λh=>absurd h O) λn y c j d=>?_);have:=HQ d O;subst this;have q:=fm d (k:=1) O;have x:c≠0:=λh=>by have:=(gI d).1 h;omega
  have:c=1:=O;subst this;refine eM.ld 0 K K K (λh=>absurd h O) λnz F T R o=>?_
  have:=HQ o O;subst this;have w:=fm o (k:=1000) O;have l:T≠0:=λh=>by have:=(gI o).1 h;omega
  by_cases e:T=1
  .subst e;by_cases s:2<=F.length
   .exact aad v t P b j R F y o d s
   .exact abr v t P b j R F y o d s
  .obtain⟨k,rfl⟩: ∃k,T=k+2:=⟨T-2,O⟩
   by_cases s:k+3<=F.length
   .exact aai v t P b j R F y k w o d s
   .exact Z3 v t P b j R F y k w o d s
def abw(v t:Int)(P a ty:es)(h0:pw 1<=v)(hv:v<pw 1000)(t0:0<t)(ht:t<pw 1):
    eM B g0 52 [.p (E (0,0)),.p (E (1,0)),.p (E (2,0))] [⟨.lit [.b A,.s N 0 0],P⟩,⟨.int v,a⟩,⟨.int t,ty⟩] (λr u=>r= .p (E (0,0))/\u=[⟨.int (v+t),P⟩,⟨.int v,a⟩,⟨.int t,ty⟩]):=by
  have z:=gH 1;refine eV Y K (eM.ld 1 K K K (λh=>absurd h O) λnz F T R o=>?_);refine eM.ld 2 K K K (λh=>absurd h O) λn y C Q d=>?_
  have:=HQ d O;subst this;have:=HQ o O;subst this;have q:=fm d (k:=1) O;have x:C≠0:=λh=>by have:=(gI d).1 h;omega
  have:C=1:=O;subst this;have M:=d.cap;have e:=d.le;have w:=fm o (k:=1000) O;have s:=l8 o (k:=1) O;have g:=o.cap;have H:=o.le;have L:=take_one (l:=F) O;have f:=take_one (l:=y) O;obtain⟨k,rfl⟩: ∃k,T=k+2:=⟨T-2,O⟩
  have m:=gL (k+3);have b:=gL (k+2+1);have p: ∀(l:List Int)(c:Int),(iG c ((l.drop 1).take (k+2-1))).1.length=((l.drop 1).take (k+2-1)).length:=λl c=>(uk _ _).2
  have i:=eg o.mM 0;have j:=eg d.mM 0;have b1:=i.1;have b2:=i.2;have b3:=j.1;have b4:=j.2;obtain⟨h1,S,h3⟩:=GI (Z:=lc (dM (k+3)) 0) o d gp gp (dP _) K;refine dL _ f52 (Ev.done (gK (Dh (DP _)) (eP _)) (Oh k F y P a ty R Q) ?_ ?_)
  .simp only[L,f,mB];simp(disch:=omega)only[iK,Int.reduceToNat,Int.reduceAdd,Int.reduceSub];simp only[dK,dJ,eu,ew,Nat.reduceAdd,Nat.reduceLT,d.mM,o.mM,p,gR,jK,uY,Nat.reduceAdd];omega
  .simp only[L,f,mB];simp(disch:=omega)only[iK,Int.reduceToNat,Int.reduceAdd,Int.reduceSub];simp only[uY,Nat.reduceAdd];exact⟨(by trivial),fs.close' 0 5 Y J K K (S.trans Y) h1 (.close' 1 3 Y J K K K o (.close' 2 4 Y J K K K d (.take 3 Y Y K K)))⟩
abbrev LX:List (Nat×QF):=(77,YV)::LR
noncomputable abbrev akk(R:Nat->Option Nat)(L:List (Nat×jB))(f:Nat)(fn:Func)(z:List Bool):List (Nat×jB):=(f,inl R L LX fn z)::L
noncomputable abbrev N78(R:Nat->Option Nat)(F:jB)(o:List Bool):List (Nat×jB):=akk R (N2 R F) 78 f78 o
def ZP(R:Nat->Option Nat):gf R LX:=⟨⟨ga f77,C7 R⟩,eP R⟩
def Vm{R:Nat->Option Nat}{L:List (Nat×jB)}(q:fl R L){f:Nat}{fn:Func}{z:List Bool}(t:B.funcs[f]?=E fn)(H:fn.body=E (dB fn))(s:((fn.name== "runtime.NumGoroutine") ||fn.body.isNone)=A):
    fl R (akk R L f fn z):=⟨⟨od t s,mV q (ZP R) t H z⟩,q⟩
def afg{R:Nat->Option Nat}{F:jB}{o:List Bool}(h:fl R (N1 F)):fl R (N78 R F o):=Vm (wG h) I I I
def abi(n:Nat)(H p:List Int)(P t ty R:es):letI h:Nat:=n+1;letI a:=(↑(h):Int);letI d:=a.toNat;letI c:List Int×Int:=jQ 0 (jp (d-0) (kw 0 H)) (jp (d-0) (kw 0 p));letI e:Bool:=D (0<=a/\a<=(p.length:Int));letI f:List Int:=dC p c.fst 0;letI g:Nat:=gm (λj=>f.getD (0+j) 0) d;letI i:V:= .p (E (0,0));letI k:dI:=⟨.ws .u64 H,ty⟩;letI l:Prop:=0+(d-0)<=p.length;letI m:Nat:=4294967296;(gi f49.results.toList (et (ep g0 (N78 g0 mG [A,A,A,A,A]) LX) f49.ntmps N 200 [.code (dB f49)] ⟨fo 0 [i,.p (E (1,0)),i],[⟨.lit [.b A,.s (E (3,0)) h p.length],P⟩,⟨.lit [.b A,.s (E (2,0)) h H.length],t⟩,k,⟨.ws .u64 p,R⟩],[A,G,G],[]⟩))=(G,E i,[⟨.lit [.b A,.s (E (3,0)) g (p.length)],P⟩,⟨.lit [.b A,.s (E (2,0)) h (H.length)],t⟩,k,⟨.ws .u64 f,R⟩],[G,D ((g:Int)>0)==G,G,G,G,eb [D (d<m/\0+d<=f.length/\d<=p.length),(c.snd !=0)==A,D (a>a)==A,D (d-0=d-0/\d-0=d-0/\d-0<m/\l/\0+(d-0)<=H.length/\l/\dG H/\dG p),e,D (0<=a/\a<=(H.length:Int)),e,e,G,G,D (a<a)==A,G,G],G,G,G,D ((if h<h then(-1:Int)else if h<h then 1 else vA (val (jp h (kw 0 H))) (val (jp h (kw 0 p))))≥0)==G,D (h<m/\0+(h)<=H.length/\0+(h)<=p.length/\dG H/\dG p),G,G,G,G,G,G]):=I
def qu: ∀(H p:List Int)(c:Int),dG (jQ c H p).1
  |[],_,_=>λx L=>by simp[jQ]at L
  |_::_,[],_=>λx L=>by simp[jQ]at L
  |x::H,y::p,c=>λz o=>by
   simp only[jQ,kh]at o;rcases o with rfl|o
   .exact⟨O,O⟩
   .exact qu H p _ z o
def Wm{H:List Int}{n:Nat}{x y:Int}(L:fX A H n x)(Q:fX A p n y)(z:y<x)(R:n<=Z.length)(P:Z.length<=9223372036854775807)(e:dG Z){W:List Int}(u:W=dC Z (jQ 0 (H.take n) (p.take n)).1 0):letI a:Nat:=gm (λj=>W.getD j 0) n;fX A W a (x-y)/\W.length=Z.length/\0<a/\(jQ 0 (H.take n) (p.take n)).2=0:=by
  have c:=L.val;have S:=Q.val;simp only[oP,kT]at c S;have b:(H.take n).length=n:=by have:=L.le;simp;omega
  have k:(p.take n).length=n:=by have:=Q.le;simp;omega
  obtain⟨T,f,g,F⟩:=pR (H.take n) (p.take n) 0 O (dS L.mM _) (dS Q.mM _) O O;have d:=ez (jQ 0 (H.take n) (p.take n)).1 (qu _ _ _);rw[f]at d;rw[b]at T f d;have q:=(ic L).2.1
  have C:(jQ 0 (H.take n) (p.take n)).2=0:=by
    rcases k9 (jQ 0 (H.take n) (p.take n)).2 1 with h|h
    .omega
    .have:(jQ 0 (H.take n) (p.take n)).2=1:=O;rw[this]at T;omega
  rw[C]at T;have w:W.length=Z.length:=by rw[u,fE];omega
  have s:val (W.take n)=x-y:=by rw[u,iz,jO f];omega
  have M:=kO (a:=A) (W:=W) (n:=n) O O (by rw[u];exact eS e (qu _ _ _)) s (λh=>by cases h);simp only[oP,kT]at M;refine⟨M,w,y9 λh=>?_,C⟩;have:=(gI M).1 h;omega
def awt(x y:Int)(n:Nat)(P t:es)(Q:n<1000)(w:pw n<=y)(s:y<x)(L:x<pw (n+1)):letI a:V:= .p (E (0,0));eM B g0 49 [a,.p (E (1,0)),a] [⟨.int y,P⟩,⟨.int x,t⟩] (λr u=>r=a/\u=[⟨.int (x-y),P⟩,⟨.int x,t⟩]):=by
  have C:=gH n;refine eV Y K (eM.ld 1 K K K (λh=>absurd h O) λm H b j e=>?_);have:=HQ e O;subst this;refine eM.ld 0 K K K (λh=>absurd h O) λnz p o R c=>?_
  have:=HQ c O;subst this;have h1:=fm e (k:=n+1) O;have h2:=l8 e (k:=n) O;have h3:=fm c (k:=n+1) O;have h4:=l8 c (k:=n) O;have:b=n+1:=O;subst this;have:o=n+1:=O;subst this;have z:=e.cap;have T:=e.le;have F:=c.cap;have g:=c.le;obtain⟨l,i,q,d⟩:=Wm (Z:=p) e c s g F c.mM K
  have v:vA (val (H.take (n+1))) (val (p.take (n+1)))=1:=by have M:=e.val;have S:=c.val;simp only[oP,kT]at M S;unfold vA;rw[<-M,<-S,if_neg O,if_pos s]
  have f:(jQ 0 (H.take (n+1)) (p.take (n+1))).1.length=(H.take (n+1)).length:=
    (pR (H.take (n+1)) (p.take (n+1)) 0 gp (dS e.mM _) (dS c.mM _) O O).2.1
  refine dL _ f49 (Ev.done (gK (afg (wA _)) (ZP _)) (abi n H p P t j R) ?_ ?_)
  .simp only[gh];simp(disch:=omega)only[iK,Int.reduceToNat,Int.reduceAdd,Int.reduceSub];simp only[dK,dJ,eu,ew,Nat.reduceAdd,Nat.reduceLT,e.mM,c.mM,v,d,f,gR,zq,kT];omega
  .simp only[gh];simp(disch:=omega)only[iK,Int.reduceToNat,Int.reduceAdd,Int.reduceSub];exact⟨(by trivial),fs.close' 0 3 Y J K K i l (.close' 1 2 Y J K K K e (.take 2 Y Y K K))⟩
noncomputable abbrev Kf:List Item:=gQ (dB f164) 0 []
abbrev CV:fw:=ep (λ_=>N) LV LQ
def MN:ji B CV:=gy (uJ _) (jF _)
def TC(m n C q s:Nat)(F H p:List Int)(P t ty:es):letI a:=U.i64.wrap ((m:Int)+(n:Int));letI b:dI:=⟨.ws .u64 H,t⟩;letI c:dI:=⟨.ws .u64 p,ty⟩;letI d:V:= .s (E (0,0)) (m+n) C;(oS (eC CV f164.ntmps 200 [0,1,15,16,17] [.code (dB f164)] ⟨fo 0 [d,.s (E (1,0)) m q,.s (E (2,0)) n s],[⟨.ws .u64 F,P⟩,b,c],[],[]⟩))=(Kf,[(0,d),(1,.s (E (1,0)) m q),(15,.s (E (2,0)) n s),(16,.i .i64 (n:Int)),(17,.i .i64 0)],[⟨.ws .u64 (dC F (lc (a.toNat-0) 0) 0),P⟩,b,c],[G,D (0+(a.toNat-0)<=F.length),D (0<=a/\a<=(C:Int)),G,G]):=I
def aiv(m n C q s i:Nat)(F H p:List Int)(P t ty:es):letI a:dE:=[⟨.ws .u64 F,P⟩,⟨.ws .u64 H,t⟩,⟨.ws .u64 p,ty⟩];(gi f164.results.toList (et CV f164.ntmps N 200 Kf ⟨[(0,.s (E (0,0)) (m+n) C),(1,.s (E (1,0)) m q),(15,.s (E (2,0)) n s),(16,.i .i64 (n:Nat)),(17,.i .i64 (i:Nat))],a,[A],[]⟩))=(G,E (.t []),a,[D ((i:Int)<(n:Int))==A]):=I
def WH(m n C q s i:Nat)(F H p:List Int)(P t ty:es):letI a:dE:=[⟨.ws .u64 F,P⟩,⟨.ws .u64 H,t⟩,⟨.ws .u64 p,ty⟩];letI b:=(i:Int);letI c:V:= .s (E (0,0)) (m+n) C;letI d:=(n:Int);(oS (eC CV f164.ntmps 200 [0,1,15,16,17] Kf ⟨[(0,c),(1,.s (E (1,0)) m q),(15,.s (E (2,0)) n s),(16,.i .i64 (n:Nat)),(17,.i .i64 (i:Nat))],a,[G,A],[]⟩))=(Kf,[(0,c),(1,.s (E (1,0)) m q),(15,.s (E (2,0)) n s),(16,.i .i64 d),(17,.i .i64 (U.i64.wrap (b+1)))],a,[(p.getD b.toNat (0:Int)!=0)==A,D (b.toNat<p.length),D (0<=b/\b<d),D (b<d)==G]):=I
def avi(m n C q s i:Nat)(F H r:List Int)(P t ty:es):letI b:=(i:Int);letI d:=U.i64.wrap (b+(m:Int));letI h:=b.toNat;letI a:=d.toNat-h;letI e:Nat:=eO 0 C h 1;letI c:List Int×Int:=fN (r.getD h 0) 0 (jp a (kw e F)) (jp a (kw 0 H));letI f:=U.i64.wrap ((m:Int)+b);letI g:Bool:=ed (D (0<=d/\d<=(C:Int))) (D (0<=b/\b<=(↑(d).toNat:Int)));letI j:=dC F c.fst e;letI k:dI:=⟨.ws .u64 H,t⟩;letI l:dI:=⟨.ws .u64 r,ty⟩;letI o:V:= .s (E (0,0)) (m+n) C;letI p:=(n:Int);(oS (eC CV f164.ntmps 200 [0,1,15,16,17] Kf ⟨[(0,o),(1,.s (E (1,0)) m q),(15,.s (E (2,0)) n s),(16,.i .i64 (n:Nat)),(17,.i .i64 (i:Nat))],[⟨.ws .u64 F,P⟩,k,l],[G,G],[]⟩))=(Kf,[(0,o),(1,.s (E (1,0)) m q),(15,.s (E (2,0)) n s),(16,.i .i64 p),(17,.i .i64 (U.i64.wrap (b+1)))],[⟨.ws .u64 (j.set f.toNat c.snd),P⟩,k,l],[D (1=1/\(f).toNat<j.length),D (0<=f/\f<(↑(m+n):Int)),D (a=a/\m=a/\0=0/\e=e/\a<4294967296/\e+(a)<=F.length/\0+(a)<=H.length/\dG F/\dG H/\gn (r.getD h 0)/\gn 0),g,G,g,G,G,(r.getD h (0:Int)!=0)==G,D (h<r.length),D (0<=b/\b<p),D (b<p)==G]):=I
def words:Nat->Int->List Int
  |0,_=>[]
  |n+1,w=>w%18446744073709551616::words n (w/18446744073709551616)
def HE: ∀{l:List Int},dG l->words l.length (val l)=l
  |[],_=>rfl
  |x::H,h=>by have L:=h x jt;have F:=L.1;have y:=L.2;have v:=HE (l:=H) (λz o=>h z (jh _ o));simp only[eI,words,val];have T:(x+18446744073709551616*val H)%18446744073709551616=x:=O;have f:(x+18446744073709551616*val H)/18446744073709551616=val H:=O;rw[T,f,v]
def rW: ∀(n:Nat)(w:Int),(words n w).length=n
  |0,_=>rfl
  |n+1,w=>by simp[words,rW n]
def DZ: ∀(n:Nat)(w:Int),dG (words n w)
  |0,_=>λx L=>by simp[words]at L
  |n+1,w=>λx L=>by
   simp only[words,kh]at L;rcases L with rfl|L
   .exact⟨O,O⟩
   .exact DZ n _ x L
def Fe: ∀(n:Nat)(w:Int),0<=w->w<pw n->val (words n w)=w
  |0,w,C,M=>by simp[pw]at M;simp[words,val];omega
  |n+1,w,C,M=>by rw[gV]at M;simp only[words,val];rw[Fe n (w/18446744073709551616) O O];omega
def qR(w:Int)(d:gn w): ∀(H p:List Int)(c:Int),H.length=p.length->dG H->dG p->gn c->dG (fN w c H p).1/\gn (fN w c H p).2
  |[],[],c,_,_,_,s=>⟨λx L=>by simp[fN]at L,s⟩
  |[],_::_,_,h,_,_,_=>by simp at h
  |_::_,[],_,h,_,_,_=>by simp at h
  |x::H,y::p,c,h,L,Q,s=>by
   have S:=L x jt;have j:=Q y jt;have a:=GF y w j d;have F:=S.1;have b:=S.2;have k:=s.1;have u:=s.2
   obtain⟨T,f⟩:=qR w d H p ((y*w+x+c)/18446744073709551616) (by simpa using h) (λz o=>L z (jh _ o)) (λz o=>Q z (jh _ o)) (by
     generalize y*w=q at*
     exact⟨O,O⟩)
   refine⟨λz o=>?_,f⟩;simp only[fN,kh]at o;rcases o with rfl|o
   .exact⟨O,O⟩
   .exact T z o
def Ei{i:Nat}(h:i<p.length):val (p.take (i+1))=val (p.take i)+pw i*p.getD i 0:=by have T:=sn (p:=p) (n:=i+1) O;have f:=sn (p:=p) (n:=i) O;rw[T,f,gX]
def Xc(m n C q s:Nat)(H p y:List Int)(P t ty:es)(hm:m<2147483648)(hn:n<2147483648)(aa:m+n<=C)(ab:m<=q)(L:m<=H.length)(hy:n<=p.length)(S:dG H)(wy:dG p)(wt:dG y):letI a:dI:=⟨.ws .u64 H,t⟩;letI b:dI:=⟨.ws .u64 p,ty⟩;∀
      (k i:Nat)(l:List Int),i+k=n->l.length=m+i->dG l->val l=val (H.take m)*val (p.take i)->
      Ev B CV 164 48 3 [] Kf [(0,.s (E (0,0)) (m+n) C),(1,.s (E (1,0)) m q),(15,.s (E (2,0)) n s),(16,.i .i64 (n:Nat)),(17,.i .i64 (i:Nat))]
       [⟨.ws .u64 (l++lc k 0++y),P⟩,a,b]
       (λr m'=>r= .t []/\m'=[⟨.ws .u64 (words (m+n) (val (H.take m)*val (p.take n))++y),P⟩,a,b]):=by
  intro k
  induction k with
  |zero=>
   intro i l hi z w Q;have:i=n:=O;subst this;refine Ev.done (eB MN) (aiv m i C q s i _ H p P t ty) ?_ ?_
   ·(try simp(disch:=omega)only[iK,Int.reduceToNat,Int.reduceAdd,Int.reduceSub]);(try simp+decide only[dK,dJ,eu,ew,Nat.reduceAdd,Nat.reduceLT]);(try omega)
   .refine⟨K,?_⟩;rw[<-Q,<-z,HE w];simp
  |succ k v=>
   intro i l hi z w Q;have M:=eg wy i;by_cases o:p.getD i 0=0
   .refine fa (eB MN) (WH m n C q s i _ H p P t ty) ?_ K ?_
    .simp only[dU,o];exact rG
    .simp only[lM i O]
     have e:l++lc (k+1) 0++y=(l++[0])++lc k 0++y:=by rw[CI];simp
     rw[e];refine v (i+1) (l++[0]) O gp (iR.2 ⟨w,λx L=>by simp only[tI]at L;subst L;exact se⟩) ?_;rw[gb,Ei O,o,Q];simp[val]
   .have f:(H.take m).length=m:=gp;have F:(l.drop i).length=(H.take m).length:=by rw[f];simp;omega
    have g:dG (l++lc (k+1) 0++y):=iR.2 ⟨iR.2 ⟨w,dP _⟩,wt⟩
    have u:(((l++lc (k+1) 0++y).drop i).take m)=l.drop i:=by rw[qx,S3 O,jO gp]
    have c:(H.take m).length=(l.drop i).length:=F.symm;obtain⟨j,v2⟩:=rm (p.getD i 0) (l.drop i) (H.take m) 0 F;obtain⟨w1,w2⟩:=qR (p.getD i 0) M (l.drop i) (H.take m) 0 F (fR w _) (dS S _) se;have T:(fN (p.getD i 0) 0 (l.drop i) (H.take m)).1.length=m:=by rw[v2,F,f]
    rw[F,f]at j;have e1:U.i64.wrap ((i:Int)+(m:Int))=((i+m:Nat):Int):=jw;have e2:U.i64.wrap ((m:Int)+(i:Int))=((m+i:Nat):Int):=jw;refine fa (eB MN) (avi m n C q s i _ H p P t ty) ?_ K ?_
    .simp only[e1,e2,dU,kE (O:C≠i),ir,GC,gh,u];generalize fN (p.getD i 0) 0 (l.drop i) (H.take m)=R at*;simp only[dK,dJ,eu,ew,Nat.reduceAdd,Nat.reduceLT,g,S,M,T,se,gw,o,iT];omega
    .simp only[e1,e2,lM i O,dU,kE (O:C≠i),ir,GC,gh,u];generalize fN (p.getD i 0) 0 (l.drop i) (H.take m)=R at*
     have hK:(dC (l++lc (k+1) 0++y) R.1 i).set (m+i) R.2=(l.take i++R.1++[R.2])++lc k 0++y:=by
       have h1:dC (l++lc (k+1) 0++y) R.1 i=(l.take i++R.1)++(0::(lc k 0++y)):=by unfold dC;rw[T,qx l,Km O,(O:i+m=l.length),List.drop_left,CI];simp
       rw[h1,wT _ _ gp];have:m+i-(l.take i++R.1).length=0:=gp;rw[this];simp
     rw[hK];refine v (i+1) (l.take i++R.1++[R.2]) O gp (iR.2 ⟨iR.2 ⟨dS w _,w1⟩,λx L=>by simp only[tI]at L;subst L;exact w2⟩) ?_;have d:(l.take i).length=i:=gp
     have h:val l=val (l.take i)+pw i*val (l.drop i):=by conv=>lhs;rw[<-Ae i l,gb,d]
     rw[gb,gb,gw,d,T,Ei O,fh,<-Q,h,uq];simp only[val,o4,jP]
     have h3:pw i*val R.1+pw i*pw m*R.2=pw i*(val (l.drop i)+val (H.take m)*p.getD i 0):=by
       have h4:pw i*val R.1+pw i*pw m*R.2=pw i*(val R.1+R.2*pw m):=by rw[fh,fO,eD R.2]
       rw[h4,j,jP]
     rw[fh]at h3;have h5:val (H.take m)*(pw i*p.getD i 0)=pw i*(val (H.take m)*p.getD i 0):=by ac_rfl
     omega
def afi(m n C q s:Nat)(F H p:List Int)(P t ty:es)(d:m<2147483648)(x:n<2147483648)(g:m+n<=C)(R:m<=q)(o:m+n<=F.length)(L:m<=H.length)(Q:n<=p.length)(c:dG F)(S:dG H)(j:dG p):letI a:dI:=⟨.ws .u64 H,t⟩;letI b:dI:=⟨.ws .u64 p,ty⟩;eM B (λ_=>N) 164 [.s (E (0,0)) (m+n) C,.s (E (1,0)) m q,.s (E (2,0)) n s] [⟨.ws .u64 F,P⟩,a,b]
      (λr u=>r= .t []/\u=[⟨.ws .u64 (dC F (words (m+n) (val (H.take m)*val (p.take n))) 0),P⟩,a,b]):=by
  refine dL CV f164 ?_;have T:U.i64.wrap ((m:Int)+(n:Int))=((m+n:Nat):Int):=jw;refine fa (eB MN) (TC m n C q s F H p P t ty) ?_ K ?_
  .simp only[T];exact rG
  .simp only[T,dU,jo]
   have f:dC F (lc (m+n) 0) 0=lc (m+0) 0++lc n 0++F.drop (m+n):=by rw[iz,fJ,j3,Re]
   have e:dC F (words (m+n) (val (H.take m)*val (p.take n))) 0=words (m+n) (val (H.take m)*val (p.take n))++F.drop (m+n):=by rw[iz,rW]
   rw[f,e];exact Xc m n C q s H p (F.drop (m+n)) P t ty d x g R L Q S j (fR c _) n 0 (lc (m+0) 0) O Y (dP _) (by rw[kv];simp[val])
def Xr:jB:=λargs m=>
  match args with
  |[.s (E z) l C,.s (E x) a q,.s (E y) b _]=>match m[z.1]?,m[x.1]?,m[y.1]? with
   |some ⟨.ws .u64 F,P⟩,E ⟨.ws .u64 H,_⟩,E ⟨.ws .u64 p,_⟩=>
    E (.t [],m.set z.1 ⟨.ws .u64 (dC F (words l (val (H.take a)*val (p.take b))) 0),P⟩,
      ed (D (l=a+b/\z.2=0/\x.2=0/\y.2=0/\a<2147483648/\b<2147483648/\l<=C/\a<=q/\l<=F.length/\a<=H.length/\b<=p.length/\dG F/\dG H/\dG p))
       (ed (!(Nat.beq z.1 x.1)) (ed (!(Nat.beq z.1 y.1)) (ed (!(Nat.beq x.1 y.1)) (ek m.length m)))))
   |_,_,_=>N
  |_=>N
def Wf(gl:Nat->Option Nat):qI B gl 164 Xr:=by
  refine mD λargs m r m' T=>?_
  unfold Xr at T;split at T
  .rename_i z l cz x a cx y b cy;split at T
   .rename_i F P H t p j o L Q;simp only[eJ,ef]at T;obtain⟨rfl,rfl,ho⟩:=T;obtain⟨g,c⟩:=dN ho;obtain⟨h1,c⟩:=dN c;obtain⟨h2,c⟩:=dN c;obtain⟨h3,M⟩:=dN c;have d:z.1≠x.1:=gW (by simpa using h1);have i:z.1≠y.1:=gW (by simpa using h2);have q:x.1≠y.1:=gW (by simpa using h3);simp only[eG]at g;obtain⟨rfl,n,s,f,ha,hb,e,R,w,C,k,u,S,v⟩:=g;obtain⟨z,zo⟩:=z;obtain⟨x,xo⟩:=x;obtain⟨y,yo⟩:=y;simp only at n s f d i q o L Q;subst n;subst s;subst f;refine⟨λ_=>N,[z,x,y],_,_,_,_,afi a b cz cx cy F H p P t j ha hb e R w C k u S v,⟨o,K,L,K,Q,K,dD⟩,by simp[d,i,q],(λ_ _ h=>by cases h),M,K,K,?_⟩;simp only[fW,iC,ft,kw,eI,fb,jx]
    have e1:(m.set z (dI.iU (sg [z,x,y] m.length) ⟨.ws .u64 (dC F (words (a+b) (val (H.take a)*val (p.take b))) 0),P⟩)).set x (dI.iU (sg [z,x,y] m.length) ⟨.ws .u64 H,t⟩)=m.set z ⟨.ws .u64 (dC F (words (a+b) (val (H.take a)*val (p.take b))) 0),P⟩:=
      fu (by rw[lI d];exact L)
    rw[e1];exact(fu (by rw[lI i];exact Q)).symm
   .cases T
  .cases T
abbrev gk(i:Nat):Nat->Option Nat:=λg=>bif Nat.beq g 7 then E i else N
noncomputable abbrev apu(R:Nat->Option Nat)(o p:List Bool):List (Nat×jB):=put R (put R ((164,Xr)::N1 oK) 143 f143 o) 120 f120 p
def aDd:eo B 164:=ga f164
def Wk(R:Nat->Option Nat)(o p:List Bool):fl R (apu R o p):=ks (ks (L:=(164,Xr)::N1 oK) ⟨⟨aDd,Wf R⟩,DP R⟩ I I I) I I I
def acd(a b:Nat)(F x:List Int)(P i M ty R:es):letI o:=(a:Int);letI h:=(b:Int);letI e:=U.i64.wrap (o+h);letI c:=e.toNat;letI f:Int:=(0:Int);letI g:=lc (dM c) f;letI d:List Int:=dC g (words c (val (jp a F)*val (jp b x))) 0;letI k:Nat:=gm (λj=>d.getD (0+j) f) c;letI l:V:= .p (E (0,0));letI m:dI:=⟨.ws .u64 F,ty⟩;letI n:dI:=⟨.ws .u64 x,R⟩;(gi f95.results.toList (et (ep (gk 2) (apu (gk 2) [A,A,A,A,G,G,G] [A,G]) LR) f95.ntmps N 200 [.code (dB f95)] ⟨fo 0 [l,l,.p (E (1,0))],[⟨.lit [.b A,.s (E (3,0)) a F.length],P⟩,⟨.lit [.b A,.s (E (4,0)) b x.length],i⟩,⟨.lit [.i .i64 40],M⟩,m,n],[],[]⟩))=(G,E l,[⟨.lit [.b A,.s (E (5,0)) k (dM c)],P⟩,⟨.lit [.b A,.s (E (4,0)) b (x.length)],i⟩,⟨.lit [.i .i64 ((40:Int))],M⟩,m,n,⟨.ws .u64 d,137⟩],[eb [G,G,G,D ((k:Int)>f)==G,G,G,G,eb [D (c<4294967296/\0+c<=d.length/\c<=dM c),D (c=a+b/\0=0/\0=0/\0=0/\a<2147483648/\b<2147483648/\c<=dM c/\a<=F.length/\c<=g.length/\a<=F.length/\b<=x.length/\dG g/\dG F/\dG x),D (h<(40:Int))==G,G,D (f<e/\e<=(1048000:Int)),G,G,D (0=0/\F.length=F.length/\0<F.length/\F.length<=9223372036854775807),(h==(1:Int))==A,(h==f)==A,(o==f)==A,D (o<h)==A,G,G],G,G,G,G]]):=I
def YI{F x:List Int}{a b:Nat}{u:Int}(o:fX A F a v)(f:fX A x b u)(C:0<v)(M:0<u)(R:a+b<=Z.length)(P:Z.length<=9223372036854775807)(H:dG Z){W:List Int}(e:W=dC Z (words (a+b) (val (F.take a)*val (x.take b))) 0):letI c:Nat:=gm (λj=>W.getD j 0) (a+b);fX A W c (v*u)/\W.length=Z.length/\0<c:=by
  have Q:=o.val;have i:=f.val;simp only[oP,kT]at Q i;have S:=(ic o).2.1;have l:=(ic f).2.1;have q:0<v*u:=BF C M
  have z:v*u<pw (a+b):=by rw[uq,Q,i];have g:val (F.take a)*val (x.take b)<=val (F.take a)*pw b:=gF O O;have y:val (F.take a)*pw b<pw a*pw b:=FX S (gH b);omega
  have w:W.length=Z.length:=by rw[e,fE,rW];omega
  have s:val (W.take (a+b))=v*u:=by rw[e,iz,jO (rW _ _),Fe _ _ (by rw[<-Q,<-i];omega) (by rw[<-Q,<-i];exact z),<-Q,<-i]
  have d:=kO (a:=A) (W:=W) (n:=a+b) O O (by rw[e];exact eS H (DZ _ _)) s (λh=>by cases h);simp only[oP,kT]at d;refine⟨d,w,y9 λh=>?_⟩;have:=(gI d).1 h;omega
def azx(v u:Int)(P f M:es)(c:pw 3<=v)(Q:v<pw 900)(s:pw 3<=u)(t:u<pw 4):letI a:dI:=⟨.lit [.i .i64 40],M⟩;letI b:V:= .p (E (0,0));eM B (gk 2) 95 [b,b,.p (E (1,0))] [⟨.int v,P⟩,⟨.int u,f⟩,a] (λr p=>r=b/\p=[⟨.int (v*u),P⟩,⟨.int u,f⟩,a]):=by
  have g:=gH 3;refine eV Y K (eM.ld 0 K K K (λh=>absurd h O) λn F a j o=>?_);have:=HQ o O;subst this;refine eM.ld 1 K K K (λh=>absurd h O) λy x b R d=>?_
  have:=HQ d O;subst this;have h1:=fm o (k:=900) O;have L:=l8 o (k:=3) O;have C:=fm d (k:=4) O;have z:=l8 d (k:=3) O;have w:=o.cap;have e:=o.le;have H:=d.cap;have S:=d.le;have m:=gL (a+b);obtain⟨l,i,q⟩:=YI (Z:=lc (dM (a+b)) 0) o d O O gp gp (dP _) K;have T:U.i64.wrap ((a:Int)+(b:Int))=((a+b:Nat):Int):=jw;refine dL _ f95 (Ev.done (gK (Wk _ _ _) (eP _)) (acd a b F x P f M j R) ?_ ?_)
  .simp only[T];simp(disch:=omega)only[iK,Int.reduceToNat,Int.reduceAdd,Int.reduceSub];simp only[dK,dJ,eu,ew,Nat.reduceAdd,Nat.reduceLT,o.mM,d.mM,dP,rW];omega
  .simp only[T,dU,ir];exact⟨(by trivial),fs.close' 0 5 Y J K K (i.trans Y) l (.close' 1 4 Y J K K K d (.drop 3 0 Y K (.take 3 Y Y K K)))⟩
def bitLen(x:Nat):Nat:=if x=0 then 0 else x.log2+1
def MI:List UInt8:=(List.range 256).map λi=>UInt8.ofNat (bitLen i)
abbrev ki(m:dE)(x:Int)(w S u:Bool)(u3 u4:Int)(o:List Bool):Prop:=(gi f137.results.toList (et (ep (λ_=>N) [] []) f137.ntmps N 200 [.code (dB f137)] ⟨fo 0 [.i .u64 x],m,[w,S,u],[]⟩))=(G,E (.i .i64 (U.i64.wrap (u3+U.i64.wrap (↑(MI.toArray.toList.getD (U.u8.wrap u4).toNat (0:UInt8)).toNat:Int)))),m,o)
def Wb(m:dE)(x:Int):letI b:Int:=4294967296;letI a:Int:=((x.fdiv b).fdiv 65536).fdiv 256;ki m x G G G 56 a ((λS=>D (0<=U.u8.wrap a/\U.u8.wrap a<256)::G::(D ((x.fdiv b).fdiv (65536:Int)≥256)==G)::G::(D (x.fdiv (b:Int)≥65536)==G)::G::S) [D (x≥b)==G]):=dR
def Yz(m:dE)(x:Int):letI b:Int:=4294967296;letI a:Int:=(x.fdiv b).fdiv 65536;ki m x G G A 48 a [D (0<=U.u8.wrap a/\U.u8.wrap a<256),D ((x.fdiv b).fdiv (65536:Int)≥256)==A,G,D (x.fdiv (b:Int)≥65536)==G,G,D (x≥b)==G]:=dR
def XH(m:dE)(x:Int):letI b:Int:=4294967296;letI a:Int:=(x.fdiv b).fdiv 256;letI c:=x.fdiv (b:Int);ki m x G A G 40 a [D (0<=U.u8.wrap a/\U.u8.wrap a<256),G,D (c≥256)==G,D (c≥65536)==A,G,D (x≥b)==G]:=dR
def W0(m:dE)(x:Int):letI a:Int:=4294967296;letI b:=U.u8.wrap (x.fdiv a);letI c:=x.fdiv (a:Int);ki m x G A A 32 (x.fdiv a) [D (0<=b/\b<256),D (c≥256)==A,D (c≥65536)==A,G,D (x≥a)==G]:=dR
def WY(m:dE)(x:Int):letI a:Int:=(x.fdiv 65536).fdiv 256;ki m x A G G 24 a [D (0<=U.u8.wrap a/\U.u8.wrap a<256),G,D (x.fdiv (65536:Int)≥256)==G,G,D (x≥65536)==G,D (x≥4294967296)==A]:=dR
def Vi(m:dE)(x:Int):letI a:Int:=x.fdiv 65536;ki m x A G A 16 a [D (0<=U.u8.wrap a/\U.u8.wrap a<256),D (x.fdiv (65536:Int)≥256)==A,G,D (x≥65536)==G,D (x≥4294967296)==A]:=dR
def Ws(m:dE)(x:Int):letI a:Int:=x.fdiv 256;ki m x A A G 8 a [D (0<=U.u8.wrap a/\U.u8.wrap a<256),G,D (x≥256)==G,D (x≥65536)==A,D (x≥4294967296)==A]:=dR
def Yx(m:dE)(x:Int):ki m x A A A 0 x ((λS=>D (0<=U.u8.wrap x/\U.u8.wrap x<256)::(D (x≥256)==A)::(D (x≥65536)==A)::S) [D (x≥4294967296)==A]):=dR
def U7(i:Nat)(h:i<256):(MI.toArray.toList.getD i 0).toNat=bitLen i:=by have:(List.range 256).all (λi=>Nat.beq (MI.toArray.toList.getD i 0).toNat (bitLen i))=G:=I;rw[yM]at this;exact iB (this i (by simpa using h))
def tG(x k:Nat)(h:2^k<=x):bitLen x=bitLen (x/2^k)+k:=by
  have g:=zk k;have C:x≠0:=O
  have M:x/2^k≠0:=by have:=Nat.div_pos h g;omega
  unfold bitLen;rw[if_neg C,if_neg M]
  have e: ∀j,j<=(x/2^k).log2↔j+k<=x.log2:=λj=>by rw[Nat.le_log2 M,Nat.le_log2 C,Lq g,<-nu]
  have a:=(e (x/2^k).log2).1 (eT _);have b:=e (x.log2-k);have c:=(e 0).1 (qM _);have d:=b.2 O;omega
def pL(x k:Nat)(h:x<2^k):bitLen x<=k:=by
  unfold bitLen;split
  .omega
  .rename_i C;have:=(Nat.log2_lt C).2 h;omega
def aNi:List Int->V
  |[x]=> .i .i64 (bitLen x.toNat)
  |_=> .t []
def lk:List Int->Bool
  |[x]=>D (gn x)
  |_=>A
abbrev QP:QF:=yG [.u64] aNi lk
def ahv(R:Nat->Option Nat)(m:dE)(x:Nat)(L:x<18446744073709551616):eM B R 137 [.i .u64 (x:Int)] m (λv u=>v= .i .i64 (bitLen x)/\u=m):=by
  have fd: ∀(a k:Nat),(a:Int).fdiv (k:Int)=((a/k:Nat):Int):=λa k=>by rw[kB _ O];exact(xe a k).symm
  have w: ∀a:Nat,(a:Int).fdiv 4294967296=((a/4294967296:Nat):Int):=λa=>fd a 4294967296
  have f: ∀a:Nat,(a:Int).fdiv 65536=((a/65536:Nat):Int):=λa=>fd a 65536
  have i: ∀a:Nat,(a:Int).fdiv 256=((a/256:Nat):Int):=λa=>fd a 256
  have d:4294967296<=x->bitLen x=bitLen (x/4294967296)+32:=λh=>tG x 32 h
  have s: ∀y,65536<=y->bitLen y=bitLen (y/65536)+16:=λy h=>tG y 16 h
  have P: ∀y,256<=y->bitLen y=bitLen (y/256)+8:=λy h=>tG y 8 h
  have q: ∀y:Nat,y<256->U.u8.wrap (y:Int)=(y:Int):=λy h=>by rw[wr8];omega
  have j: ∀y:Nat,y<256->(MI.toArray.toList.getD y 0).toNat=bitLen y:=λy h=>U7 y h
  have Q: ∀y:Nat,y<256->bitLen y<=8:=λy h=>pL y 8 h
  refine dL (ep R [] []) f137 ?_;by_cases M:4294967296<=x
  .by_cases S:65536<=x/4294967296
   .by_cases l:256<=x/4294967296/65536
    .refine Ev.done (fn:=f137) lP (j:=200) (z:=[G,G,G]) (Wb m x) ?_ ?_
     .try simp only[w,f,i]
      rw[q (x/4294967296/65536/256) O];simp only[dK,dJ,eu,ew,Nat.reduceAdd,Nat.reduceLT];omega
     .try simp only[w,f,i]
      rw[q (x/4294967296/65536/256) O,dU,j (x/4294967296/65536/256) O];have H:=Q (x/4294967296/65536/256) O;rw[d M,s _ S,P _ l];refine⟨?_,by trivial⟩;have T:U.i64.wrap ((bitLen (x/4294967296/65536/256):Nat):Int)=((bitLen (x/4294967296/65536/256):Nat):Int):=iy O;rw[T,iy O]
      congr 1
      omega
    .refine Ev.done (fn:=f137) lP (j:=200) (z:=[G,G,A]) (Yz m x) ?_ ?_
     .try simp only[w,f,i]
      rw[q (x/4294967296/65536) O];simp only[dK,dJ,eu,ew,Nat.reduceAdd,Nat.reduceLT];omega
     .try simp only[w,f,i]
      rw[q (x/4294967296/65536) O,dU,j (x/4294967296/65536) O];have H:=Q (x/4294967296/65536) O;rw[d M,s _ S];refine⟨?_,by trivial⟩;have T:U.i64.wrap ((bitLen (x/4294967296/65536):Nat):Int)=((bitLen (x/4294967296/65536):Nat):Int):=iy O;rw[T,iy O]
      congr 1
      omega
   .by_cases l:256<=x/4294967296
    .refine Ev.done (fn:=f137) lP (j:=200) (z:=[G,A,G]) (XH m x) ?_ ?_
     .try simp only[w,f,i]
      rw[q (x/4294967296/256) O];simp only[dK,dJ,eu,ew,Nat.reduceAdd,Nat.reduceLT];omega
     .try simp only[w,f,i]
      rw[q (x/4294967296/256) O,dU,j (x/4294967296/256) O];have H:=Q (x/4294967296/256) O;rw[d M,P _ l];refine⟨?_,by trivial⟩;have T:U.i64.wrap ((bitLen (x/4294967296/256):Nat):Int)=((bitLen (x/4294967296/256):Nat):Int):=iy O;rw[T,iy O]
      congr 1
      omega
    .refine Ev.done (fn:=f137) lP (j:=200) (z:=[G,A,A]) (W0 m x) ?_ ?_
     .try simp only[w,f,i]
      rw[q (x/4294967296) O];simp only[dK,dJ,eu,ew,Nat.reduceAdd,Nat.reduceLT];omega
     .try simp only[w,f,i]
      rw[q (x/4294967296) O,dU,j (x/4294967296) O];have H:=Q (x/4294967296) O;rw[d M];refine⟨?_,by trivial⟩;have T:U.i64.wrap ((bitLen (x/4294967296):Nat):Int)=((bitLen (x/4294967296):Nat):Int):=iy O;rw[T,iy O]
      congr 1
      omega
  .by_cases S:65536<=x
   .by_cases l:256<=x/65536
    .refine Ev.done (fn:=f137) lP (j:=200) (z:=[A,G,G]) (WY m x) ?_ ?_
     .try simp only[w,f,i]
      rw[q (x/65536/256) O];simp only[dK,dJ,eu,ew,Nat.reduceAdd,Nat.reduceLT];omega
     .try simp only[w,f,i]
      rw[q (x/65536/256) O,dU,j (x/65536/256) O];have H:=Q (x/65536/256) O;rw[s _ S,P _ l];refine⟨?_,by trivial⟩;have T:U.i64.wrap ((bitLen (x/65536/256):Nat):Int)=((bitLen (x/65536/256):Nat):Int):=iy O;rw[T,iy O]
      congr 1
      omega
    .refine Ev.done (fn:=f137) lP (j:=200) (z:=[A,G,A]) (Vi m x) ?_ ?_
     .try simp only[w,f,i]
      rw[q (x/65536) O];simp only[dK,dJ,eu,ew,Nat.reduceAdd,Nat.reduceLT];omega
     .try simp only[w,f,i]
      rw[q (x/65536) O,dU,j (x/65536) O];have H:=Q (x/65536) O;rw[s _ S];refine⟨?_,by trivial⟩;have T:U.i64.wrap ((bitLen (x/65536):Nat):Int)=((bitLen (x/65536):Nat):Int):=iy O;rw[T,iy O]
      congr 1
      omega
   .by_cases l:256<=x
    .refine Ev.done (fn:=f137) lP (j:=200) (z:=[A,A,G]) (Ws m x) ?_ ?_
     .try simp only[w,f,i]
      rw[q (x/256) O];simp only[dK,dJ,eu,ew,Nat.reduceAdd,Nat.reduceLT];omega
     .try simp only[w,f,i]
      rw[q (x/256) O,dU,j (x/256) O];have H:=Q (x/256) O;rw[P _ l];refine⟨?_,by trivial⟩;have T:U.i64.wrap ((bitLen (x/256):Nat):Int)=((bitLen (x/256):Nat):Int):=iy O;rw[T,iy O]
      congr 1
      omega
    .refine Ev.done (fn:=f137) lP (j:=200) (z:=[A,A,A]) (Yx m x) ?_ ?_
     .try simp only[w,f,i]
      rw[q (x) O];simp only[dK,dJ,eu,ew,Nat.reduceAdd,Nat.reduceLT];omega
     .try simp only[w,f,i]
      rw[q (x) O,dU,j (x) O];have H:=Q (x) O
      skip
      refine⟨?_,by trivial⟩;have T:U.i64.wrap ((bitLen (x):Nat):Int)=((bitLen (x):Nat):Int):=iy O;rw[T,iy O]
      congr 1
      omega
def Va(R:Nat->Option Nat):oR B R 137 QP:=by
  refine gD λargs m r T=>?_
  unfold QP yG at T;split at T
  .rename_i l f;simp only[eJ,ef]at T;obtain⟨rfl,F⟩:=T;obtain⟨rfl,S⟩:=Bm f
   match l,S with
   |[x],_=>
    have d:gn x:=by simpa[lk]using F
    obtain⟨x,rfl⟩:=fy d.1;exact ahv R m x (by have:=d.2;omega)
  .cases T
section
variable{u d a b:Nat}(ha:2147483648<=a)(ha':a<4294967296)(hb:b<4294967296)(hu:u<a*4294967296+b)(hd:d<4294967296)
include ha ha' hb hu hd
theorem zy:(u*4294967296+d)/(a*4294967296+b)<4294967296:=by rw[Cy O];have:(u+1)*4294967296<=(a*4294967296+b)*4294967296:=Gm _ hu;rw[kP 4294967296];omega
theorem RO:(u*4294967296+d)/(a*4294967296+b)<=u/a/\u/a<=4294967297:=by
  constructor
  .rw [Lq O];have M:=Nat.div_mul_le_self (u*4294967296+d) (a*4294967296+b);generalize(u*4294967296+d)/(a*4294967296+b)=q at*;rw[oZ,<-lH]at M;omega
  .have:u/a<4294967298:=by rw[Cy O];omega
   omega
theorem B0{r:Nat}(z:u=q*a+r):letI c:Nat:=4294967296;letI e:=(u*c+d)/(a*c+b);∀(h:q*b<=c*r+d)(o:e<=q),q=e:=by intro h o;refine Nat.le_antisymm ?_ o;rw[Lq O,oZ,<-lH];subst z;rw[ot];omega
theorem Tn{r:Nat}(z:u=q*a+r):letI c:Nat:=4294967296;letI e:=(u*c+d)/(a*c+b);∀(h:c<=q∨c*r+d<q*b)(o:e<=q),0<q/\u=(q-1)*a+(r+a)/\e<=q-1:=by
  intro h o;have f:=zy ha ha' hb hu hd
  have C:(u*4294967296+d)/(a*4294967296+b)<q:=by
    rcases h with h|h
    .omega
    .rw [Cy O,oZ,<-lH];subst z;rw[ot];omega
  have s:0<q:=KY (qM _) C;obtain⟨p,rfl⟩: ∃p,q=p+1:=⟨q-1,O⟩
  refine⟨O,?_,O⟩;rw[oW,z,ot];omega
theorem MX{r:Nat}(z:u=q*a+r):letI c:Nat:=4294967296;letI e:=(u*c+d)/(a*c+b);∀(y:c<=r)(x:q<=c)(o:e<=q),q=e:=by intro y x o;refine B0 ha ha' hb hu hd z ?_ o;have M:q*b<=4294967296*b:=Gm _ x;have S:4294967296*b<=4294967296*r:=Nat.mul_le_mul_left _ O;omega
end
abbrev Q1:List (Nat×QF):=[(137,QP)]
def aHz:List Int->V
  |[x]=> .i .i64 (64-(bitLen x.toNat:Int))
  |_=> .t []
abbrev PJ:QF:=yG [.u64] aHz lk
abbrev Q3:List (Nat×QF):=(209,PJ)::(112,QP)::Q1
def aIz:List Int->V
  |[x]=> .i .u64 (64-(bitLen x.toNat:Int))
  |_=> .t []
abbrev YG:QF:=yG [.u64] aIz lk
noncomputable abbrev TA:List Item:=gQ (dB f197) 0 []
noncomputable abbrev TB:List Item:=gQ (dB f197) 1 []
abbrev CQ:fw:=ep (λ_=>N) [] Q3
theorem RR(R:Nat->Option Nat):gf R Q1:=⟨⟨ga f137,Va R⟩,dD⟩
theorem ahd(x:Int)(h:gn x):bitLen x.toNat<=64:=pL _ 64 (by have:=h.1;have:=h.2;omega)
theorem X6(R:Nat->Option Nat):oR B R 112 QP:=by
  refine mJ (L:=[]) dD (RR R) (fn:=f112) (c:=dB f112) I I 100 ?_;intro l m f h
  match l,f with
  |[x],_=>exact⟨[],[lk [x]],I,dX.2 ⟨h,K⟩⟩
theorem Vq(R:Nat->Option Nat):oR B R 209 PJ:=by
  refine mJ (L:=[]) dD (RR R) (fn:=f209) (c:=dB f209) I I 100 ?_;intro l m f h
  match l,f with
  |[x],_=>
   have g:gn x:=by simpa[lk]using h
   have hb:=ahd x g;have e:qW (ep R [] Q1) f209.ntmps N 100 (dB f209) f209.results.toList [.i .u64 x] m []=E (.i .i64 (U.i64.wrap (64-(bitLen x.toNat:Int))),m,[lk [x]]):=I;rw[iy O]at e;exact⟨[],[lk [x]],e,dX.2 ⟨h,K⟩⟩
theorem M4(R:Nat->Option Nat):gf R Q3:=⟨⟨ga f209,Vq R⟩,⟨ga f112,X6 R⟩,RR R⟩
theorem Ye(R:Nat->Option Nat):oR B R 179 PJ:=by
  refine mJ (L:=[]) dD (M4 R) (fn:=f179) (c:=dB f179) I I 100 ?_;intro l m f h
  match l,f with
  |[x],_=>
   have g:gn x:=by simpa[lk]using h
   have hb:=ahd x g;have e:qW (ep R [] Q3) f179.ntmps N 100 (dB f179) f179.results.toList [.i .u64 x] m []=E (.i .i64 (U.i64.wrap (64-(bitLen x.toNat:Int))),m,[lk [x]]):=I;rw[iy O]at e;exact⟨[],[lk [x]],e,dX.2 ⟨h,K⟩⟩
theorem Gw(R:Nat->Option Nat):oR B R 155 YG:=by
  refine mJ (L:=[]) (q:=[(179,PJ)]) dD ⟨⟨ga f179,Ye R⟩,dD⟩ (fn:=f155) (c:=dB f155) I I 100 ?_;intro l m f h
  match l,f with
  |[x],_=>
   have g:gn x:=by simpa[lk]using h
   have hb:=ahd x g;have e:qW (ep R [] [(179,PJ)]) f155.ntmps N 100 (dB f155) f155.results.toList [.i .u64 x] m []=E (.i .u64 (U.u64.wrap (64-(bitLen x.toNat:Int))),m,[lk [x]]):=I;rw[mP O]at e;exact⟨[],[lk [x]],e,dX.2 ⟨h,K⟩⟩
theorem Yn(y a b u d e q r:Int)(m:dE):letI h:Int:=4294967296;letI c:=U.u64.wrap (U.u64.wrap (U.u64.wrap (u*h)+d)-U.u64.wrap (q*y));letI f:U:= .u64;letI g:=U.u64.wrap (c.tdiv a);(oS (eC CQ 135 200 [2,8,9,10,14,15,16,17,18] TA ⟨[(2,.i f y),(8,.i f 0),(9,.i f a),(10,.i f b),(11,.i f u),(13,.i f d),(14,.i f e),(15,.i f q),(16,.i f r)],m,[A,A],[]⟩))=(TB,[(2,.i f y),(8,.i f 0),(9,.i f a),(10,.i f b),(14,.i f e),(15,.i f q),(16,.i f (U.u64.wrap (c-U.u64.wrap (g*a)))),(17,.i f c),(18,.i f g)],m,[a !=0,D (U.u64.wrap (q*b)>U.u64.wrap (U.u64.wrap (h*r)+d))==A,D (q≥h)==A]):=I
abbrev AJ(y a b u d e q r:Int)(m:dE)(w S:Bool):Prop:=letI c:U:= .u64;letI f:=U.u64.wrap (r+a);(oS (eC CQ 135 200 [2,8,9,10,11,13,14,15,16] TA ⟨[(2,.i c y),(8,.i c 0),(9,.i c a),(10,.i c b),(11,.i c u),(13,.i c d),(14,.i c e),(15,.i c q),(16,.i c r)],m,[w,G,A],[]⟩))=(TA,[(2,.i c y),(8,.i c 0),(9,.i c a),(10,.i c b),(11,.i c u),(13,.i c d),(14,.i c e),(15,.i c (U.u64.wrap (q-1))),(16,.i c f)],m,[D (f≥4294967296)==A,S,D (q≥4294967296)==w])
theorem abu(y a b u d e q r:Int)(m:dE):AJ y a b u d e q r m G G:=dR
theorem ajl(y a b u d e q r:Int)(m:dE):AJ y a b u d e q r m A (D (U.u64.wrap (q*b)>U.u64.wrap (U.u64.wrap (4294967296*r)+d))==G):=dR
abbrev yW(y a b u d e q r:Int)(m:dE)(w S:Bool):Prop:=letI h:Int:=4294967296;letI c:Int:=U.u64.wrap (U.u64.wrap (U.u64.wrap (u*h)+d)-U.u64.wrap (U.u64.wrap (q-1)*y));letI f:U:= .u64;letI g:=U.u64.wrap (c.tdiv a);(oS (eC CQ 135 200 [2,8,9,10,14,15,16,17,18] TA ⟨[(2,.i f y),(8,.i f 0),(9,.i f a),(10,.i f b),(11,.i f u),(13,.i f d),(14,.i f e),(15,.i f q),(16,.i f r)],m,[w,G,G],[]⟩))=(TB,[(2,.i f y),(8,.i f 0),(9,.i f a),(10,.i f b),(14,.i f e),(15,.i f (U.u64.wrap (q-1))),(16,.i f (U.u64.wrap (c-U.u64.wrap (g*a)))),(17,.i f c),(18,.i f g)],m,[a !=0,D (U.u64.wrap (r+a)≥h)==G,S,D (q≥h)==w])
theorem WJ(y a b u d e q r:Int)(m:dE):yW y a b u d e q r m G G:=dR
theorem Xd(y a b u d e q r:Int)(m:dE):yW y a b u d e q r m A (D (U.u64.wrap (q*b)>U.u64.wrap (U.u64.wrap (4294967296*r)+d))==G):=dR
abbrev AD(y a b v e p q r:Int)(m:dE)(w S:Bool):Prop:=letI c:U:= .u64;letI d:=U.u64.wrap (r+a);(oS (eC CQ 135 200 [2,8,9,10,14,15,16,17,18] TB ⟨[(2,.i c y),(8,.i c 0),(9,.i c a),(10,.i c b),(14,.i c e),(15,.i c p),(16,.i c r),(17,.i c v),(18,.i c q)],m,[w,G,A],[]⟩))=(TB,[(2,.i c y),(8,.i c 0),(9,.i c a),(10,.i c b),(14,.i c e),(15,.i c p),(16,.i c d),(17,.i c v),(18,.i c (U.u64.wrap (q-1)))],m,[D (d≥4294967296)==A,S,D (q≥4294967296)==w])
theorem ahu(y a b v e p q r:Int)(m:dE):AD y a b v e p q r m G G:=dR
theorem acr(y a b v e p q r:Int)(m:dE):AD y a b v e p q r m A (D (U.u64.wrap (q*b)>U.u64.wrap (U.u64.wrap (4294967296*r)+e))==G):=dR
abbrev sU(y a b v e p q r:Int)(m:dE)(w:List Bool)(S:Int)(f:(List Bool->List Bool))(u3:Bool):Prop:=letI c:U:= .u64;letI d:Int:=4294967296;(gi f197.results.toList (et CQ 135 N 200 TB ⟨[(2,.i c y),(8,.i c 0),(9,.i c a),(10,.i c b),(14,.i c e),(15,.i c p),(16,.i c r),(17,.i c v),(18,.i c q)],m,w,[]⟩))=(G,E (.t [.i c (U.u64.wrap (U.u64.wrap (p*d)+S)),.i c ((U.u64.wrap (U.u64.wrap (U.u64.wrap (v*d)+e)-U.u64.wrap (S*y))).fdiv 1)]),m,(f [D (q≥d)==u3]))
theorem XE(y a b v e p q r:Int)(m:dE):sU y a b v e p q r m [A,A] q (λS=>G::(D (U.u64.wrap (q*b)>U.u64.wrap (U.u64.wrap (4294967296*r)+e))==A)::S) A:=dR
theorem Ww(y a b v e p q r:Int)(m:dE):sU y a b v e p q r m [G,G,G] (U.u64.wrap (q-1)) (λS=>G::(D (U.u64.wrap (r+a)≥4294967296)==G)::(G)::S) G:=dR
theorem UW(y a b v e p q r:Int)(m:dE):sU y a b v e p q r m [A,G,G] (U.u64.wrap (q-1)) (λS=>G::(D (U.u64.wrap (r+a)≥4294967296)==G)::(D (U.u64.wrap (q*b)>U.u64.wrap (U.u64.wrap (4294967296*r)+e))==G)::S) A:=dR
theorem VC(h l y:Int)(m:dE):letI a:Int:=U.u64.wrap (64-(↑(bitLen y.toNat):Int));letI f:U:= .u64;letI e:Int:=2^min a.toNat 64;letI b:Int:=eA BinOp.or f (U.u64.wrap (h*e)) (l.fdiv (2^min (U.u64.wrap (64-a)).toNat 64));letI c:=U.u64.wrap (y*e);letI k:Int:=4294967296;letI d:=c.fdiv k;letI g:=U.u64.wrap (b.tdiv d);letI j:=U.u64.wrap (l*e);(oS (eC CQ f197.ntmps 200 [2,8,9,10,11,13,14,15,16] [.code (dB f197)] ⟨fo 0 [.i f h,.i f l,.i f y],m,[A,A,A],[]⟩))=(TA,[(2,.i f c),(8,.i f a),(9,.i f d),(10,.i f (eA BinOp.and f c 4294967295)),(11,.i f b),(13,.i f (j.fdiv k)),(14,.i f (eA BinOp.and f j 4294967295)),(15,.i f g),(16,.i f (U.u64.wrap (b-U.u64.wrap (g*d))))],m,[c.fdiv (k:Int)!=0,G,D (0<=a),D (0<=U.u64.wrap (64-a)),D (0<=a),G,D (0<=a),lk [y],(h==0)==A,D (y<=h)==A,(y==0)==A]):=I
theorem Nd(l y:Int)(m:dE):(gi f197.results.toList (et CQ f197.ntmps N 200 [.code (dB f197)] ⟨fo 0 [.i .u64 0,.i .u64 l,.i .u64 y],m,[A,A,G],[]⟩))=(G,E (.t [.i .u64 (U.u64.wrap (l.tdiv y)),.i .u64 (l.tmod y)]),m,[y !=0,y !=0,G,D (y<=0)==A,(y==0)==A]):=I
theorem tM:ji B CQ:=gy dD (M4 _)
theorem Pe{n:Nat}(h:n<18446744073709551616):U.u64.wrap (n:Int)=(n:Int):=mP O
theorem yz{a b:Nat}(h:a*b<18446744073709551616):U.u64.wrap ((a:Int)*(b:Int))=((a*b:Nat):Int):=by rw[<-lJ];exact Pe h
theorem Cw{a b:Nat}(h:a+b<18446744073709551616):U.u64.wrap ((a:Int)+(b:Int))=((a+b:Nat):Int):=by rw[<-rJ];exact Pe h
section
variable{y a b u d e:Nat}(hy:y=a*4294967296+b)(ha:2147483648<=a)(ha':a<4294967296)(hb:b<4294967296)(hu:u<y)(hd:d<4294967296)(he:e<4294967296)
include hy ha ha' hb hu hd
theorem Ru(z:q=(u*4294967296+d)/y):
    U.u64.wrap (U.u64.wrap (U.u64.wrap ((u:Int)*4294967296)+(d:Int))-U.u64.wrap ((q:Int)*(y:Int)))=(((u*4294967296+d)%y:Nat):Int):=by
  have M:=zF (u*4294967296+d) y;have S:=iD (u*4294967296+d) (O:0<y);rw[<-z]at M;rw[kq,kq,kq,kq,<-lJ,kP q y];generalize y*q=P at*;generalize(u*4294967296+d)%y=w at*;omega
theorem Uf{w:Nat}(H:w<y):letI b:=((w/a:Nat):Int);U.u64.wrap ((w:Int).tdiv (a:Int))=b/\U.u64.wrap ((w:Int)-U.u64.wrap (b*(a:Int)))=((w%a:Nat):Int):=by
  have M:=zF w a;have S:=iD w (O:0<a);have l:w/a<=w:=zg _ _;constructor
  .rw [<-La,Pe O]
  .rw [<-lJ,kP (w/a) a];generalize a*(w/a)=P at*;rw[Pe O,kq];omega
theorem Xk{m:dE}{Q:V->dE->Prop}:letI c:Nat:=u*4294967296+d;letI f:U:= .u64;∀(hk:Ev B CQ 197 135 m.length [] TB [(2,.i f (y:Int)),(8,.i f 0),(9,.i f (a:Int)),(10,.i f (b:Int)),(14,.i f (e:Int)),(15,.i f ((c/y:Nat):Int)),(16,.i f (((c)%y%a:Nat):Int)),(17,.i f (((c)%y:Nat):Int)),(18,.i f (((c)%y/a:Nat):Int))] m Q),∀
      (k q r:Nat),q<=k->u=q*a+r->r<4294967296->(c)/y<=q->q<=4294967297->
      Ev B CQ 197 135 m.length [] TA [(2,.i f (y:Int)),(8,.i f 0),(9,.i f (a:Int)),(10,.i f (b:Int)),(11,.i f (u:Int)),(13,.i f (d:Int)),(14,.i f (e:Int)),(15,.i f (q:Int)),(16,.i f (r:Int))] m Q:=by
  intro hk;have hV:=iD (u*4294967296+d) (O:0<y);obtain⟨R,M⟩:=Uf hy ha ha' hb hu hd hV;have l:u<a*4294967296+b:=O;have h:(u*4294967296+d)/y=(u*4294967296+d)/(a*4294967296+b):=by rw[hy]
  have v: ∀q:Nat,q=(u*4294967296+d)/y-> ∀(w:Int),Ev B CQ 197 135 m.length [] TB
   [(
    2,.i .u64 (y:Int)),(8,.i .u64 0),(9,.i .u64 (a:Int)),(10,.i .u64 (b:Int)),(14,.i .u64 (e:Int)),(15,.i .u64 (q:Int)),
    (16,.i .u64 (U.u64.wrap (U.u64.wrap (U.u64.wrap (U.u64.wrap ((u:Int)*4294967296)+(d:Int))-U.u64.wrap ((q:Int)*(y:Int)))-U.u64.wrap (U.u64.wrap ((U.u64.wrap (U.u64.wrap (U.u64.wrap ((u:Int)*4294967296)+(d:Int))-U.u64.wrap ((q:Int)*(y:Int)))).tdiv (a:Int))*(a:Int))))),
    (17,.i .u64 (U.u64.wrap (U.u64.wrap (U.u64.wrap ((u:Int)*4294967296)+(d:Int))-U.u64.wrap ((q:Int)*(y:Int))))),
    (18,.i .u64 (U.u64.wrap ((U.u64.wrap (U.u64.wrap (U.u64.wrap ((u:Int)*4294967296)+(d:Int))-U.u64.wrap ((q:Int)*(y:Int)))).tdiv (a:Int))))] m Q:=λq z w=>by
    rw[Ru hy ha ha' hb hu hd z,R,M,z];exact hk
  have i:(((a:Int))!=0)=G:=gp
  have exit: ∀q r:Nat,u=q*a+r->r<4294967296->(u*4294967296+d)/y<=q->q<4294967296->q*b<=4294967296*r+d->
   Ev B CQ 197 135 m.length [] TA [(2,.i .u64 (y:Int)),(8,.i .u64 0),(9,.i .u64 (a:Int)),(10,.i .u64 (b:Int)),(11,.i .u64 (u:Int)),(13,.i .u64 (d:Int)),(14,.i .u64 (e:Int)),(15,.i .u64 (q:Int)),(16,.i .u64 (r:Int))] m Q:=λq r j g o z s=>by
    have P:=B0 ha ha' hb l hd j s (by rw[<-h];exact o);have T:=yz (a:=q) (b:=b) O;have L:=yz (a:=4294967296) (b:=r) O;have p:=Cw (a:=4294967296*r) (b:=d) O;refine fa (eB tM) (Yn y a b u d e q r m) ?_ K ?_
    .rw [T,show((4294967296:Int))=((4294967296:Nat):Int)from K,L,p];simp only[dK,dJ,eu,ew,Nat.reduceAdd,Nat.reduceLT,i];omega
    .exact v q (by rw[h];exact P) 0
  intro k
  induction k with
  |zero=>
   intro q r S j g o x;have:q=0:=O;subst this;exact exit 0 r j g o O O
  |succ k ih=>
   intro q r S j g o x;by_cases s:4294967296<=q∨4294967296*r+d<q*b
   .obtain⟨g0,n,C⟩:=Tn ha ha' hb l hd j s (by rw[<-h];exact o);have aa:q*b<=4294967297*4294967295:=uN x O;have T:=yz (a:=q) (b:=b) O;have L:=yz (a:=4294967296) (b:=r) O;have p:=Cw (a:=4294967296*r) (b:=d) O;have F:=Cw (a:=r) (b:=a) O;have t:U.u64.wrap ((q:Int)-1)=((q-1:Nat):Int):=by rw[mP O];omega
    by_cases H:4294967296<=r+a
    .have P:=MX ha ha' hb l hd n H O C;by_cases h1:4294967296<=q
     .refine fa (eB tM) (WJ y a b u d e q r m) ?_ K ?_
      .rw [F];simp only[dK,dJ,eu,ew,Nat.reduceAdd,Nat.reduceLT,i];omega
      .rw [t];exact v (q-1) (by rw[h];exact P) 0
     .refine fa (eB tM) (Xd y a b u d e q r m) ?_ K ?_
      .rw [F,T,show((4294967296:Int))=((4294967296:Nat):Int)from K,L,p];simp only[dK,dJ,eu,ew,Nat.reduceAdd,Nat.reduceLT,i];omega
      .rw [t];exact v (q-1) (by rw[h];exact P) 0
    .by_cases h1:4294967296<=q
     .refine fa (eB tM) (abu y a b u d e q r m) ?_ K ?_
      .rw [F];simp only[dK,dJ,eu,ew,Nat.reduceAdd,Nat.reduceLT,i];omega
      .rw [t,F];exact ih (q-1) (r+a) O n O (by rw[h];exact C) O
     .refine fa (eB tM) (ajl y a b u d e q r m) ?_ K ?_
      .rw [F,T,show((4294967296:Int))=((4294967296:Nat):Int)from K,L,p];simp only[dK,dJ,eu,ew,Nat.reduceAdd,Nat.reduceLT,i];omega
      .rw [t,F];exact ih (q-1) (r+a) O n O (by rw[h];exact C) O
   .exact exit q r j g o O O
theorem X8{m:dE}{p:Nat}(hp:p<4294967296):letI c:Nat:=4294967296;letI e:U:= .u64;∀
      (k q r:Nat),q<=k->u=q*a+r->r<c->(u*c+d)/y<=q->q<=4294967297->
      Ev B CQ 197 135 m.length [] TB [(2,.i e (y:Int)),(8,.i e 0),(9,.i e (a:Int)),(10,.i e (b:Int)),(14,.i e (d:Int)),(15,.i e (p:Int)),(16,.i e (r:Int)),(17,.i e (u:Int)),(18,.i e (q:Int))] m
       (λi w=>i= .t [.i e ((p*c+(u*c+d)/y:Nat):Int),.i e (((u*c+d)%y:Nat):Int)]/\w=m):=by
  have l:u<a*4294967296+b:=O;have h:(u*4294967296+d)/y=(u*4294967296+d)/(a*4294967296+b):=by rw[hy]
  have L:=zy ha ha' hb l hd;rw[<-h]at L
  have res: ∀q:Nat,q=(u*4294967296+d)/y->(V.t [.i .u64 (U.u64.wrap (U.u64.wrap ((p:Int)*4294967296)+(q:Int))),.i .u64 ((U.u64.wrap (U.u64.wrap (U.u64.wrap ((u:Int)*4294967296)+(d:Int))-U.u64.wrap ((q:Int)*(y:Int)))).fdiv 1)])=
   .t [.i .u64 ((p*4294967296+(u*4294967296+d)/y:Nat):Int),.i .u64 (((u*4294967296+d)%y:Nat):Int)]:=λq z=>by rw[Ru hy ha ha' hb hu hd z];have T:U.u64.wrap ((p:Int)*4294967296)=((p*4294967296:Nat):Int):=yz (b:=4294967296) O;rw[T,Cw O,z,Int.fdiv_one]
  have exit: ∀q r:Nat,u=q*a+r->r<4294967296->(u*4294967296+d)/y<=q->q<4294967296->q*b<=4294967296*r+d->
   Ev B CQ 197 135 m.length [] TB [(2,.i .u64 (y:Int)),(8,.i .u64 0),(9,.i .u64 (a:Int)),(10,.i .u64 (b:Int)),(14,.i .u64 (d:Int)),(15,.i .u64 (p:Int)),(16,.i .u64 (r:Int)),(17,.i .u64 (u:Int)),(18,.i .u64 (q:Int))] m
    (λi w=>i= .t [.i .u64 ((p*4294967296+(u*4294967296+d)/y:Nat):Int),.i .u64 (((u*4294967296+d)%y:Nat):Int)]/\w=m):=λq r j g o z s=>by
    have P:=B0 ha ha' hb l hd j s (by rw[<-h];exact o);have T:=yz (a:=q) (b:=b) O;have f:=yz (a:=4294967296) (b:=r) O;have Q:=Cw (a:=4294967296*r) (b:=d) O;refine Ev.done (eB tM) (XE y a b u d p q r m) ?_ ⟨res q (by rw[h];exact P),K⟩;rw[T,show((4294967296:Int))=((4294967296:Nat):Int)from K,f,Q];simp only[dK,dJ,eu,ew,Nat.reduceAdd,Nat.reduceLT];omega
  intro k
  induction k with
  |zero=>
   intro q r S j g o x;have:q=0:=O;subst this;exact exit 0 r j g o O O
  |succ k v=>
   intro q r S j g o x;by_cases s:4294967296<=q∨4294967296*r+d<q*b
   .obtain⟨g0,n,C⟩:=Tn ha ha' hb l hd j s (by rw[<-h];exact o);have M:q*b<=4294967297*4294967295:=uN x O;have T:=yz (a:=q) (b:=b) O;have f:=yz (a:=4294967296) (b:=r) O;have Q:=Cw (a:=4294967296*r) (b:=d) O;have F:=Cw (a:=r) (b:=a) O;have t:U.u64.wrap ((q:Int)-1)=((q-1:Nat):Int):=by rw[mP O];omega
    by_cases H:4294967296<=r+a
    .have P:=MX ha ha' hb l hd n H O C;by_cases R:4294967296<=q
     .refine Ev.done (eB tM) (Ww y a b u d p q r m) ?_ (by rw[t];exact⟨res (q-1) (by rw[h];exact P),K⟩);rw[F];simp only[dK,dJ,eu,ew,Nat.reduceAdd,Nat.reduceLT];omega
     .refine Ev.done (eB tM) (UW y a b u d p q r m) ?_ (by rw[t];exact⟨res (q-1) (by rw[h];exact P),K⟩);rw[F,T,show((4294967296:Int))=((4294967296:Nat):Int)from K,f,Q];simp only[dK,dJ,eu,ew,Nat.reduceAdd,Nat.reduceLT];omega
    .by_cases R:4294967296<=q
     .refine fa (eB tM) (ahu y a b u d p q r m) ?_ K ?_
      .rw [F];simp only[dK,dJ,eu,ew,Nat.reduceAdd,Nat.reduceLT];omega
      .rw [t,F];exact v (q-1) (r+a) O n O (by rw[h];exact C) O
     .refine fa (eB tM) (acr y a b u d p q r m) ?_ K ?_
      .rw [F,T,show((4294967296:Int))=((4294967296:Nat):Int)from K,f,Q];simp only[dK,dJ,eu,ew,Nat.reduceAdd,Nat.reduceLT];omega
      .rw [t,F];exact v (q-1) (r+a) O n O (by rw[h];exact C) O
   .exact exit q r j g o O O
end
theorem K7(h R i y:Nat)(hy:0<y):letI a:Nat:=4294967296;letI b:Nat:=h*18446744073709551616+(R*a+i);letI c:=(h*a+R)%y*a+i;(b)/y=(h*a+R)/y*a+(c)/y/\
    (b)%y=(c)%y:=by
  have M:=zF (h*4294967296+R) y
  have e:h*18446744073709551616+(R*4294967296+i)=y*((h*4294967296+R)/y*4294967296)+((h*4294967296+R)%y*4294967296+i):=by rw[<-lH];generalize y*((h*4294967296+R)/y)=P at*;omega
  rw[e];exact⟨by rw[K9 hy],by rw[Nat.mul_add_mod]⟩
theorem aax(m:dE)(h l y:Nat)(hy:9223372036854775808<=y):letI a:Nat:=18446744073709551616;∀(i:y<a)(P:h<y)(f:l<a),eM B (λ_=>N) 197 [.i .u64 (h:Int),.i .u64 (l:Int),.i .u64 (y:Int)] m
      (λo m'=>o= .t [.i .u64 (((h*a+l)/y:Nat):Int),.i .u64 (((h*a+l)%y:Nat):Int)]/\m'=m):=by
  intro i P f;refine dL CQ f197 ?_;have t:(((y:Int))!=0)=G:=gp;rcases np h with C|C
  .subst C;refine Ev.done (fn:=f197) (eB tM) (j:=200) (z:=[A,A,G]) (Nd l y m) ?_ ?_
   .simp only[dK,dJ,eu,ew,Nat.reduceAdd,Nat.reduceLT,t];omega
   .rw [<-La,Pe (by have:=zg l y;omega),GW,ir];exact⟨K,K⟩
  .have F:bitLen y=64:=by have h1:=pL y 64 O;have h2:=tG y 63 O;have h3:y/2^63=1:=O;rw[h3]at h2;have:bitLen 1=1:=J;omega
   have j:((bitLen (y:Int).toNat:Nat):Int)=64:=by rw[dU,F];rfl
   have S:U.u64.wrap (64-64)=0:=by rw[mP O];rfl
   have c:U.u64.wrap (64-0)=64:=by rw[mP O];rfl
   have M:(2:Int)^min (0:Int).toNat 64=1:=K;have L:(2:Int)^min (64:Int).toNat 64=18446744073709551616:=K;have w: ∀n:Nat,(n:Int).fdiv 4294967296=((n/4294967296:Nat):Int):=λn=>by rw[kB _ O];rfl
   have Q:(l:Int).fdiv 18446744073709551616=0:=by rw[kB _ O];omega
   have x: ∀n:Nat,n<18446744073709551616->eA .and .u64 (n:Int) 4294967295=((n%4294967296:Nat):Int):=λn hn=>Bf n hn
   have R:eA .or .u64 (h:Int) 0=(h:Int):=by have:=Sc h 0 O O;rw[show((0:Int))=((0:Nat):Int)from K,this,Nat.or_zero]
   refine fa (eB tM) (VC h l y m) ?_ K ?_
   .simp only[j,S,c,M,L,jU,Pe i,Pe (O:h<18446744073709551616),Pe f,w,Q,x y i,x l f,R];have ho:lk [(y:Int)]=G:=by simp only[lk,eG];exact⟨O,O⟩
    have g:(((y/4294967296:Nat):Int)!=0)=G:=gp;simp only[dK,dJ,eu,ew,Nat.reduceAdd,Nat.reduceLT,ho,g];omega
   .simp only[j,S,c,M,L,jU,Pe i,Pe (O:h<18446744073709551616),Pe f,w,Q,x y i,x l f,R];have q:y=y/4294967296*4294967296+y%4294967296:=O;have ha:2147483648<=y/4294967296:=O;have ha':y/4294967296<4294967296:=O;have hb:y%4294967296<4294967296:=O;have hd:l/4294967296<4294967296:=O;have he:l%4294967296<4294967296:=O
    have s: ∀u d:Nat,u<y->d<4294967296->(u*4294967296+d)/y<=u/(y/4294967296)/\u/(y/4294967296)<=4294967297:=λu d hu hd=>by
      have:=RO (u:=u) (d:=d) ha ha' hb O hd
      rwa [<-q]at this
    have split: ∀u:Nat,u=u/(y/4294967296)*(y/4294967296)+u%(y/4294967296):=λu=>by have:=zF u (y/4294967296);rw[kP]at this;omega
    have small: ∀u:Nat,u%(y/4294967296)<4294967296:=λu=>by have:=iD u (O:0<y/4294967296);omega
    obtain⟨q1,z⟩:=Uf (d:=l/4294967296) q ha ha' hb P hd P;rw[q1,z];have H:=iD (h*4294967296+l/4294967296) (O:0<y)
    have T:(h*4294967296+l/4294967296)/y<4294967296:=by
      have:=zy (u:=h) (d:=l/4294967296) ha ha' hb O hd
      rwa [<-q]at this
    have r:l=l/4294967296*4294967296+l%4294967296:=O;obtain⟨v,k⟩:=K7 h (l/4294967296) (l%4294967296) y O;rw[<-r]at v k;refine Xk (m:=m) (e:=l%4294967296) q ha ha' hb P hd ?_ (h/(y/4294967296)) _ _ (eT _) (split h) (small h) (s h _ P hd).1 (s h _ P hd).2;have:=X8 (m:=m) (p:=(h*4294967296+l/4294967296)/y) q ha ha' hb H he T _ _ _ (eT _) (split _) (small _) (s _ _ H he).1 (s _ _ H he).2;rw[v,k];exact this
def H6:QF:=λargs _=>
  match args with
  |[.i .u64 h,.i .u64 l,.i .u64 y]=>E (.t [.i .u64 ((h*18446744073709551616+l)/y),.i .u64 ((h*18446744073709551616+l)%y)],D (y<18446744073709551616/\0<=h/\h<y/\gn l/\(9223372036854775808<=y∨h=0)))
  |_=>N
theorem WN(R:Nat->Option Nat)(m:dE)(l y:Nat)(hy:0<y)(f:l<18446744073709551616):
    eM B R 197 [.i .u64 0,.i .u64 (l:Int),.i .u64 (y:Int)] m (λv c=>v= .t [.i .u64 ((l/y:Nat):Int),.i .u64 ((l%y:Nat):Int)]/\c=m):=by
  refine dL (ep R [] Q3) f197 ?_;have t:(((y:Int))!=0)=G:=gp;refine Ev.done (fn:=f197) (gK dD (M4 _)) (j:=200) (z:=[A,A,G]) (Nd l y m) ?_ ?_
  .simp only[dK,dJ,eu,ew,Nat.reduceAdd,Nat.reduceLT,t];omega
  .rw [<-La,Pe (by have:=zg l y;omega)];exact⟨K,K⟩
theorem Vk(R:Nat->Option Nat):oR B R 197 H6:=by
  refine gD λargs m r c=>?_
  unfold H6 at c;split at c
  .rename_i h l y;simp only[eJ,ef,eG]at c;obtain⟨rfl,j,C,M,f,F⟩:=c;obtain⟨h,rfl⟩:=fy C;obtain⟨l,rfl⟩:=fy f.1;obtain⟨y,rfl⟩:=fy (O:0<=y);intro q w g p;rcases F with F|F
   .exact aax m h l y O O O (by have:=f.2;omega) q w g (λ_ _ h=>by cases h)
   .have P:h=0:=O;subst P;have:=WN (λ_=>N) m l y O (by have:=f.2;omega) q w g (λ_ _ h=>by cases h);have T:(((0:Nat):Int)*18446744073709551616+(l:Int))=(l:Int):=O;rw[T];exact this
  .cases c
theorem aos(R:Nat->Option Nat)(h l y:Int)(m:dE):letI a:Int:=18446744073709551616;(gi f174.results.toList (et (ep R [] [(197,H6)]) f174.ntmps N 200 [.code (dB f174)] ⟨fo 0 [.i .u64 h,.i .u64 l,.i .u64 y],m,[],[]⟩))=(G,E (.t [.i .u64 ((h*a+l)/y),.i .u64 ((h*a+l)%y)]),m,[D (y<(a:Int)/\0<=h/\h<y/\gn l/\(9223372036854775808<=y∨h=0))]):=I
theorem M9(R:Nat->Option Nat):oR B R 174 H6:=by
  refine gD λargs m r c=>?_
  unfold H6 at c;split at c
  .rename_i h l y;simp only[eJ,ef]at c;obtain⟨rfl,F⟩:=c;refine dL (ep R [] [(197,H6)]) f174 ?_;refine Ev.done (gK dD ⟨⟨ga f197,Vk R⟩,dD⟩) (aos R h l y m) ?_ ?_
   .simp only[dK,dJ,eu,ew,Nat.reduceAdd,Nat.reduceLT];simpa using F
   .simp only[eG]at F;obtain⟨j,C,M,f,F⟩:=F;have P:=f.1;have L:=f.2;have g:0<y:=O;have T:0<=(h*18446744073709551616+l)/y:=n9 O O;have k:(h*18446744073709551616+l)/y<18446744073709551616:=rD g O;have Q:=j7 (h*18446744073709551616+l) (O:y≠0);have i:=j6 (h*18446744073709551616+l) g
    try rw[mP (n:=(h*18446744073709551616+l)/y) O,mP (n:=(h*18446744073709551616+l)%y) O]
    exact⟨K,K⟩
  .cases c
def iA(d:Int):Int:=((18446744073709551615-d)*18446744073709551616+18446744073709551615)/d
def Nk{d:Int}(z:9223372036854775808<=d):letI a:Int:=18446744073709551616;∀(T:d<a),0<=iA d/\iA d<a/\d*iA d+d*a<=340282366920938463463374607431768211455/\340282366920938463463374607431768211456<=d*iA d+d*a+d:=by intro T;have M:=tH ((18446744073709551615-d)*18446744073709551616+18446744073709551615) d;have S:=j7 ((18446744073709551615-d)*18446744073709551616+18446744073709551615) (O:d≠0);have l:=j6 ((18446744073709551615-d)*18446744073709551616+18446744073709551615) (O:0<d);have u:iA d<18446744073709551616:=rD O O;have y:0<=iA d:=n9 O O;unfold iA at*;generalize((18446744073709551615-d)*18446744073709551616+18446744073709551615)/d=q at*;generalize((18446744073709551615-d)*18446744073709551616+18446744073709551615)%d=r at*;generalize d*q=P at*;omega
def oI(d H F:Int):Int:=(iA d*H+F)/18446744073709551616+H
def yn{d H F:Int}(z:9223372036854775808<=d)(e:d<18446744073709551616)(M:0<=H)(c:H<d)(C:gn F):letI a:Int:=18446744073709551616;letI b:=oI d H F;0<=b/\b<a/\d*b<=H*a+F/\H*a+F<d*b+a+d:=by
  obtain⟨l,y,x,r⟩:=Nk z e;have q:=C.1;have a1:=C.2;have v:=tH (iA d*H+F) 18446744073709551616;have k:=j7 (iA d*H+F) (O:(18446744073709551616:Int)≠0);have j:=j6 (iA d*H+F) (O:(0:Int)<18446744073709551616);have o:0<=iA d*H:=jL l M;unfold oI;generalize Q:(iA d*H+F)/18446744073709551616=g at*;generalize(iA d*H+F)%18446744073709551616=t at*;have m:0<=g:=O
  have e1:d*(18446744073709551616*g)=d*(iA d*H)+d*F-d*t:=by have:18446744073709551616*g=iA d*H+F-t:=O;rw[this,pU,fh]
  have e2:d*(iA d*H)=H*(d*iA d):=by ac_rfl
  have P:H*(d*iA d+d*18446744073709551616)<=H*340282366920938463463374607431768211455:=gF x M;have L:H*340282366920938463463374607431768211456<=H*(d*iA d+d*18446744073709551616+d):=gF r M;have b3:d*F<=18446744073709551616*F:=qg O q;have b4:(18446744073709551616-d)*F<=(18446744073709551616-d)*18446744073709551615:=gF O O;have b5:0<=d*t:=jL O k;have b6:d*t<=d*18446744073709551615:=gF O O;have w:H*d<=(d-1)*d:=qg O O;have b8:d*d<=d*18446744073709551615:=gF O O;have e3:d*(18446744073709551616*g)=18446744073709551616*(d*g):=by ac_rfl
  have p:H*(d*18446744073709551616)=18446744073709551616*(H*d):=by ac_rfl
  have n:d*(g+H)=d*g+H*d:=by rw[fh,eD d H]
  rw[fh,p]at P;rw[fh,fh,p]at L;rw[ui]at b4 w;rw[jT]at w
  have u:d*(g+H)<=H*18446744073709551616+F:=by rw[n];generalize H*(d*iA d)=R at*;generalize d*g=T at*;generalize H*d=f at*;generalize d*F=s at*;generalize d*t=Z at*;omega
  have S:H*18446744073709551616+F<d*(g+H)+18446744073709551616+d:=by rw[n];generalize H*(d*iA d)=R at*;generalize d*g=T at*;generalize H*d=f at*;generalize d*F=s at*;generalize d*t=Z at*;generalize d*d=i at*;omega
  refine⟨O,?_,u,S⟩;rcases k9 (g+H) 18446744073709551616 with h|h
  .exact h
  .exfalso;have:d*18446744073709551616<=d*(g+H):=gF h O;omega
end Go.Proofs.YtiggidfngfkanaaGreatDoor
