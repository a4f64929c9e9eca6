/- FnPacked, part 11. No condition. -/
import Derived.Test.YtiggidfngfkanaaGreatDoorW10
namespace Go.Proofs.YtiggidfngfkanaaGreatDoor
open Go Go.Proofs.Tryz
set_option maxRecDepth 100000
set_option maxHeartbeats 4000000
set_option linter.all false
open Bool renaming false->A, true->G
open Decidable renaming decide->D
open Go renaming IntKind->U, TypeId->es, Value->ip
open Go.Proofs.Tryz renaming prog->B
open List renaming drop->kw, replicate->lc, take->jp
open Option renaming none->N, some->E
variable{M a b j k v x z:Int}{H p:List Int}{T n:Nat}{ty:es}
def L0:jB:=λargs m=>
  match args,m with
  |[.s N 0 0,.p N,.s (E (3,0)) w C,.s (E (3,0)) o Q,.s (E (4,0)) n k],[a,b,⟨.lit [.i .i64 z],M⟩,⟨.ws .u64 H,t⟩,⟨.ws .u64 p,j⟩,q]=>
   E (.t [.s (E (6,0)) (ib (gJ o (val (H.take o)/val (p.take n)) (lc (dM o) 0)) o) (dM o),.s (E (3,0)) (if val (H.take o)%val (p.take n)=0 then 0 else 1) H.length],[a,b,⟨.lit [.i .i64 z],M⟩,⟨.ws .u64 (if val (H.take o)%val (p.take n)=0 then H else H.set 0 (val (H.take o)%val (p.take n))),t⟩,⟨.ws .u64 p,j⟩,q,⟨.ws .u64 (gJ o (val (H.take o)/val (p.take n)) (lc (dM o) 0)),137⟩],
     ed (D ((w=o/\C=H.length/\Q=H.length)/\(o<100000/\0<o/\o<=H.length/\H.length<=9223372036854775807/\0<n/\n<=k/\n<=p.length/\dG H/\dG p/\0<H.getD (o-1) 0/\0<p.getD (n-1) 0)/\n=1/\val (p.take n)≠1)) (ek 6 [a,b,⟨.lit [.i .i64 z],M⟩,⟨.ws .u64 H,t⟩,⟨.ws .u64 p,j⟩,q]))
  |_,_=>N
def RE:jB:=λargs m=>
  match args,m with
  |[.s N 0 0,.p N,.s (E (3,0)) w C,.s (E (3,0)) o Q,.s (E (4,0)) n k],[a,b,⟨.lit [.i .i64 z],M⟩,⟨.ws .u64 H,t⟩,⟨.ws .u64 p,j⟩,q]=>
   E (.t [.s N 0 0,.s (E (3,0)) o H.length],[a,b,⟨.lit [.i .i64 z],M⟩,⟨.ws .u64 H,t⟩,⟨.ws .u64 p,j⟩,q],
     ed (D ((w=o/\C=H.length/\Q=H.length)/\(o<100000/\0<o/\o<=H.length/\H.length<=9223372036854775807/\0<n/\n<=k/\n<=p.length/\dG H/\dG p/\0<H.getD (o-1) 0/\0<p.getD (n-1) 0)/\n≠1/\val (H.take o)<val (p.take n))) (ek 6 [a,b,⟨.lit [.i .i64 z],M⟩,⟨.ws .u64 H,t⟩,⟨.ws .u64 p,j⟩,q]))
  |_,_=>N
def Td:jB:=λargs m=>
  match args,m with
  |[.s N 0 0,.p N,.s (E (3,0)) w C,.s (E (3,0)) o Q,.s (E (4,0)) n k],[a,b,⟨.lit [.i .i64 z],M⟩,⟨.ws .u64 H,t⟩,⟨.ws .u64 p,j⟩,q]=>
   E (.t [.s (E (9,0)) (ib (gJ (1+(o-n)) (val (H.take o)/val (p.take n)) (lc (dM (1+(o-n))) 0)) (1+(o-n))) (dM (1+(o-n))),.s (E (8,0)) (ib (gJ (1+o) (val (H.take o)%val (p.take n)) (lc (dM (1+o)) 0)) (1+o)) (dM (1+o))],[a,b,⟨.lit [.i .i64 z],M⟩,⟨.ws .u64 H,t⟩,⟨.ws .u64 p,j⟩,q,⟨.dead,0⟩,⟨.dead,0⟩,⟨.ws .u64 (gJ (1+o) (val (H.take o)%val (p.take n)) (lc (dM (1+o)) 0)),137⟩,⟨.ws .u64 (gJ (1+(o-n)) (val (H.take o)/val (p.take n)) (lc (dM (1+(o-n))) 0)),137⟩],
     ed (D ((w=o/\C=H.length/\Q=H.length)/\(o<100000/\0<o/\o<=H.length/\H.length<=9223372036854775807/\0<n/\n<=k/\n<=p.length/\dG H/\dG p/\0<H.getD (o-1) 0/\0<p.getD (n-1) 0)/\2<=n/\n<=4/\(n:Int)<z/\ ¬val (H.take o)<val (p.take n)/\H.length<o+1)) (ek 6 [a,b,⟨.lit [.i .i64 z],M⟩,⟨.ws .u64 H,t⟩,⟨.ws .u64 p,j⟩,q]))
  |_,_=>N
def Qq:jB:=λargs m=>
  match args,m with
  |[.s N 0 0,.p N,.s (E (3,0)) w C,.s (E (3,0)) o Q,.s (E (4,0)) n k],[a,b,⟨.lit [.i .i64 z],M⟩,⟨.ws .u64 H,t⟩,⟨.ws .u64 p,j⟩,q]=>
   E (.t [.s (E (8,0)) (ib (gJ (1+(o-n)) (val (H.take o)/val (p.take n)) (lc (dM (1+(o-n))) 0)) (1+(o-n))) (dM (1+(o-n))),.s (E (3,0)) (ib (gJ (1+o) (val (H.take o)%val (p.take n)) H) (1+o)) H.length],[a,b,⟨.lit [.i .i64 z],M⟩,⟨.ws .u64 (gJ (1+o) (val (H.take o)%val (p.take n)) H),t⟩,⟨.ws .u64 p,j⟩,q,⟨.dead,0⟩,⟨.dead,0⟩,⟨.ws .u64 (gJ (1+(o-n)) (val (H.take o)/val (p.take n)) (lc (dM (1+(o-n))) 0)),137⟩],
     ed (D ((w=o/\C=H.length/\Q=H.length)/\(o<100000/\0<o/\o<=H.length/\H.length<=9223372036854775807/\0<n/\n<=k/\n<=p.length/\dG H/\dG p/\0<H.getD (o-1) 0/\0<p.getD (n-1) 0)/\2<=n/\n<=4/\(n:Int)<z/\ ¬val (H.take o)<val (p.take n)/\o+1<=H.length)) (ek 6 [a,b,⟨.lit [.i .i64 z],M⟩,⟨.ws .u64 H,t⟩,⟨.ws .u64 p,j⟩,q]))
  |_,_=>N
noncomputable abbrev K51(F:jB)(o:List Bool):List (Nat×jB):=put (gd 2) [(111,F)] 82 f82 o
def D9:eo B 111:=ga f111
def sO{F:jB}(h:qI B (gd 2) 111 F)(o:List Bool):fl (gd 2) (K51 F o):=ks (L:=[(111,F)]) (show fl (gd 2) [(111,F)]from⟨⟨D9,h⟩,dD⟩) I I I
def rn{i j:Nat}{o:List Nat}(h:o[i]?=E j): ∀g k,gd i g=E k-> ∃l,o[k]?=E l/\gd j g=E l:=by
  intro g k p;unfold gd at p⊢;cases H:Nat.beq g 4 with
  |true=>rw[H]at p;cases p;exact⟨j,h,K⟩
  |false=>rw[H]at p;cases p
def xV:qI B (gd 2) 111 L0:=by
  refine jR λargs m r u T=>?_
  unfold L0 at T;split at T
  .rename_i w C o R n y a b z M H t p j q;simp only[eJ,ef]at T;obtain⟨rfl,rfl,F⟩:=T;obtain⟨g,c⟩:=dN F;obtain⟨⟨rfl,rfl,rfl⟩,⟨P,L,s,b4,l,f,h,Q,v,i,S⟩,k,d⟩:=fU g
   skip
   refine((SV (t:=t) (ty:=j) (h:=M) (z:=z) P L s b4 l f h Q v i S k d).lift (gl:=gd 2) (m:=[a,b,⟨.lit [.i .i64 z],M⟩,⟨.ws .u64 H,t⟩,⟨.ws .u64 p,j⟩,q]) [3,4,2] ⟨K,K,K,K,K,K,dD⟩ J (rn K) c).mono ?_;rintro r u⟨x,e,⟨rfl,rfl⟩,_,rfl,rfl⟩;exact⟨K,K⟩
  .cases T
def S2:qI B (gd 2) 111 RE:=by
  refine jR λargs m r u T=>?_
  unfold RE at T;split at T
  .rename_i w C o R n y a b z M H t p j q;simp only[eJ,ef]at T;obtain⟨rfl,rfl,F⟩:=T;obtain⟨g,c⟩:=dN F;obtain⟨⟨rfl,rfl,rfl⟩,⟨P,L,s,b4,l,f,h,Q,v,i,S⟩,k,d⟩:=fU g
   skip
   refine((PU (t:=t) (ty:=j) (M:=M) (z:=z) P L s b4 l f h Q v i S k d).lift (gl:=gd 2) (m:=[a,b,⟨.lit [.i .i64 z],M⟩,⟨.ws .u64 H,t⟩,⟨.ws .u64 p,j⟩,q]) [3,4,2] ⟨K,K,K,K,K,K,dD⟩ J (rn K) c).mono ?_;rintro r u⟨x,e,⟨rfl,rfl⟩,_,rfl,rfl⟩;exact⟨K,K⟩
  .cases T
def HO:qI B (gd 2) 111 Td:=by
  refine jR λargs m r u T=>?_
  unfold Td at T;split at T
  .rename_i y cz R cu n cv a b z M H t p j q;simp only[eJ,ef]at T;obtain⟨rfl,rfl,F⟩:=T;obtain⟨g,c⟩:=dN F;obtain⟨⟨rfl,rfl,rfl⟩,⟨P,L,s,b4,x,f,h,Q,v,i,S⟩,k,o,d,l,w⟩:=fU g;simp only[mE 1];refine((Sh (t:=t) (ty:=j) (M:=M) (z:=z) P L s b4 x f h Q v i S k o d l w).lift (gl:=gd 2) (m:=[a,b,⟨.lit [.i .i64 z],M⟩,⟨.ws .u64 H,t⟩,⟨.ws .u64 p,j⟩,q]) [3,4,2] ⟨K,K,K,K,K,K,dD⟩ J (rn K) c).mono ?_;rintro r u⟨C,e,⟨rfl,rfl⟩,_,rfl,rfl⟩;exact⟨K,K⟩
  .cases T
def IG:qI B (gd 2) 111 Qq:=by
  refine jR λargs m r u T=>?_
  unfold Qq at T;split at T
  .rename_i y cz R cu n cv a b z M H t p j q;simp only[eJ,ef]at T;obtain⟨rfl,rfl,F⟩:=T;obtain⟨g,c⟩:=dN F;obtain⟨⟨rfl,rfl,rfl⟩,⟨P,L,s,b4,x,f,h,Q,v,i,S⟩,k,o,d,l,w⟩:=fU g;simp only[mE 1];refine((Tr (t:=t) (ty:=j) (M:=M) (z:=z) P L s b4 x f h Q v i S k o d l w).lift (gl:=gd 2) (m:=[a,b,⟨.lit [.i .i64 z],M⟩,⟨.ws .u64 H,t⟩,⟨.ws .u64 p,j⟩,q]) [3,4,2] ⟨K,K,K,K,K,K,dD⟩ J (rn K) c).mono ?_;rintro r u⟨C,e,⟨rfl,rfl⟩,_,rfl,rfl⟩;exact⟨K,K⟩
  .cases T
abbrev Au(o n:Nat)(H p:List Int)(P R M t ty:es)(z:Int)(w:Bool)(S:(List Bool->List Bool)):Prop:=letI m:=val (jp o H);letI g:=val (jp n p);letI e:Int:=(0:Int);letI a:=gJ o (m/g) (lc (dM o) e);letI c:=m%g;letI d:Nat:=(0:Nat);letI f:Nat:=(9223372036854775807:Nat);letI h:=V.b Bool.false;letI j:Nat:=(1:Nat);letI k:=H.length=H.length;letI l:=if c=e then d else j;(gi f51.results.toList (et (ep (gd 2) (K51 L0 [G,w]) LR) f51.ntmps N 200 [.code (dB f51)] ⟨[(0,.p (E (0,0))),(1,.p (E (0,0))),(2,.p (E (1,0)))],[⟨.lit [.b A,.s (E (3,0)) o H.length],P⟩,⟨.lit [.b A,.s (E (4,0)) n p.length],R⟩,⟨.lit [.i .i64 z],M⟩,⟨.ws .u64 H,t⟩,⟨.ws .u64 p,ty⟩],[A,A,A],[]⟩))=(Bool.true,(E (V.p (E (d,d)))),[⟨eH.lit [h,(V.s (E (((3:Nat)),d)) l (H.length))],P⟩,⟨eH.lit [h,(V.s (E (((4:Nat)),d)) n (p.length))],R⟩,⟨eH.lit [(V.i .i64 z)],M⟩,⟨eH.ws .u64 (if c=e then H else H.set d c),t⟩,⟨eH.ws .u64 p,ty⟩,⟨eH.lit [h,(V.s (E (((6:Nat)),d)) (ib a o) (dM o))],((90:Nat))⟩,⟨eH.ws .u64 a,((137:es))⟩],[Bool.true,Bool.true,(eb (S [Bool.true,Bool.true,(D ((l:Int)>e)==w),Bool.true,Bool.true,Bool.true,Bool.true,(D ((↑(ib a o):Int)>e)==G),Bool.true,Bool.true,Bool.true,Bool.true,(D ((o=o/\k/\k)/\(o<(100000:Nat)/\d<o/\o<=H.length/\H.length<=f/\d<n/\n<=p.length/\n<=p.length/\dG H/\dG p/\e<H.getD (o-j) e/\e<p.getD (n-j) e)/\n=j/\g≠(1:Int))),Bool.true,Bool.true,Bool.true,Bool.true])),Bool.true,(D (H.length<=f/\p.length<=f)),Bool.true,Bool.true,Bool.true])
def WA(o n:Nat)(H p:List Int)(P R M t ty:es)(z:Int):Au o n H p P R M t ty z G (λS=>Bool.true::S):=dR
def Wc(o n:Nat)(H p:List Int)(P R M t ty:es)(z:Int):Au o n H p P R M t ty z A (λS=>S):=dR
abbrev Ad(o n:Nat)(H p:List Int)(P R M t ty:es)(z:Int)(w:Bool)(S:(List Bool->List Bool)):Prop:=letI m:=val (jp o H);letI g:=val (jp n p);letI e:Int:=(0:Int);letI a:=gJ o (m/g) (lc (dM o) e);letI c:=m%g;letI d:Nat:=(0:Nat);letI f:Nat:=(9223372036854775807:Nat);letI h:=V.b Bool.false;letI j:Nat:=(1:Nat);letI k:=H.length=H.length;letI l:=if c=e then d else j;(gi f51.results.toList (et (ep (gd 2) (K51 L0 [A,w]) LR) f51.ntmps N 200 [.code (dB f51)] ⟨[(0,.p (E (0,0))),(1,.p (E (0,0))),(2,.p (E (1,0)))],[⟨.lit [.b A,.s (E (3,0)) o H.length],P⟩,⟨.lit [.b A,.s (E (4,0)) n p.length],R⟩,⟨.lit [.i .i64 z],M⟩,⟨.ws .u64 H,t⟩,⟨.ws .u64 p,ty⟩],[A,A,A],[]⟩))=(Bool.true,(E (V.p (E (d,d)))),[⟨eH.lit [h,(V.s (E (((3:Nat)),d)) l (H.length))],P⟩,⟨eH.lit [h,(V.s (E (((4:Nat)),d)) n (p.length))],R⟩,⟨eH.lit [(V.i .i64 z)],M⟩,⟨eH.ws .u64 (if c=e then H else H.set d c),t⟩,⟨eH.ws .u64 p,ty⟩,⟨eH.lit [h,(V.s (E (((6:Nat)),d)) (ib a o) (dM o))],((90:Nat))⟩,⟨eH.ws .u64 a,((137:es))⟩],[Bool.true,Bool.true,(eb (S [Bool.true,Bool.true,(D ((l:Int)>e)==w),Bool.true,Bool.true,(D ((↑(ib a o):Int)>e)==A),Bool.true,Bool.true,Bool.true,Bool.true,(D ((o=o/\k/\k)/\(o<(100000:Nat)/\d<o/\o<=H.length/\H.length<=f/\d<n/\n<=p.length/\n<=p.length/\dG H/\dG p/\e<H.getD (o-j) e/\e<p.getD (n-j) e)/\n=j/\g≠(1:Int))),Bool.true,Bool.true,Bool.true,Bool.true])),Bool.true,(D (H.length<=f/\p.length<=f)),Bool.true,Bool.true,Bool.true])
def XM(o n:Nat)(H p:List Int)(P R M t ty:es)(z:Int):Ad o n H p P R M t ty z G (λS=>Bool.true::S):=dR
def W5(o n:Nat)(H p:List Int)(P R M t ty:es)(z:Int):Ad o n H p P R M t ty z A (λS=>S):=dR
def X4(o n:Nat)(H p:List Int)(P R M t ty:es)(z:Int):letI a:Nat:=9223372036854775807;letI c:dI:=⟨.lit [.i .i64 z],M⟩;letI d:=H.length=H.length;letI e:V:= .p (E (0,0));letI f:dI:=⟨.ws .u64 H,t⟩;letI g:dI:=⟨.ws .u64 p,ty⟩;(gi f51.results.toList (et (ep (gd 2) (K51 RE [A,G]) LR) f51.ntmps N 200 [.code (dB f51)] ⟨[(0,e),(1,e),(2,.p (E (1,0)))],[⟨.lit [.b A,.s (E (3,0)) o H.length],P⟩,⟨.lit [.b A,.s (E (4,0)) n p.length],R⟩,c,f,g],[A,A,A],[]⟩))=(G,E e,[⟨.lit [.b A,.s (E (3,0)) o (H.length)],P⟩,⟨.lit [.b A,.s (E (4,0)) n (p.length)],R⟩,c,f,g,⟨.lit [.b A,.s N 0 0],90⟩],[G,G,eb [G,G,G,D ((o:Int)>0)==G,G,G,G,G,G,G,G,D ((o=o/\d/\d)/\(o<100000/\0<o/\o<=H.length/\H.length<=a/\0<n/\n<=p.length/\n<=p.length/\dG H/\dG p/\0<H.getD (o-1) (0:Int)/\0<p.getD (n-1) 0)/\n≠1/\val (jp o H)<val (jp n p)),G,G,G,G],G,D (H.length<=a/\p.length<=a),G,G,G]):=I
abbrev Aj(b n:Nat)(H p:List Int)(P R M t ty:es)(z:Int)(w:Bool)(S:(List Bool->List Bool)):Prop:=letI f:Nat:=1+(b-n);letI e:=val (jp b H);letI g:=val (jp n p);letI a:List Int:=gJ f (e/g) (lc (dM f) 0);letI l:Nat:=1+b;letI c:List Int:=gJ l (e%g) (lc (dM l) 0);letI d:Nat:=9223372036854775807;letI h:dI:=⟨.lit [.i .i64 z],M⟩;letI j:=H.length=H.length;letI k:V:= .p (E (0,0));letI m:dI:=⟨.ws .u64 H,t⟩;letI o:dI:=⟨.ws .u64 p,ty⟩;(gi f51.results.toList (et (ep (gd 2) (K51 Td [G,w]) LR) f51.ntmps N 200 [.code (dB f51)] ⟨[(0,k),(1,k),(2,.p (E (1,0)))],[⟨.lit [.b A,.s (E (3,0)) b H.length],P⟩,⟨.lit [.b A,.s (E (4,0)) n p.length],R⟩,h,m,o],[A,A,A],[]⟩))=(G,E k,[⟨.lit [.b A,.s (E (8,0)) (ib c l) (dM l)],P⟩,⟨.lit [.b A,.s (E (4,0)) n (p.length)],R⟩,h,m,o,⟨.lit [.b A,.s (E (9,0)) (ib a f) (dM f)],90⟩,⟨.dead,0⟩,⟨.dead,0⟩,⟨.ws .u64 c,137⟩,⟨.ws .u64 a,137⟩],[G,G,eb (S [G,G,D ((↑(ib c l):Int)>0)==w,G,G,G,G,D ((↑(ib a f):Int)>0)==G,G,G,G,G,D ((b=b/\j/\j)/\(b<100000/\0<b/\b<=H.length/\H.length<=d/\0<n/\n<=p.length/\n<=p.length/\dG H/\dG p/\0<H.getD (b-1) (0:Int)/\0<p.getD (n-1) 0)/\2<=n/\n<=4/\(n:Int)<z/\ ¬e<g/\H.length<b+1),G,G,G,G]),G,D (H.length<=d/\p.length<=d),G,G,G])
def X3(o n:Nat)(H p:List Int)(P R M t ty:es)(z:Int):Aj o n H p P R M t ty z G (λS=>G::S):=dR
def VD(o n:Nat)(H p:List Int)(P R M t ty:es)(z:Int):Aj o n H p P R M t ty z A (λS=>S):=dR
abbrev AO(o n:Nat)(H p:List Int)(P R M t ty:es)(z:Int)(w:Bool)(S:(List Bool->List Bool)):Prop:=letI f:Nat:=1+(o-n);letI e:=val (jp o H);letI g:=val (jp n p);letI a:List Int:=gJ f (e/g) (lc (dM f) 0);letI c:List Int:=gJ (1+o) (e%g) H;letI d:Nat:=9223372036854775807;letI h:dI:=⟨.lit [.i .i64 z],M⟩;letI j:=H.length=H.length;letI k:V:= .p (E (0,0));letI l:dI:=⟨.ws .u64 p,ty⟩;(gi f51.results.toList (et (ep (gd 2) (K51 Qq [G,w]) LR) f51.ntmps N 200 [.code (dB f51)] ⟨[(0,k),(1,k),(2,.p (E (1,0)))],[⟨.lit [.b A,.s (E (3,0)) o H.length],P⟩,⟨.lit [.b A,.s (E (4,0)) n p.length],R⟩,h,⟨.ws .u64 H,t⟩,l],[A,A,A],[]⟩))=(G,E k,[⟨.lit [.b A,.s (E (3,0)) (ib c (1+o)) (H.length)],P⟩,⟨.lit [.b A,.s (E (4,0)) n (p.length)],R⟩,h,⟨.ws .u64 c,t⟩,l,⟨.lit [.b A,.s (E (8,0)) (ib a f) (dM f)],90⟩,⟨.dead,0⟩,⟨.dead,0⟩,⟨.ws .u64 a,137⟩],[G,G,eb (S [G,G,D ((↑(ib c (1+o)):Int)>0)==w,G,G,G,G,D ((↑(ib a f):Int)>0)==G,G,G,G,G,D ((o=o/\j/\j)/\(o<100000/\0<o/\o<=H.length/\H.length<=d/\0<n/\n<=p.length/\n<=p.length/\dG H/\dG p/\0<H.getD (o-1) (0:Int)/\0<p.getD (n-1) 0)/\2<=n/\n<=4/\(n:Int)<z/\ ¬e<g/\o+1<=H.length),G,G,G,G]),G,D (H.length<=d/\p.length<=d),G,G,G])
def Wy(o n:Nat)(H p:List Int)(P R M t ty:es)(z:Int):AO o n H p P R M t ty z G (λS=>G::S):=dR
def Xj(o n:Nat)(H p:List Int)(P R M t ty:es)(z:Int):AO o n H p P R M t ty z A (λS=>S):=dR
def Pv:Int:=115792089210356248756420345214020892766250353991924191454421193933289684991999
def ER:Int:=107839786681156762650902923513421286826326218306071004709145723011075
def ss{l:List Int}(h:kV n l v){i:Nat}(g:i<n):l.getD i 0=(iM n v).getD i 0:=by rw[<-h.2.2,<-Bo h.1 h.2.1,rU g]
def atf:gm (λj=>(dC ((dC (lc 14 0) (jp 1 (kw 0 ((lc 1 0).set 0 1))) (eO 0 14 8 1)).set 9 0) (lc 8 0) 0).getD (0+j) 0) 10=9:=I
def VJ:List Int:=[0,0,0,0,0,0,0,0,1,0,0,0,0,0]
def Ms:val (VJ.take 9)=13407807929942597099574024998205846127479365820592393377723561443721764030073546976801874298166903427690031858186486050853753882811946569946433649006084096:=I
def agy:13407807929942597099574024998205846127479365820592393377723561443721764030073546976801874298166903427690031858186486050853753882811946569946433649006084096%Pv=ER:=I
def abe:ib (gJ 10 ER (lc (dM 10) 0)) 10=4:=I
def UF:kV 4 (gJ 10 ER (lc (dM 10) 0)) ER:=⟨by simp[gJ,kR];omega,H7 (dP _),I⟩
def aQv(y M o ty t:es)(z:Int)(L p H:List Int)(w:Int)(r:V)(u:dE):Prop:=
  ∃c s P F,r= .s (E (6,0)) (ib c 4) c.length/\(tS 4 c w/\c.length<=1000)/\u=⟨.ws .u64 L,o⟩::⟨.ws .u64 p,ty⟩::⟨.ws .u64 H,t⟩::P::⟨.lit [.i .i64 z],M⟩::⟨.dead,0⟩::⟨.ws .u64 c,s⟩::F/\kX y P F 7
def ajh{k s f w g:Nat}{L F:List Int}{a t y M P:es}(hm:kV 4 L Pv)(ah:4<=f)(hx:kV 4 H x)(hy:4<=p.length)(wy:dG p)(hz:8<=F.length)(ad:F.length=g)(ak:F.length<=1000)(wz:dG F)(af:4<z)(hV:yq 4 Pv 1 ER x p<Pv):
    eM B (gd 4) 193 [.s (E (5,0)) w g,.p (E (3,0)),.s (E (2,0)) 4 k,.s (E (1,0)) 4 s,.s (E (0,0)) 4 f]
     [⟨.ws .u64 L,a⟩,⟨.ws .u64 p,ty⟩,⟨.ws .u64 H,t⟩,⟨.lit [.p N],y⟩,⟨.lit [.i .i64 z],M⟩,⟨.ws .u64 F,P⟩] (aQv y M a ty t z L p H (yq 4 Pv 1 ER x p)):=by
  have ae:L.getD 0 0=18446744073709551615:=(ss hm O).trans I;have g3:L.getD (4-1) 0=18446744069414584319:=(ss hm O).trans I;have ag:=hm.1
  refine vz (Q:=λr m'=> ∃c tr j h i,r= .s (E (6,0)) (ib c 4) c.length/\(tS 4 c (yq 4 Pv 1 ER x p)/\c.length<=1000)/\m'=[⟨.ws .u64 L,a⟩,⟨.ws .u64 p,ty⟩,⟨.ws .u64 H,t⟩,j,⟨.lit [.i .i64 z],M⟩,⟨.dead,0⟩,⟨.ws .u64 c,tr⟩,h,i]/\
    ((j=⟨.lit [.p N],y⟩/\ ∃v q,h=⟨.ws .u64 v,q⟩)∨kX y j [h,i] 7)) ?_ ?_
  rotate_left
  .rintro r m1⟨c,tr,j,h,i,rfl,hR,rfl,d⟩;rcases d with⟨rfl,v,q,rfl⟩ |d
   .exact⟨8,[⟨.ws .u64 L,a⟩,⟨.ws .u64 p,ty⟩,⟨.ws .u64 H,t⟩,⟨.lit [.p N],y⟩,⟨.lit [.i .i64 z],M⟩,⟨.dead,0⟩,⟨.ws .u64 c,tr⟩,⟨.ws .u64 v,q⟩],Y,.take 8 (eT _) Y K K,Y,K,c,tr,_,[⟨.ws .u64 v,q⟩],K,hR,K,.inl ⟨K,v,q,K⟩⟩
   .exact⟨7,_,Y,.refl _ _,Y,K,c,tr,j,[h,i],K,hR,K,d⟩
  refine dL (ep (gd 4) (RJ (gd 4)) LR) f193 ?_;have e:=Sx k s f w g L p H F a ty t P M ⟨.lit [.p N],y⟩ ⟨.lit [.i .i64 z],M⟩;rw[ae,(J:U.u64.wrap (2-18446744073709551615)=3),(J:U.u64.wrap (18446744073709551615-1)=18446744073709551614)]at e;refine fa (gK (rb _) (eP _)) e (by simp only[dK,dJ,eu,ew,Nat.reduceAdd,Nat.reduceLT];omega) K ?_;clear e;have e:=Ow k s f w g 1 3 18446744073709551614 [⟨.ws .u64 L,a⟩,⟨.ws .u64 p,ty⟩,⟨.ws .u64 H,t⟩,⟨.lit [.p N],y⟩,⟨.lit [.i .i64 z],M⟩,⟨.ws .u64 F,P⟩];rw[(J:U.u64.wrap (3*U.u64.wrap (U.u64.wrap (18446744073709551614*18446744073709551614)+1))=15),(J:U.u64.wrap (18446744073709551614*18446744073709551614)=4),(J:U.i64.wrap (((1:Nat):Int)*2)=2)]at e;refine fa (gK (rb _) (eP _)) e I K ?_;clear e;have e:=Ow k s f w g 2 15 4 [⟨.ws .u64 L,a⟩,⟨.ws .u64 p,ty⟩,⟨.ws .u64 H,t⟩,⟨.lit [.p N],y⟩,⟨.lit [.i .i64 z],M⟩,⟨.ws .u64 F,P⟩];rw[(J:U.u64.wrap (15*U.u64.wrap (U.u64.wrap (4*4)+1))=255),(J:U.u64.wrap (4*4)=16),(J:U.i64.wrap (((2:Nat):Int)*2)=4)]at e;refine fa (gK (rb _) (eP _)) e I K ?_;clear e;have e:=Ow k s f w g 4 255 16 [⟨.ws .u64 L,a⟩,⟨.ws .u64 p,ty⟩,⟨.ws .u64 H,t⟩,⟨.lit [.p N],y⟩,⟨.lit [.i .i64 z],M⟩,⟨.ws .u64 F,P⟩];rw[(J:U.u64.wrap (255*U.u64.wrap (U.u64.wrap (16*16)+1))=65535),(J:U.u64.wrap (16*16)=256),(J:U.i64.wrap (((4:Nat):Int)*2)=8)]at e;refine fa (gK (rb _) (eP _)) e I K ?_;clear e;have e:=Ow k s f w g 8 65535 256 [⟨.ws .u64 L,a⟩,⟨.ws .u64 p,ty⟩,⟨.ws .u64 H,t⟩,⟨.lit [.p N],y⟩,⟨.lit [.i .i64 z],M⟩,⟨.ws .u64 F,P⟩];rw[(J:U.u64.wrap (65535*U.u64.wrap (U.u64.wrap (256*256)+1))=4294967295),(J:U.u64.wrap (256*256)=65536),(J:U.i64.wrap (((8:Nat):Int)*2)=16)]at e;refine fa (gK (rb _) (eP _)) e I K ?_;clear e;have e:=Ow k s f w g 16 4294967295 65536 [⟨.ws .u64 L,a⟩,⟨.ws .u64 p,ty⟩,⟨.ws .u64 H,t⟩,⟨.lit [.p N],y⟩,⟨.lit [.i .i64 z],M⟩,⟨.ws .u64 F,P⟩];rw[(J:U.u64.wrap (4294967295*U.u64.wrap (U.u64.wrap (65536*65536)+1))=18446744073709551615),(J:U.u64.wrap (65536*65536)=4294967296),(J:U.i64.wrap (((16:Nat):Int)*2)=32)]at e;refine fa (gK (rb _) (eP _)) e I K ?_;clear e;have e:=Ow k s f w g 32 18446744073709551615 4294967296 [⟨.ws .u64 L,a⟩,⟨.ws .u64 p,ty⟩,⟨.ws .u64 H,t⟩,⟨.lit [.p N],y⟩,⟨.lit [.i .i64 z],M⟩,⟨.ws .u64 F,P⟩];rw[(J:U.u64.wrap (18446744073709551615*U.u64.wrap (U.u64.wrap (4294967296*4294967296)+1))=18446744073709551615),(J:U.u64.wrap (4294967296*4294967296)=0),(J:U.i64.wrap (((32:Nat):Int)*2)=64)]at e;refine fa (gK (rb _) (eP _)) e I K ?_;clear e;have e:=aSa k s f w g 18446744073709551615 0 L p H F a ty t P M ⟨.lit [.p N],y⟩ ⟨.lit [.i .i64 z],M⟩;rw[(J:U.u64.wrap (0-18446744073709551615)=1),atf]at e
  refine dY (gK (rb _) (eP _)) e ?_ K K D9
    (Q1:=λr m'=> ∃u j Q0 lq cq b,kX y j b 11/\r= .t [.s (E (10,0)) lq cq,.s (E (9,0)) 4 14]/\
      m'=⟨.ws .u64 L,a⟩::⟨.ws .u64 p,ty⟩::⟨.ws .u64 H,t⟩::j::⟨.lit [.i .i64 z],M⟩::⟨.ws .u64 F,P⟩::⟨.ws .u64 [1],137⟩::⟨.ws .u64 VJ,137⟩::⟨.ws .u64 u,137⟩::⟨.ws .u64 (gJ 10 ER (lc (dM 10) 0)),137⟩::⟨.ws .u64 Q0,137⟩::b) ?_ K ?_
  .clear e;kernel_rfl
  .clear e
   refine((O9 (o:=9) (n:=4) (Q:=14) (k:=f) (lz:=1) (C:=1) (H:=VJ) (p:=L) (f:=[1]) (t:=137) (ty:=a) (M:=M) (y:=y) (s:=137) (z:=z) O O O O O ah J ag (λx hx=>by
       simp only[VJ,kh,lO,lN]at hx
       rcases hx with rfl|rfl|rfl|rfl|rfl|rfl|rfl|rfl|rfl|rfl|rfl|rfl|rfl|rfl<;>exact⟨J,J⟩) hm.2.1 J (by rw[g3];decide) O af (by rw[g3];kernel_rfl) (by rw[hm.2.2,Ms];decide)).lift (gl:=gd 4)
     (m:=[⟨.ws .u64 L,a⟩,⟨.ws .u64 p,ty⟩,⟨.ws .u64 H,t⟩,⟨.lit [.p N],y⟩,⟨.lit [.i .i64 z],M⟩,⟨.ws .u64 F,P⟩,⟨.ws .u64 [1],137⟩,⟨.ws .u64 VJ,137⟩]) [7,0,4,3,6] ⟨K,K,K,K,K,K,K,K,K,K,dD⟩ J (rn K) K).mono ?_
   rw[hm.2.2,Ms,agy];rintro r m'⟨r0,aj,⟨u,j,Q0,lq,cq,b,d,rfl,rfl⟩,_,rfl,rfl⟩;refine⟨u,dI.iU (sg [7,0,4,3,6] 8) j,Q0,lq,cq,iC (sg [7,0,4,3,6] 8) b,d.P3 K K,?_,?_⟩
   .rw [show(9+1:Nat)=10 from K,abe];rfl
   .simp only[fW,iC,ft,kr,kw,eI,fb];rfl
  clear e;rintro r m'⟨u,j,Q0,lq,cq,b,d,rfl,rfl⟩_;refine⟨_,K,?_⟩;refine Ev.fq [0,2,3,4,11,13,17,80] ?_;refine Ev.aCd (C:=ep g0 Hg LR) (λ_=>rfl) ?_;have PP:0<Pv:=J;have ac:(L.getD 0 0*1+1)%18446744073709551616=0:=by rw[ae];decide
  have aa:dG VJ:=λx hx=>by simp only[VJ,kh,lO,lN]at hx;rcases hx with rfl|rfl|rfl|rfl|rfl|rfl|rfl|rfl|rfl|rfl|rfl|rfl|rfl|rfl<;>exact⟨J,J⟩
  rcases d with⟨rfl,v,q,rfl⟩ |⟨rfl,v,q,l,T,ti,rfl⟩
  .refine kL [0,1,2,3,4,5,11,0,9,7,10] [] [(0,.s (E (5,0)) w g),(2,.s (E (2,0)) 4 k),(3,.s (E (1,0)) 4 s),(4,.s (E (0,0)) 4 f),(11,.i .i64 ((4:Nat):Int)),(13,.i .u64 1),(17,.s (E (9,0)) 9 14),(80,.t [.s (E (10,0)) lq cq,.s (E (8,0)) 4 14])]
     [⟨.ws .u64 L,a⟩,⟨.ws .u64 p,ty⟩,⟨.ws .u64 H,t⟩,⟨.lit [.p N],y⟩,⟨.lit [.i .i64 z],M⟩,⟨.ws .u64 F,P⟩,⟨.ws .u64 v,q⟩,⟨.dead,0⟩,⟨.ws .u64 (gJ 10 ER (lc (dM 10) 0)),137⟩,⟨.ws .u64 VJ,137⟩,⟨.dead,0⟩]
     (λ_ _ h=>by cases h) K ⟨λ_=>rfl,λ_=>rfl,λ_=>rfl,λ_=>rfl,λ_=>rfl,λ_=>rfl,λ_=>rfl,(λh=>by cases h),λ_=>rfl,λ_=>rfl,(λh=>by cases h),dD⟩ K ?_ K K ?_
   .simp only[mH,yb,vJ,sM,gq,gr];decide
   refine TJ (n:=4) (R:=ER) (x:=x) O O hm PP ac ?_ ?_ ?_ ?_ ⟨.lit [.p N],y⟩ ⟨.ws .u64 v,q⟩ ⟨.dead,0⟩ ?_ K K K K K UF hx hy wy hz ad wz J K aa O ?_ hV ?_
   .intro o hN;simp[vI,nd,V.wf,tQ]
   .intro o hN;simp[vI,nd,V.wf,tQ]
   .intro o hN;rfl
   .intro o hN;rfl
   .intro τ ab;exact⟨K,K,K,K⟩
   .intro S hB;exact⟨K,K,(λh=>by cases h),K⟩
   .intro c tr hR hl;exact⟨c,tr,_,_,_,K,⟨hR,by rcases hl with h|h<;>omega⟩,K,.inl ⟨K,v,q,K⟩⟩
  .refine kL [0,1,2,3,4,5,11,12,9,7,10] [] [(0,.s (E (5,0)) w g),(2,.s (E (2,0)) 4 k),(3,.s (E (1,0)) 4 s),(4,.s (E (0,0)) 4 f),(11,.i .i64 ((4:Nat):Int)),(13,.i .u64 1),(17,.s (E (9,0)) 9 14),(80,.t [.s (E (10,0)) lq cq,.s (E (8,0)) 4 14])]
     [⟨.ws .u64 L,a⟩,⟨.ws .u64 p,ty⟩,⟨.ws .u64 H,t⟩,⟨.lit [.p (E (7,0))],y⟩,⟨.lit [.i .i64 z],M⟩,⟨.ws .u64 F,P⟩,⟨.ws .u64 v,q⟩,⟨.lit [.s (E (6,0)) l T],ti⟩,⟨.ws .u64 (gJ 10 ER (lc (dM 10) 0)),137⟩,⟨.ws .u64 VJ,137⟩,⟨.dead,0⟩]
     (λ_ _ h=>by cases h) K ⟨λ_=>rfl,λ_=>rfl,λ_=>rfl,λ_=>rfl,λ_=>rfl,λ_=>rfl,λ_=>rfl,λ_=>rfl,λ_=>rfl,λ_=>rfl,(λh=>by cases h),dD⟩ K ?_ K K ?_
   .simp only[mH,yb,vJ,sM,gq,gr];decide
   refine TJ (n:=4) (R:=ER) (x:=x) O O hm PP ac ?_ ?_ ?_ ?_ ⟨.lit [.p (E (8,0))],y⟩ ⟨.ws .u64 v,q⟩ ⟨.lit [.s (E (7,0)) l T],ti⟩ ?_ K K K K K UF hx hy wy hz ad wz J K aa O ?_ hV ?_
   .intro o hN;simp[vI,nd,V.wf,tQ];omega
   .intro o hN;simp[vI,nd,V.wf,tQ]
   .intro o hN;rfl
   .intro o hN;simp[vI,nd,V.wf,tQ];omega
   .intro τ ab;refine⟨?_,K,K,?_⟩<;>simp[dI.iU,eH.iU,ml,V.iU,ab]
   .intro S hB;exact⟨K,K,λ_=>rfl,K⟩
   .intro c tr hR hl;exact⟨c,tr,_,_,_,K,⟨hR,by rcases hl with h|h<;>omega⟩,K,.inr (.inr ⟨K,v,q,l,T,ti,K⟩)⟩
def K2{r:Int}(C:0<=r)(M:r<18446744073709551616)(S:dG H)(f:0<H.length)(s:H.length<=9223372036854775807):fX A (if r=0 then H else H.set 0 r) (if r=0 then 0 else 1) r:=by
  by_cases h:r=0
  .subst h;simp only[oH];exact⟨O,s,S,.inl K,(λh=>by cases h),by simp[val]⟩
  .rw [if_neg h,if_neg h];have e:(H.set 0 r).getD 0 0=r:=by rw[ie,qj f];rfl
   refine⟨by rw[gU];omega,by rw[gU];exact s,gu S ⟨C,M⟩,.inr ?_,(λh=>by cases h),?_⟩
   .show(H.set 0 r).getD 0 0≠0;rw[e];exact h
   .rw [eL,e];simp[val,pw]
def mg{n:Bool}(h:fX n p T v)(Q:0<v):n=A/\0<T/\T<=p.length/\p.length<=9223372036854775807/\dG p/\0<p.getD (T-1) 0/\val (p.take T)=v:=by
  obtain⟨F,_,_,M,_⟩:=ic h
  have i:n=A:=by
    cases n with
    |true=>have:=M K;omega
    |false=>rfl
  have C:T≠0:=λe=>by have:=(gI h).1 e;omega
  have r:p.getD (T-1) 0≠0:=by
   rcases h.top with e|e
   .exact(C e).elim
   .exact e
  have:=(eg h.mM (T-1)).1;exact⟨i,O,h.le,h.cap,h.mM,O,by rw[F];omega⟩
def uT{l:List Int}(h:fX A l (ib l n) v)(Q:0<v):0<ib l n:=(mg h Q).2.1
def zn{l:List Int}(h:fX A l (ib l n) v)(Q:v=0):ib l n=0:=(gI h).2 Q
def Ss{u:Int}{P R f:es}(hv:0<v)(af:v<pw 90000)(hu:1<u)(ag:u<pw 4)(ah:4<z):letI a:dI:=⟨.lit [.i .i64 z],f⟩;letI b:V:= .p (E (0,0));eM B (gd 2) 51 [b,b,.p (E (1,0))] [⟨.int v,P⟩,⟨.int u,R⟩,a]
      (λr m'=>r=b/\m'=[⟨.int (v%u),P⟩,⟨.int u,R⟩,a]):=by
  refine eV Y K ?_;refine eM.ld 0 K K K (λh=>O) λad H o t hx=>?_
  refine eM.ld 1 K K K (λh=>O) λac p n j Q=>?_
  obtain⟨rfl,x0,xl,q,S,xt,ex⟩:=mg hx hv;obtain⟨rfl,y0,yl,yc,F,yt,ey⟩:=mg Q O;have ae:o<=90000:=fm hx O;have n4:n<=4:=fm Q O;have C:=j7 v (O:u≠0);have r1:=j6 v (O:0<u);subst ex;subst ey;have L:0<=(val (H.take o))/(val (p.take n)):=n9 O O;have r2:(val (H.take o))%(val (p.take n))<=(val (H.take o)):=by have:=JS (val (H.take o)) (val (p.take n));have:=jL (O:0<=(val (p.take n))) L;omega
  have q2:(val (H.take o))/(val (p.take n))<=(val (H.take o)):=G3 _ O;have vb:=(ez _ (dS S o)).2;rw[show(H.take o).length=o by rw[gR];omega]at vb;have i:o<100000/\0<o/\o<=H.length/\H.length<=9223372036854775807/\0<n/\n<=p.length/\n<=p.length/\dG H/\dG p/\0<H.getD (o-1) 0/\0<p.getD (n-1) 0:=⟨O,x0,xl,q,y0,yl,yl,S,F,xt,yt⟩
  by_cases M:n=1
  .
    have ub:=(ez _ (dS F n)).2;rw[show(p.take n).length=n by rw[gR];omega]at ub;have e1:pw n=18446744073709551616:=by rw[M];rfl
    have d:=K2 (r:=(val (H.take o))%(val (p.take n))) C O S O q;obtain⟨c1,c2⟩:=gL o;have s:=yK (p:=o) (v:=(val (H.take o))/(val (p.take n))) (F:=lc (dM o) 0) (by rw[fJ];exact c1) (by rw[fJ];omega) (dP _) L O;have f1:1<=p.length:=O;have f2:=yt;rw[M]at f2;have f3:1<val (p.take 1):=by have:=hu;rwa [M]at this
    have cond:n=1/\val (p.take n)≠1:=⟨M,O⟩
    have g:(((if(val (H.take o))%(val (p.take n))=0 then 0 else 1:Nat):Int)>0)↔(val (H.take o))%(val (p.take n))≠0:=by split<;>simp_all
    have m:(((ib (gJ o ((val (H.take o))/(val (p.take n))) (lc (dM o) 0)) o:Nat):Int)>0)↔(val (H.take o))/(val (p.take n))≠0:=by
      constructor
      .intro h e;have:=zn s e;omega
      .intro h;have:=uT s O;omega
    by_cases y:(val (H.take o))%(val (p.take n))=0<;>by_cases x:(val (H.take o))/(val (p.take n))=0
    .have e:=W5 o n H p P R f t j z;unfold Ad at e;refine dL _ f51 (Ev.done (gK (sO xV _) (eP _)) e ?_ ⟨K,?_⟩)
     .try simp only[g,m]
      simp only[y,x,ne_eq,Jl,iT];simp only[dK,dJ,eu,ew,Nat.reduceAdd,Nat.reduceLT,i,cond]
      first|done|omega|(simp only[iT,fV,im];omega)
     .refine .close' 0 3 Y J K K (by split<;>simp) d (.close' 1 4 Y J K K K Q (.take 3 Y Y K K))
    .have e:=Wc o n H p P R f t j z;unfold Au at e;refine dL _ f51 (Ev.done (gK (sO xV _) (eP _)) e ?_ ⟨K,?_⟩)
     .try simp only[g,m]
      simp only[y,x,ne_eq,Jl,iT];simp only[dK,dJ,eu,ew,Nat.reduceAdd,Nat.reduceLT,i,cond]
      first|done|omega|(simp only[iT,fV,im];omega)
     .refine .close' 0 3 Y J K K (by split<;>simp) d (.close' 1 4 Y J K K K Q (.take 3 Y Y K K))
    .have e:=XM o n H p P R f t j z;unfold Ad at e;refine dL _ f51 (Ev.done (gK (sO xV _) (eP _)) e ?_ ⟨K,?_⟩)
     .try simp only[g,m]
      simp only[y,x,ne_eq,Jl,iT];simp only[dK,dJ,eu,ew,Nat.reduceAdd,Nat.reduceLT,i,cond]
      first|done|omega|(simp only[iT,fV,im];omega)
     .refine .close' 0 3 Y J K K (by split<;>simp) d (.close' 1 4 Y J K K K Q (.take 3 Y Y K K))
    .have e:=WA o n H p P R f t j z;unfold Au at e;refine dL _ f51 (Ev.done (gK (sO xV _) (eP _)) e ?_ ⟨K,?_⟩)
     .try simp only[g,m]
      simp only[y,x,ne_eq,Jl,iT];simp only[dK,dJ,eu,ew,Nat.reduceAdd,Nat.reduceLT,i,cond]
      first|done|omega|(simp only[iT,fV,im];omega)
     .refine .close' 0 3 Y J K K (by split<;>simp) d (.close' 1 4 Y J K K K Q (.take 3 Y Y K K))
  .have n2:2<=n:=O;by_cases k:(val (H.take o))<(val (p.take n))
   .
     have cond:n≠1/\val (H.take o)<val (p.take n):=⟨M,by exact k⟩
     .have e:=X4 o n H p P R f t j z;refine dL _ f51 (Ev.done (gK (sO S2 _) (eP _)) e ?_ ⟨K,?_⟩)
      .try simp only[Cx,(O:(0:Int)<(o:Int))]
       simp only[dK,dJ,eu,ew,Nat.reduceAdd,Nat.reduceLT,i,cond]
       first|done|omega|(simp only[iT,fV,im];omega)
      .rw [og O k];exact .close' 0 3 Y J K K K hx (.close' 1 4 Y J K K K Q (.take 3 Y Y K K))
   .have l: ¬val (H.take o)<val (p.take n):=by exact k
    have aa:0<(val (H.take o))/(val (p.take n)):=by have:=PK (a:=1) (b:=(val (H.take o))) (c:=(val (p.take n))) O O;omega
    obtain⟨c1,c2⟩:=gL (1+(o-n));obtain⟨c3,c4⟩:=gL (1+o);have pb:=jk (O:o<=1+o)
    have qb:(val (H.take o))/(val (p.take n))<pw (1+(o-n)):=by
      have t1:=vh y0 F;have t2:=gF (O:(1:Int)<=p.getD (n-1) 0) (gA (gH (n-1)));rw[jU]at t2
      have aj:n-1<=o:=by
        rcases ju o (n-1)with h|h
        .have:=jk (O:o<=n-1);omega
        .exact h
      refine rD O ?_;rcases ju o n with h|h
      .have e1:1+(o-n)=1:=O;have e2:n-1=o:=O;rw[e1];have:pw 1*(val (p.take n))≥1*(val (p.take n)):=qg J O;have e3:pw (n-1)=pw o:=by rw[e2]
       omega
      .have e1:pw o=pw (1+(o-n))*pw (n-1):=by rw[<-uq];congr 1;omega
       have:=gF (O:pw (n-1)<=(val (p.take n))) (gA (gH (1+(o-n))));omega
    have s:=yK (p:=1+(o-n)) (v:=(val (H.take o))/(val (p.take n))) (F:=lc (dM (1+(o-n))) 0) (by rw[fJ];exact c1) (by rw[fJ];omega) (dP _) L qb;have w:=uT s aa;by_cases ab:H.length<o+1
    .have cond:2<=n/\n<=4/\(n:Int)<z/\ ¬val (H.take o)<val (p.take n)/\H.length<o+1:=⟨n2,n4,O,l,ab⟩
     have d:=yK (p:=1+o) (v:=(val (H.take o))%(val (p.take n))) (F:=lc (dM (1+o)) 0) (by rw[fJ];exact c3) (by rw[fJ];omega) (dP _) C O;by_cases y:(val (H.take o))%(val (p.take n))=0
     .have T:=zn d y;have e:=VD o n H p P R f t j z;unfold Aj at e;refine dL _ f51 (Ev.done (gK (sO HO _) (eP _)) e ?_ ⟨K,?_⟩)
      .try simp only[Cx,w,T,BJ]
       simp only[dK,dJ,eu,ew,Nat.reduceAdd,Nat.reduceLT,i,cond]
       first|done|omega|(simp only[iT,fV,im];omega)
      .refine .close' 0 8 Y J K K (by rw[lD (by rw[fJ];exact c3),fJ]) d (.close' 1 4 Y J K K K Q (.take 3 Y Y K K))
     .have lp:=uT d O;have e:=X3 o n H p P R f t j z;unfold Aj at e;refine dL _ f51 (Ev.done (gK (sO HO _) (eP _)) e ?_ ⟨K,?_⟩)
      .try simp only[Cx,w,lp,BJ]
       simp only[dK,dJ,eu,ew,Nat.reduceAdd,Nat.reduceLT,i,cond]
       first|done|omega|(simp only[iT,fV,im];omega)
      .refine .close' 0 8 Y J K K (by rw[lD (by rw[fJ];exact c3),fJ]) d (.close' 1 4 Y J K K K Q (.take 3 Y Y K K))
    .have cond:2<=n/\n<=4/\(n:Int)<z/\ ¬val (H.take o)<val (p.take n)/\o+1<=H.length:=⟨n2,n4,O,l,O⟩
     have d:=yK (p:=1+o) (v:=(val (H.take o))%(val (p.take n))) (F:=H) O q S C O;by_cases y:(val (H.take o))%(val (p.take n))=0
     .have T:=zn d y;have e:=Xj o n H p P R f t j z;unfold AO at e;refine dL _ f51 (Ev.done (gK (sO IG _) (eP _)) e ?_ ⟨K,?_⟩)
      .try simp only[Cx,w,T,BJ]
       simp only[dK,dJ,eu,ew,Nat.reduceAdd,Nat.reduceLT,i,cond]
       first|done|omega|(simp only[iT,fV,im];omega)
      .refine .close' 0 3 Y J K K (lD O) d (.close' 1 4 Y J K K K Q (.take 3 Y Y K K))
     .have lp:=uT d O;have e:=Wy o n H p P R f t j z;unfold AO at e;refine dL _ f51 (Ev.done (gK (sO IG _) (eP _)) e ?_ ⟨K,?_⟩)
      .try simp only[Cx,w,lp,BJ]
       simp only[dK,dJ,eu,ew,Nat.reduceAdd,Nat.reduceLT,i,cond]
       first|done|omega|(simp only[iT,fV,im];omega)
      .refine .close' 0 3 Y J K K (lD O) d (.close' 1 4 Y J K K K Q (.take 3 Y Y K K))
noncomputable abbrev Sl(R:Nat->Option Nat):List (Nat×jB):=put R (N1 oK) 133 f133 []
def F3(R:Nat->Option Nat):fl R (Sl R):=ks (DP R) I I I
def aHp(q s b:Nat)(L p H:List Int)(o ty t M:es)(z:Int):letI a:dI:=⟨.lit [.i .i64 z],M⟩;letI c:fw:=ep (gd 3) (Sl (gd 3)) LR;letI d:V:= .p (E (4,0));letI e:dI:=⟨.ws .u64 L,o⟩;letI f:dI:=⟨.ws .u64 p,ty⟩;letI g:dI:=⟨.ws .u64 H,t⟩;(match eC c f173.ntmps 200 [0,1,2,3,4,5,84] [.code (dB f173)] ⟨[(0,.s N 0 0),(1,.p N),(2,.s (E (2,0)) 4 q),(3,.s (E (1,0)) 4 s),(4,.s (E (0,0)) 4 b),(5,.b A)],[e,f,g,a],[A,A,A,A,A,A,A,A,A,A,A,G],[]⟩with|(v,T,h,R)=>(pe c v T,iF v,T,h,R))=(E (134,[d]),dF 15 2 (dB f173) [],[(0,.s N 0 0),(1,d),(2,.s (E (2,0)) 4 q),(3,.s (E (1,0)) 4 s),(4,.s (E (0,0)) 4 b),(5,.b A),(84,d)],[e,f,g,a,⟨.lit [.p N],201⟩],[G,G,G,G,G,G,G,G,G,G,G,G,G,G,G,G,G,G,G,G]):=I
def aNy(q s T:Nat)(L p H:List Int)(o ty t M:es)(z:Int):letI a:V:= .s (E (2,0)) 4 q;letI c:V:= .s (E (1,0)) 4 s;letI d:V:= .s (E (0,0)) 4 T;letI e:dI:=⟨.lit [.i .i64 z],M⟩;letI f:fw:=ep (gd 3) (Sl (gd 3)) LR;letI g:V:= .p (E (4,0));letI h:dI:=⟨.ws .u64 L,o⟩;letI j:dI:=⟨.ws .u64 p,ty⟩;letI k:dI:=⟨.ws .u64 H,t⟩;letI l:dI:=⟨.lit [.p N],201⟩;(mW f (eC f f173.ntmps 200 [118,119,120,121,122] (dF 15 2 (dB f173) []) ⟨[(0,.s N 0 0),(1,g),(2,a),(3,c),(4,d),(5,.b A)],[h,j,k,e,l],[A,A,G,G,G,G],[]⟩))=(E (193,([.s (E (5,0)) 4 8,g,a,c,d],E 123)),dF 22 6 (dB f173) [],[(118,.s (E (5,0)) 4 8),(119,g),(120,a),(121,c),(122,d)],[h,j,k,e,l,⟨.ws .u64 [0,0,0,0,0,0,0,0],137⟩],[(eA BinOp.and .u64 (L.getD 0 0) (1:Int)==1)==G,D (0<L.length),G,G,G,G,G,G,G,G,G,G,G]):=I
def aOn(r:V)(m:dE):(gi f173.results.toList (et (ep (gd 3) (Sl (gd 3)) LR) f173.ntmps N 200 (dF 22 6 (dB f173) []) ⟨[(123,r)],m,[],[]⟩))=(G,E r,m,[]):=I
def OF:eo B 193:=ga f193
def Pz:eo B 173:=ga f173
def aGo(M o ty t:es)(z:Int)(L p H:List Int)(w:Int)(r:V)(u:dE):Prop:=
  ∃c s,(tS 4 c w/\c.length<=1000)/\r= .s (E (6,0)) (ib c 4) c.length/\u=[⟨.ws .u64 L,o⟩,⟨.ws .u64 p,ty⟩,⟨.ws .u64 H,t⟩,⟨.lit [.i .i64 z],M⟩,⟨.dead,0⟩,⟨.dead,0⟩,⟨.ws .u64 c,s⟩]
def ads{q s:Nat}{b:List Int}{o t M:es}(d:kV 4 b Pv)(h:4<=T)(L:kV 4 H x)(C:4<=p.length)(j:dG p)(l:4<z)(S:yq 4 Pv 1 ER x p<Pv):
    eM B (gd 3) 173 [.s N 0 0,.p N,.s (E (2,0)) 4 q,.s (E (1,0)) 4 s,.s (E (0,0)) 4 T,.b A]
     [⟨.ws .u64 b,o⟩,⟨.ws .u64 p,ty⟩,⟨.ws .u64 H,t⟩,⟨.lit [.i .i64 z],M⟩] (aGo M o ty t z b p H (yq 4 Pv 1 ER x p)):=by
  have w:b.getD 0 0=18446744073709551615:=(ss d O).trans I;have R:=d.1
  refine vz (Q:=λr u=> ∃c a P F,(tS 4 c (yq 4 Pv 1 ER x p)/\c.length<=1000)/\r= .s (E (6,0)) (ib c 4) c.length/\
    u=⟨.ws .u64 b,o⟩::⟨.ws .u64 p,ty⟩::⟨.ws .u64 H,t⟩::⟨.lit [.i .i64 z],M⟩::P::⟨.dead,0⟩::⟨.ws .u64 c,a⟩::F/\kX 201 P F 7) ?_ ?_
  rotate_left
  .rintro r n⟨c,a,P,F,k,rfl,rfl,v⟩;exact⟨7,_,Y,.drop 4 0 Y K (.take 7 (eT _) Y K K),Y,K,c,a,k,K,K⟩
  refine dL (ep (gd 3) (Sl (gd 3)) LR) f173 ?_;refine nV (gK (F3 _) (eP _)) 200 [A,A,A,A,A,A,A,A,A,A,A,G] [0,1,2,3,4,5,84] _ (aHp q s T b p H o ty t M z) K K ?_;refine Ev.fq [0,1,2,3,4,5] ?_
  refine dY (gK (F3 _) (eP _)) (aNy q s T b p H o ty t M z) ?_ K K OF
    (Q1:=λr u=> ∃c a P F,(tS 4 c (yq 4 Pv 1 ER x p)/\c.length<=1000)/\r= .s (E (6,0)) (ib c 4) c.length/\
    u=⟨.ws .u64 b,o⟩::⟨.ws .u64 p,ty⟩::⟨.ws .u64 H,t⟩::⟨.lit [.i .i64 z],M⟩::P::⟨.dead,0⟩::⟨.ws .u64 c,a⟩::F/\kX 201 P F 7) ?_ K ?_
  .rw [w,(I:(eA BinOp.and U.u64 18446744073709551615 1==1)=G)];simp only[dK,dJ,eu,ew,Nat.reduceAdd,Nat.reduceLT];omega
  .refine((ajh (k:=q) (s:=s) (w:=4) (g:=8) (F:=[0,0,0,0,0,0,0,0]) (a:=o) (ty:=ty) (t:=t) (y:=201) (M:=M) (P:=137) d h L C j J K J (dP 8) l S).lift (gl:=gd 3)
     (m:=[⟨.ws .u64 b,o⟩,⟨.ws .u64 p,ty⟩,⟨.ws .u64 H,t⟩,⟨.lit [.i .i64 z],M⟩,⟨.lit [.p N],201⟩,⟨.ws .u64 [0,0,0,0,0,0,0,0],137⟩]) [0,1,2,4,3,5] ⟨K,K,K,K,K,K,K,K,K,K,K,K,dD⟩ J (rn K) K).mono ?_
   rintro r u⟨r0,e,⟨c,a,P,F,rfl,k,rfl,v⟩,_,rfl,rfl⟩;refine⟨c,a,dI.iU (sg [0,1,2,4,3,5] 6) P,iC (sg [0,1,2,4,3,5] 6) F,k,K,?_,v.P3 K K⟩;simp only[fW,iC,ft,kr,kw,eI,fb];rfl
  rintro r u⟨c,a,P,F,k,rfl,rfl,v⟩_;refine⟨_,K,?_⟩;obtain⟨y,k2,_⟩:=v.wf;refine Ev.fq [123] ?_
  refine oN (gK (F3 _) (eP _)) (aOn _ _) K (by simp[jv,nd,V.wf,tQ]) zI (by simp[V.wf,tQ])
    (G8 (y:=201) (P:=P) (q:=[⟨.ws .u64 b,o⟩,⟨.ws .u64 p,ty⟩,⟨.ws .u64 H,t⟩,⟨.lit [.i .i64 z],M⟩,P,⟨.dead,0⟩,⟨.ws .u64 c,a⟩]) (F:=F) (i:=4) K v (by simpa[ek,mZ,nd,V.wf,mE]using y)) ?_
  rintro r1 n⟨f,rfl,g,_⟩;exact⟨c,a,P,f,k,K,K,g⟩
def aMx(q s T:Nat)(L p H:List Int)(o ty t M P x i w:es)(z:Int):letI h:V:= .b A;letI j:V:= .s N 0 0;letI c:V:= .s (E (5,0)) 4 q;letI d:V:= .s (E (6,0)) 4 s;letI e:V:= .s (E (7,0)) 4 T;letI a:dE:=[⟨.lit [h,j],P⟩,⟨.lit [h,c],x⟩,⟨.lit [h,d],i⟩,⟨.lit [h,e],w⟩,⟨.lit [.i .i64 z],M⟩,⟨.ws .u64 H,t⟩,⟨.ws .u64 p,ty⟩,⟨.ws .u64 L,o⟩];letI f:V:= .p (E (0,0));letI g:fw:=ep (gd 4) (N1 mG) LR;(mW g (eC g f145.ntmps 200 [0,1,11,13,14,72,76,77,78,79,80] [.code (dB f145)] ⟨[(0,f),(1,.p (E (1,0))),(2,.p (E (2,0))),(3,.p (E (3,0))),(4,h)],a,[A,G,A,A],[]⟩))=(E (173,([j,.p N,c,d,e,h],E 81)),dF 15 10 (dB f145) [],[(0,f),(1,.p (E (1,0))),(11,c),(13,d),(14,e),(72,f),(76,j),(77,c),(78,d),(79,e),(80,h)],a,[G,G,G,G,G,G,G,G,G,G,G,G]):=I
def aEs(q s T y u:Nat)(L p H Q:List Int)(o ty t M P x i w b:es)(z:Int):letI a:dI:=⟨.lit [.b A,.s (E (5,0)) 4 q],x⟩;letI c:dI:=⟨.lit [.b A,.s (E (6,0)) 4 s],i⟩;letI d:dI:=⟨.lit [.b A,.s (E (7,0)) 4 T],w⟩;letI e:dI:=⟨.dead,0⟩;letI f:dI:=⟨.lit [.i .i64 z],M⟩;letI g:V:= .p (E (0,0));letI h:dI:=⟨.ws .u64 H,t⟩;letI j:dI:=⟨.ws .u64 p,ty⟩;letI k:dI:=⟨.ws .u64 L,o⟩;letI l:dI:=⟨.ws .u64 Q,b⟩;letI m:V:= .s (E (10,0)) y u;(gi f145.results.toList (et (ep (gd 4) (N1 mG) LR) f145.ntmps N 200 (dF 15 10 (dB f145) []) ⟨[(0,g),(1,.p (E (1,0))),(11,.s (E (5,0)) 4 q),(13,.s (E (6,0)) 4 s),(14,.s (E (7,0)) 4 T),(72,g),(81,m)],[⟨.lit [.b A,.s N 0 0],P⟩,a,c,d,f,h,j,k,e,e,l],[G,A,A,A,A],[]⟩))=(G,E g,[⟨.lit [.b A,m],P⟩,a,c,d,f,h,j,k,e,e,l],[G,G,G,G,G,G,G,D ((y:Int)>0)==G,G,G,G]):=I
def xh{n:Bool}(h:fX n p T v)(l:pw 3<=v)(u:v<pw 4):n=A/\T=4/\p.length<=9223372036854775807/\kV 4 p v:=by have g:=gH 3;obtain⟨F,y,H,M,b,d,a⟩:=mg h O;have R:=fm h (k:=4) O;have c:=l8 h (k:=3) O;obtain rfl:T=4:=O;exact⟨F,K,M,H,b,a⟩
def CG{q:Nat->Int}{F:List Int}: ∀(r:Nat)(a:Int),(∀i,i<r->p.getD i 0=F.getD i 0)->Gf n M k q p r a=Gf n M k q F r a
  |0,_,_=>rfl
  |r+1,a,h=>by simp only[Gf];rw[h r O];exact CG r _ λi g=>h i O
def om(x e:Int):Int:=yq 4 Pv 1 ER x (iM 4 e)
def C5{e:Int}(Q:kV 4 p e):yq 4 Pv 1 ER x p=om x e:=by unfold om yq;rw[ss Q (O:4-1<4),CG (p:=p) (F:=iM 4 e) (4-1) _ λi g=>ss Q O]
def agb{e:Int}{P x i w M:es}(Q:pw 3<=v)(y:v<pw 4)(R:pw 3<=e)(S:e<pw 4)(q:4<z)(hV:om v e<Pv)(b:0<om v e):letI a:dI:=⟨.lit [.i .i64 z],M⟩;eM B (gd 4) 145 [.p (E (0,0)),.p (E (1,0)),.p (E (2,0)),.p (E (3,0)),.b A] [⟨.lit [.b A,.s N 0 0],P⟩,⟨.int v,x⟩,⟨.int e,i⟩,⟨.int Pv,w⟩,a]
      (λr u=>r= .p (E (0,0))/\u=[⟨.int (om v e),P⟩,⟨.int v,x⟩,⟨.int e,i⟩,⟨.int Pv,w⟩,a]):=by
  refine eV Y K ?_;have hp:=gH 3;refine eM.ld 1 K K K (λh=>O) λab H lx t hx=>?_
  refine eM.ld 2 K K K (λh=>O) λg p ly j k=>?_
  refine eM.ld 3 K K K (λh=>by cases h) λC L lm o hm=>?_
  obtain⟨rfl,rfl,xc,rx⟩:=xh hx Q y;obtain⟨rfl,rfl,yc,T⟩:=xh k R S;obtain⟨rfl,rfl,mc,F⟩:=xh hm J J
  refine dL _ f145 (dY (gK (wA _) (eP _)) (aMx H.length p.length L.length L p H o j t M P x i w z) K K K Pz
    (Q1:=λr u=> ∃c s,(tS 4 c (om v e)/\c.length<=1000)/\r= .s (E (10,0)) (ib c 4) c.length/\u=[⟨.lit [.b A,.s N 0 0],P⟩,⟨.lit [.b A,.s (E (5,0)) 4 H.length],x⟩,⟨.lit [.b A,.s (E (6,0)) 4 p.length],i⟩,⟨.lit [.b A,.s (E (7,0)) 4 L.length],w⟩,⟨.lit [.i .i64 z],M⟩,⟨.ws .u64 H,t⟩,⟨.ws .u64 p,j⟩,⟨.ws .u64 L,o⟩,⟨.dead,0⟩,⟨.dead,0⟩,⟨.ws .u64 c,s⟩]) ?_ K ?_)
  .have hc:=ads (q:=H.length) (s:=p.length) (T:=L.length) (o:=o) (ty:=j) (t:=t) (M:=M) (z:=z) F F.1 rx T.1 T.2.1 q (by rw[C5 T];exact hV);rw[C5 T]at hc
   refine(hc.lift (gl:=gd 4) (m:=[⟨.lit [.b A,.s N 0 0],P⟩,⟨.lit [.b A,.s (E (5,0)) 4 H.length],x⟩,⟨.lit [.b A,.s (E (6,0)) 4 p.length],i⟩,⟨.lit [.b A,.s (E (7,0)) 4 L.length],w⟩,⟨.lit [.i .i64 z],M⟩,⟨.ws .u64 H,t⟩,⟨.ws .u64 p,j⟩,⟨.ws .u64 L,o⟩])
     [7,6,5,4] ⟨K,K,K,K,K,K,K,K,dD⟩ J (rn K) K).mono ?_
   rintro r u⟨r0,aa,⟨c,s,f,rfl,rfl⟩,_,rfl,rfl⟩;exact⟨c,s,f,K,K⟩
  rintro r u⟨c,s,⟨f,hl⟩,rfl,rfl⟩_;refine⟨_,K,?_⟩;refine Ev.fq [0,1,11,13,14,72,81] ?_;have d:=kO (a:=A) (n:=4) (by have:=f.1;omega) O f.2.1 f.2.2 (λh=>by cases h);have lp:=uT (l:=c) (n:=4) d b;refine Ev.done (gK (wA _) (eP _)) (aEs H.length p.length L.length (ib c 4) c.length L p H c o j t M P x i w s z) ?_ ⟨K,?_⟩
  .simp only[dK,dJ,eu,ew,Nat.reduceAdd,Nat.reduceLT];omega
  .exact .close' 0 10 Y J K K K d (.close' 1 5 Y J K K K hx (.close' 2 6 Y J K K K k (.close' 3 7 Y J K K K hm (.take 5 Y Y K K))))
def Cg(M a b:Int):Prop:= ∃t,a=b+M*t
section
variable{M a b c d:Int}
theorem Cg.refl(a:Int):Cg M a a:=⟨0,Y⟩
theorem Cg.symm(h:Cg M a b):Cg M b a:=let⟨t,e⟩:=h;⟨-t,by rw[e,G9];omega⟩
theorem Cg.trans(h:Cg M a b)(F:Cg M b c):Cg M a c:=let⟨t,e⟩:=h;let⟨s,f⟩:=F;⟨s+t,by rw[e,f,fh];omega⟩
theorem Cg.mul(h:Cg M a b)(F:Cg M c d):Cg M (a*c) (b*d):=by
  obtain⟨t,rfl⟩:=h;obtain⟨s,rfl⟩:=F;refine⟨b*s+t*d+t*(M*s),?_⟩;rw[jN,fh,fh,fh,fh];have T:b*(M*s)=M*(b*s):=by ac_rfl
  have f:M*t*d=M*(t*d):=by ac_rfl
  have Q:M*t*(M*s)=M*(t*(M*s)):=by ac_rfl
  omega
theorem Cg.eq(h:a=b):Cg M a b:=h▸ .refl a
theorem Cg.emod(hM:0<M)(h:Cg M a b)(C:0<=a)(h1:a<M):a=b%M:=by
  obtain⟨t,e⟩:=h;have:b=a+M*(-t):=by rw[e,G9];omega
  rw[this,pM,og C h1]
end
theorem Rw{X M k W d:Int}:letI a:Int:=18446744073709551616;∀(hk:(M%a*k+1)%a=0),∃t,0<=t/\t<a/\a*tO X M k W d=W+X*d+M*t:=by
  intro hk;refine⟨((W+X*d)%18446744073709551616*k)%18446744073709551616,j7 _ J,j6 _ J,?_⟩;unfold tO;generalize r:((W+X*d)%18446744073709551616*k)%18446744073709551616=t;have h1:=Fc (o:=W+X*d) hk;rw[r]at h1
  have S:(W+X*d+M*t)%18446744073709551616=0:=by
    have e:M=M%18446744073709551616+18446744073709551616*(M/18446744073709551616):=O
    have f:W+X*d+M*t=W+X*d+M%18446744073709551616*t+18446744073709551616*(M/18446744073709551616*t):=by rw[<-fO,wO (W+X*d),<-jN,<-e]
    rw[f,pM];exact h1
  omega
theorem Ce{X M k:Int}(hk:(M%18446744073709551616*k+1)%18446744073709551616=0): ∀(H:List Int)(W:Int),∃t,0<=t/\t<pw H.length/\pw H.length*kf X M k H W=W+X*val H+M*t
  |[],W=>⟨0,by simp[kf,pw,val]⟩
  |d::H,W=>by
   obtain⟨t,L,e,r⟩:=Ce hk H (tO X M k W d);obtain⟨s,Q,g,v⟩:=Rw (X:=X) (M:=M) (k:=k) (W:=W) (d:=d) hk;refine⟨s+18446744073709551616*t,O,by simp only[eI];rw[gV];omega,?_⟩;simp only[kf,val,eI];rw[gV,fO,r,fh,fh,v,fh,fh];have T:18446744073709551616*(X*val H)=X*(18446744073709551616*val H):=by ac_rfl
   have f:18446744073709551616*(M*t)=M*(18446744073709551616*t):=by ac_rfl
   omega
theorem Qy(hk:(M%18446744073709551616*k+1)%18446744073709551616=0)(H:0<=b)(z:b<pw n):Cg M (pw n*pB n M k a b) (a*b):=by
  obtain⟨t,_,_,r⟩:=Ce (X:=a) hk (iM n b) 0;rw[kR,nL n b H z,mO]at r;unfold pB wC;split
  .refine⟨t-pw n,?_⟩;rw[pU,r,pU,eD (pw n) M];omega
  .exact⟨t,r⟩
theorem Ta(t:0<=a)(s:a<pw n)(hM:0<M)(hM':M<pw n):0<=pB n M k a b/\pB n M k a b<pw n:=I2 t s hM hM' (mT n b)
section
variable{n:Nat}{M k ri x R:Int}(hk:(M%18446744073709551616*k+1)%18446744073709551616=0)(hM:0<M)(hM':M<pw n)(hri:Cg M (ri*pw n) 1)(hR:Cg M R (pw n*pw n))(hR0:0<=R)(hR':R<pw n)(hx:0<=x)(hx':x<pw n)(h1:1<pw n)
def Pj(n:Nat)(M a α:Int):Prop:=0<=a/\a<pw n/\Cg M a (α*pw n)
include hk hM hM' hri
theorem xf{α q:Int}(t:Pj n M a α)(H:Pj n M b q):Pj n M (pB n M k a b) (α*q):=by
  have bd:=Ta (b:=b) (k:=k) t.1 t.2.1 hM hM';refine⟨bd.1,bd.2,?_⟩;have h:=(Qy (a:=a) hk H.1 H.2.1).trans (t.2.2.mul H.2.2);have S:=(Cg.refl (M:=M) ri).mul h;rw[<-fO]at S;have l:=(hri.mul (Cg.refl (M:=M) (pB n M k a b)))
  rw[jT]at l;refine(l.symm.trans S).trans ?_;have e:ri*(α*pw n*(q*pw n))=(ri*pw n)*(α*q*pw n):=by ac_rfl
  rw[e];have u:=hri.mul (Cg.refl (M:=M) (α*q*pw n));rw[jT]at u;exact u
theorem afd{α:Int}(t:Pj n M a α):Pj n M (sq4 n M k a) (α^16):=by
  have g:=xf hk hM hM' hri t t;have m:=xf hk hM hM' hri g g;have T:=xf hk hM hM' hri m m;have l:=xf hk hM hM' hri T T
  have e:α*α*(α*α)*(α*α*(α*α))*(α*α*(α*α)*(α*α*(α*α)))=α^16:=by simp only[Gi,Gp,jT];ac_rfl
  rw[e]at l;exact l
include hR hR0 hR'
theorem Cb(t:0<=a)(s:a<pw n):Pj n M (pB n M k a R) a:=by
  have bd:=Ta (b:=R) (k:=k) t s hM hM';refine⟨bd.1,bd.2,?_⟩;have h:=(Qy (a:=a) hk hR0 hR').trans ((Cg.refl a).mul hR);have S:=(Cg.refl (M:=M) ri).mul h;rw[<-fO]at S;have l:=(hri.mul (Cg.refl (M:=M) (pB n M k a R)))
  rw[jT]at l;refine(l.symm.trans S).trans ?_;have e:ri*(a*(pw n*pw n))=(ri*pw n)*(a*pw n):=by ac_rfl
  rw[e];have u:=hri.mul (Cg.refl (M:=M) (a*pw n));rw[jT]at u;exact u
include hx hx' h1
theorem FT: ∀j,Pj n M (vS n M k R x j) (x^j)
  |0=>by have:=Cb hk hM hM' hri hR hR0 hR' (a:=1) O h1;simpa[vS]using this
  |1=>by have:=Cb hk hM hM' hri hR hR0 hR' hx hx';rw[Gi,Gp,jT];exact this
  |j+2=>by have a:=FT (j+1);have b:=Cb hk hM hM' hri hR hR0 hR' hx hx';have:=xf hk hM hM' hri a b;rw[<-Gi]at this;simpa[vS]using this
theorem adf{q d:Nat}(t:Pj n M a (x^q)):Pj n M (rnd n M k (vS n M k R x) a d) (x^(16*q+d)):=by
  have s:=afd hk hM hM' hri t;have:=xf hk hM hM' hri s (FT hk hM hM' hri hR hR0 hR' hx hx' h1 d);have e:(x^q)^16*x^d=x^(16*q+d):=by rw[<-Int.pow_mul,Dc,kP q]
  rw[e]at this;exact this
def DU(q:Nat):List Nat->Nat
  |[]=>q
  |d::H=>DU (16*q+d) H
theorem Ha: ∀(H:List Nat)(a:Int)(q:Nat),Pj n M a (x^q)->Pj n M (H.foldl (rnd n M k (vS n M k R x)) a) (x^DU q H)
  |[],_,_,h=>h
  |d::H,a,q,h=>Ha H _ _ (adf hk hM hM' hri hR hR0 hR' hx hx' h1 h)
theorem Nz(p:List Int)(w: ∀(q:Nat)(y:Int),0<=y->y<18446744073709551616->DU q (xr 16 y)=q*18446744073709551616+y.toNat)(j:dG p): ∀(r:Nat)(a:Int)(q:Nat),Pj n M a (x^q)->
    ∃i:Nat,Pj n M (Gf n M k (vS n M k R x) p r a) (x^i)/\(i:Int)=q*pw r+val (p.take r)
  |0,a,q,h=>⟨q,h,by simp[pw,val]⟩
  |r+1,a,q,h=>by
   have F:=eg j r;have s:=Ha hk hM hM' hri hR hR0 hR' hx hx' h1 (xr 16 (p.getD r 0)) a q h;rw[w q _ F.1 F.2]at s;obtain⟨i,S,l⟩:=Nz p w j r _ _ s;refine⟨i,S,?_⟩;rw[l,eL,gV,rJ,lJ,KA F.1,jN];have T:(q:Int)*((18446744073709551616:Nat):Int)*pw r=q*(18446744073709551616*pw r):=by ac_rfl
   have f:p.getD r 0*pw r=pw r*p.getD r 0:=eD _ _;omega
end
theorem Fh: ∀(r:Nat)(m q:Nat),r<=16->m<18446744073709551616->DU q (xr r (m:Int))=q*16^r+m/16^(16-r)
  |0,m,q,_,j=>by have:m/16^(16-0)=0:=zC j;simp only[xr,DU,this,xq,jq,j3]
  |r+1,m,q,y,j=>by
   have T:((m:Int)/1152921504606846976).toNat=m/1152921504606846976:=O;have f:(m:Int)*16%18446744073709551616=((m%1152921504606846976*16:Nat):Int):=O;simp only[xr,DU];rw[T,f,Fh r _ _ O O];have z:16^(16-r)=16*16^(15-r):=by rw[<-Nat.pow_succ'];congr 1;omega
   have p:16^(15-r)*16^r=1152921504606846976:=by rw[<-nu,(O:15-r+r=15)]
   have Q:m%1152921504606846976*16/16^(16-r)=m%1152921504606846976/16^(15-r):=by rw[z,kP (m%_) 16,Nat.mul_div_mul_left _ _ O]
   have F:m/16^(16-(r+1))=m/1152921504606846976*16^r+m%1152921504606846976/16^(15-r):=by
     have i:m=16^(15-r)*(m/1152921504606846976*16^r)+m%1152921504606846976:=by
       have:=zF m 1152921504606846976;have h:16^(15-r)*(m/1152921504606846976*16^r)=1152921504606846976*(m/1152921504606846976):=by rw[<-p];ac_rfl
       omega
     have g:0<16^(15-r):=Cl O;rw[(O:16-(r+1)=15-r)];generalize m/1152921504606846976*16^r=e at i⊢;generalize m%1152921504606846976=L at i⊢;rw[i,K9 g]
   rw[Q,F,rz,ot];have:16*q*16^r=q*(16^r*16):=by ac_rfl
   omega
theorem E4(q:Nat)(y:Int)(C:0<=y)(h1:y<18446744073709551616):DU q (xr 16 y)=q*18446744073709551616+y.toNat:=by obtain⟨m,rfl⟩:=fy C;have:=Fh 16 m q (eT _) O;rw[show(16:Nat)-16=0 from K,xq,Cj]at this;rw[dU];exact this
theorem P4{ri R:Int}(f:1<=n)(hk:(M%18446744073709551616*k+1)%18446744073709551616=0)(hM:0<M)(hM':M<pw n)(hri:Cg M (ri*pw n) 1)(hR:Cg M R (pw n*pw n))(hR0:0<=R)(hR':R<pw n)(hx:0<=x)(hx':x<pw n)(h1:1<pw n)(j:dG p):letI a:=yq n M k R x p;0<=a/\a<=M/\Cg M (a) (x^(val (p.take n)).toNat):=by
  obtain⟨i,rfl⟩: ∃i,n=i+1:=⟨n-1,O⟩
  have F:=eg j i;have o:=FT hk hM hM' hri hR hR0 hR' hx hx' h1 0;have Q:=xf hk hM hM' hri o (FT hk hM hM' hri hR hR0 hR' hx hx' h1 (p.getD i 0/1152921504606846976).toNat);rw[<-Dc,ir]at Q;have g:=Ha hk hM hM' hri hR hR0 hR' hx hx' h1 (xr 15 (p.getD i 0*16%18446744073709551616)) _ _ Q
  have e0:DU (p.getD i 0/1152921504606846976).toNat (xr 15 (p.getD i 0*16%18446744073709551616))=DU 0 (xr 16 (p.getD i 0)):=by simp only[xr,DU,wP,ir]
  rw[e0,E4 0 _ F.1 F.2]at g;obtain⟨q,m,w⟩:=Nz hk hM hM' hri hR hR0 hR' hx hx' h1 p E4 j i _ _ g
  have T:q=(val (p.take (i+1))).toNat:=by rw[eL];have:=(ez _ (dS j i)).1;rw[GW,ir,KA F.1,eD]at w;omega
  subst T;unfold yq;simp only[oW];generalize Gf (i+1) M k (vS (i+1) M k R x) p i _=a at m⊢;obtain⟨t,L,v,r⟩:=Ce (X:=a) hk (iM (i+1) 1) 0;rw[kR]at v r;rw[nL _ 1 O h1,mO,jU]at r;have C:=(qA (k:=k) m.1 (gA hM) (iM (i+1) 1) 0 (mT _ _) (uh _) (by have:=m.1;omega)).1
  have y:kf a M k (iM (i+1) 1) 0<=M:=by
    have P:=gF (O:t<=pw (i+1)-1) (gA hM);have z:=m.2.1
    have s:pw (i+1)*kf a M k (iM (i+1) 1) 0<pw (i+1)*(M+1):=by rw[r,fh,jU];rw[pU,jU]at P;have:M*pw (i+1)=pw (i+1)*M:=eD _ _;omega
    have:=Le s (gA (gH _));omega
  have H:pB (i+1) M k a 1=kf a M k (iM (i+1) 1) 0:=by unfold pB wC;rw[if_neg O]
  rw[H];refine⟨C,y,?_⟩;have h:Cg M (pw (i+1)*kf a M k (iM (i+1) 1) 0) a:=⟨t,r⟩
  have S:=(Cg.refl (M:=M) ri).mul (h.trans m.2.2);rw[<-fO]at S;have l:=(hri.mul (Cg.refl (M:=M) (kf a M k (iM (i+1) 1) 0)))
  rw[jT]at l;refine(l.symm.trans S).trans ?_;have e:ri*(x^(val (p.take (i+1))).toNat*pw (i+1))=(ri*pw (i+1))*x^(val (p.take (i+1))).toNat:=by ac_rfl
  rw[e];have u:=hri.mul (Cg.refl (M:=M) (x^(val (p.take (i+1))).toNat));rw[jT]at u;exact u
def SL{e:Int}(Q:0<=v)(s:v<pw 4)(j:0<=e)(y:e<pw 4)(i:v^e.toNat%Pv≠0):om v e=v^e.toNat%Pv/\0<om v e/\om v e<Pv:=by
  have h:=P4 (n:=4) (M:=Pv) (k:=1) (ri:=115792089102516462125480396441826910452883803264411231995480180208556130172932) (x:=v) (R:=ER) (p:=iM 4 e) O J J J ⟨115792089129476408767522629297870205758541517347941659817034995947026826395649,I⟩ ⟨-115792089264276142096998726540203105341796590047768454499345591723911572094979,I⟩ J J Q s J (mT 4 e);have u:0<Pv:=J;rw[sQ (by rw[kR];omega),nL 4 e j y]at h;have e0:yq 4 Pv 1 ER v (iM 4 e)=om v e:=K;rw[e0]at h;obtain⟨a,b,c⟩:=h
  have z:om v e<Pv:=by
    rcases k9 (om v e) Pv with h|h
    .exact h
    .have g:om v e=Pv:=O;obtain⟨t,r⟩:=c
     have:v^e.toNat%Pv=0:=by
       have S:v^e.toNat=Pv*(1-t):=by rw[pU,jU];omega
       rw[S,Int.mul_emod_right]
     exact(i this).elim
  have q:=c.emod u a z;exact⟨q,by rw[q]at a⊢;omega,z⟩
abbrev gt(i:Nat):Nat->Option Nat:=λg=>bif Nat.beq g 11 then E i else N
noncomputable abbrev TZ:List Item:=gQ (dB f122) 0 []
def aNg(x:Int)(m:dE):(oS (eC (ep (gt 0) [] []) f171.ntmps 18 [8] [.code (dB f171)] ⟨[(0,.i .u64 x)],m,[A],[]⟩))=(dF 3 4 (dB f171) [],[(8,.i .u64 (eA BinOp.and .u64 x (U.u64.wrap (0-x))))],m,[(x==0)==A]):=I
def aDc(y:Int)(kM:List Int)(Q:es):letI a:dE:=[⟨.ws .u8 kM,Q⟩];(oS (eC (ep (gt 0) [] []) f171.ntmps 2 [10] (dF 3 4 (dB f171) []) ⟨[(8,.i .u64 y)],a,[],[]⟩))=(dF 3 6 (dB f171) [],[(10,.i .u64 ((U.u64.wrap (y*285870213051353865)).fdiv 288230376151711744))],a,[G]):=I
def aIw(z:Int)(kM:List Int)(Q:es):letI a:dE:=[⟨.ws .u8 kM,Q⟩];(gi f171.results.toList (et (ep (gt 0) [] []) f171.ntmps N 200 (dF 3 6 (dB f171) []) ⟨[(10,.i .u64 z)],a,[],[]⟩))=(G,E (.i .i64 (U.i64.wrap (kM.getD z.toNat 0))),a,[D (z.toNat<kM.length),D (0<=z/\z<64)]):=I
def aya{a b:Nat}(h:(!(Nat.beq a b))=G):a≠b:=by intro e;subst e;simp at h
def OA(a b:Nat)(t:a<2^64)(H:b<2^64):eA .and .u64 (a:Int) (b:Int)=((a&&&b:Nat):Int):=by have T:(BitVec.ofInt U.u64.bits (a:Int)).toNat=a:=jG 64 a t;have f:(BitVec.ofInt U.u64.bits (b:Int)).toNat=b:=jG 64 b H;simp only[eA,Gk,T,f];have:a&&&b<2^64:=Nat.and_lt_two_pow _ H;rw[kq];omega
def Nl(n:Nat)(C:0<n)(h:n<18446744073709551616):eA BinOp.and U.u64 (n:Int) (U.u64.wrap ((0:Int)-(n:Int)))=((2^Lib.ctz 64 n:Nat):Int)/\Lib.ctz 64 n<64:=by
  have T:U.u64.wrap ((0:Int)-(n:Int))=((18446744073709551616-n:Nat):Int):=by show((0:Int)-n)%18446744073709551616=_;omega
  have M:=Lib.lowest_bit 64 n O h;refine⟨?_,M.2⟩;rw[T,<-M.1];exact OA n _ h O
def jJ:List Int:=Lib.deBruijn64tab.map λ(x:Nat)=>(x:Int)
def YB(i:Nat):jJ.getD i 0=((Lib.deBruijn64tab.getD i 0:Nat):Int):=by unfold jJ;rw[ie,uf,ie];cases Lib.deBruijn64tab[i]?<;>rfl
def SD:jJ.length=64:=J
def afz{Q:es}(C:0<n)(h:n<18446744073709551616):letI a:dE:=[⟨.ws .u8 jJ,Q⟩];eM B (gt 0) 171 [.i .u64 (n:Int)] a (λr u=>r= .i .i64 ((Lib.ctz 64 n:Nat):Int)/\u=a):=by
  obtain⟨F,y⟩:=Nl n C h;generalize Lib.ctz 64 n=k at*;have L:((n:Int)==0)=A:=gp;refine dL (ep (gt 0) [] []) f171 ?_;have e:=aNg (n:Int) [⟨.ws .u8 jJ,Q⟩];rw[F]at e;refine fa lP e (by rw[L];rfl) K ?_;clear e;have b:=Lib.deBruijn64_at k y;have e:=aDc ((2^k:Nat):Int) jJ Q
  have T:(U.u64.wrap (((2^k:Nat):Int)*285870213051353865)).fdiv 288230376151711744=((2^k*285870213051353865%18446744073709551616/288230376151711744:Nat):Int):=by
    have:U.u64.wrap (((2^k:Nat):Int)*285870213051353865)=((2^k*285870213051353865%18446744073709551616:Nat):Int):=by show(((2^k:Nat):Int)*285870213051353865)%18446744073709551616=_;rw[uC,lJ];rfl
    rw[this,kB _ J,xe];rfl
  rw[T]at e;refine fa lP e K K ?_;clear e T;generalize 2^k*285870213051353865%18446744073709551616/288230376151711744=z at b⊢;have e:=aIw (z:Int) jJ Q;rw[dU,YB,b.2,iy O]at e;refine Ev.done lP e ?_ ⟨K,K⟩;simp only[SD];simp only[dK,dJ,eu,ew,Nat.reduceAdd,Nat.reduceLT];omega
def aMy(n c i:Nat)(H:List Int)(t:es)(m:dE):letI a:dE:=⟨.ws .u64 H,t⟩::m;(oS (eC (ep (gt 1) [] []) f122.ntmps 200 [0,3] [.code (dB f122)] ⟨[(0,.s (E (0,0)) n c)],a,[A],[]⟩))=(TZ,[(0,.s (E (0,0)) n c),(3,.i .u64 0)],a,[((n:Int)==0)==A,G]):=I
def aDl(n c:Nat)(H:List Int)(t:es)(m:dE):letI a:dE:=⟨.ws .u64 H,t⟩::m;letI b:Prop:=(0:Int)<=0/\0<(n:Int);letI d:V:= .i .u64 (H.getD 0 0);(mW (ep (gt 1) [] []) (eC (ep (gt 1) [] []) f122.ntmps 200 [15,19] TZ ⟨[(0,.s (E (0,0)) n c),(3,.i .u64 0)],a,[A],[]⟩))=(E (144,([d],E 20)),dF 6 7 (dB f122) [],[(15,.i .u64 0),(19,d)],a,[D (0<H.length),decide b,(H.getD 0 (0:Int)==0)==A,D (0<H.length),decide b]):=I
def aJa(k:Int)(m:dE):(gi f122.results.toList (et (ep (gt 1) [] []) f122.ntmps N 200 (dF 6 7 (dB f122) []) ⟨[(15,.i .u64 0),(20,.i .i64 k)],m,[],[]⟩))=(G,E (.i .u64 (U.u64.wrap (0+U.u64.wrap k))),m,[]):=I
def aNv(x:Int)(m:dE):letI a:V:= .i .u64 x;(mW (ep (gt 0) [] []) (eC (ep (gt 0) [] []) f144.ntmps 200 [6] [.code (dB f144)] ⟨[(0,a)],m,[A],[]⟩))=(E (171,([a],E 7)),dF 2 2 (dB f144) [],[(6,a)],m,[G]):=I
def aNf(r:V)(m:dE):(gi f144.results.toList (et (ep (gt 0) [] []) f144.ntmps N 200 (dF 2 2 (dB f144) []) ⟨[(7,r)],m,[],[]⟩))=(G,E r,m,[]):=I
def Pt:eo B 171:=ga f171
def Ps:eo B 144:=ga f144
def aej{Q:es}(C:0<n)(h:n<18446744073709551616):letI a:dE:=[⟨.ws .u8 jJ,Q⟩];eM B (gt 0) 144 [.i .u64 (n:Int)] a (λr u=>r= .i .i64 ((Lib.ctz 64 n:Nat):Int)/\u=a):=by refine dL _ f144 (dY lP (aNv (n:Int) [⟨.ws .u8 jJ,Q⟩]) K K K Pt (afz C h) K ?_);rintro r u⟨rfl,rfl⟩_;refine⟨_,K,?_⟩;refine Ev.fq [7] ?_;exact Ev.done lP (aNf _ _) K ⟨K,K⟩
def LH{i j:Nat}{o:List Nat}(h:o[i]?=E j){R:Nat->Option Nat}(p:R 11=E j): ∀g k,gt i g=E k-> ∃l,o[k]?=E l/\R g=E l:=by
  intro g k a;unfold gt at a;cases H:Nat.beq g 11 with
  |true=>rw[H]at a;cases a;exact⟨j,h,by rw[iB H];exact p⟩
  |false=>rw[H]at a;cases a
def aay{c:Nat}{t Q:es}(x:0<n)(f:0<H.length)(S:dG H)(C:0<H.getD 0 0):letI a:dE:=[⟨.ws .u64 H,t⟩,⟨.ws .u8 jJ,Q⟩];eM B (gt 1) 122 [.s (E (0,0)) n c] a (λr u=>r= .i .u64 ((Lib.ctz 64 (H.getD 0 0).toNat:Nat):Int)/\u=a):=by
  have j:=eg S 0;have e0:((n:Int)==0)=A:=gp
  have T:(H.getD 0 0==0)=A:=by have:H.getD 0 0≠0:=O;simpa using this
  have y:=(Nl (H.getD 0 0).toNat O (by have:=j.2;omega)).2;refine dL _ f122 (fa lP (aMy n c 0 H t [⟨.ws .u8 jJ,Q⟩]) ?_ K ?_)
  .simp only[e0];simp only[dK,dJ,eu,ew,Nat.reduceAdd,Nat.reduceLT]
  have e:=aDl n c H t [⟨.ws .u8 jJ,Q⟩]
  refine dY lP e ?_ K K Ps
    (Q1:=λr u=>r= .i .i64 ((Lib.ctz 64 (H.getD 0 0).toNat:Nat):Int)/\u=[⟨.ws .u64 H,t⟩,⟨.ws .u8 jJ,Q⟩]) ?_ K ?_
  .simp only[T];simp only[dK,dJ,eu,ew,Nat.reduceAdd,Nat.reduceLT];omega
  .have L:H.getD 0 0=((H.getD 0 0).toNat:Int):=(KA O).symm;have s:=(aej (n:=(H.getD 0 0).toNat) (Q:=Q) O (by have:=j.2;omega)).lift (gl:=gt 1) (m:=[⟨.ws .u64 H,t⟩,⟨.ws .u8 jJ,Q⟩]) [1] ⟨K,K,dD⟩ Y (LH K K) K;rw[show ml (sg [1] [(⟨.ws .u64 H,t⟩:dI),⟨.ws .u8 jJ,Q⟩].length) [.i .u64 (((H.getD 0 0).toNat:Nat):Int)]=[.i .u64 (H.getD 0 0)]by rw[<-L];rfl]at s;refine s.mono ?_;rintro r u⟨d,b,⟨rfl,rfl⟩,_,rfl,rfl⟩;exact⟨K,K⟩
  rintro r u⟨rfl,rfl⟩_;refine⟨_,K,?_⟩;refine Ev.fq [15,20] ?_;have q:=aJa ((Lib.ctz 64 (H.getD 0 0).toNat:Nat):Int) [⟨.ws .u64 H,t⟩,⟨.ws .u8 jJ,Q⟩];generalize Lib.ctz 64 (H.getD 0 0).toNat=k at y q⊢;rw[show U.u64.wrap (k:Int)=(k:Int)from mP O,mO,mP O]at q;exact Ev.done lP q K ⟨K,K⟩
def agq(R:Nat->Option Nat):QF:=λargs m=>
  match args,R 11 with
  |[.s (E a) n _],E t=>match m[a.1]?,m[t]? with
   |some ⟨.ws .u64 H,_⟩,E ⟨.ws .u8 kM,_⟩=>E (.i .u64 ((Lib.ctz 64 (H.getD 0 0).toNat:Nat):Int),ed (D (a.2=0/\0<n/\0<H.length/\dG H/\0<H.getD 0 0/\kM=jJ)) (ed (!(Nat.beq a.1 t)) (ek m.length m)))
   |_,_=>N
  |_,_=>N
def Yo(R:Nat->Option Nat):oR B R 122 (agq R):=by
  refine gD λargs m r T=>?_
  unfold agq at T;split at T
  .rename_i a n c t p;split at T
   .rename_i H b kM Q L d;simp only[eJ,ef]at T;obtain⟨rfl,F⟩:=T;obtain⟨M,S⟩:=dN F;obtain⟨i,l⟩:=dN S;obtain⟨q,x,f,g,C,rfl⟩:=fU M;obtain⟨a,j⟩:=a;simp only at q L i;subst q;have s:=aya i;refine((aay (c:=c) (t:=b) (Q:=Q) x f g C).lift (gl:=R) (m:=m) [a,t] ⟨L,K,d,K,dD⟩ (by simp[s]) (LH K p) l).mono ?_;rintro r u⟨h,e,⟨rfl,rfl⟩,_,rfl,rfl⟩;refine⟨K,?_⟩;simp only[fW,iC,ft,kw,eI,fb,jx];rw[show m.set a (dI.iU (sg [a,t] m.length) ⟨.ws .u64 H,b⟩)=m from fu L,show m.set t (dI.iU (sg [a,t] m.length) ⟨.ws .u8 jJ,Q⟩)=m from fu d]
   .cases T
  .cases T
noncomputable abbrev Te:List Item:=gQ (dB f97) 0 []
abbrev gj:Nat->Option Nat:=λg=>bif Nat.beq g 4 then E 2 else bif Nat.beq g 11 then E 3 else N
abbrev AS:List (Nat×QF):=(77,YV)::(122,agq gj)::LR
noncomputable abbrev KJ:List (Nat×jB):=[(113,inl gj [] LQ f113 [])]
noncomputable abbrev KJ1:List (Nat×jB):=(121,inl gj KJ LQ f121 [])::KJ
noncomputable abbrev Bj:List (Nat×jB):=(98,inl gj KJ1 AS f98 [A,G,A])::KJ1
def SJ:gf gj AS:=⟨⟨ga f77,C7 gj⟩,⟨ga f122,Yo gj⟩,eP gj⟩
def YK:fl gj KJ:=⟨⟨ga f113,mV (l:=[]) dD (jF gj) I I []⟩,dD⟩
def PT:fl gj KJ1:=⟨⟨ga f121,mV YK (jF gj) I I []⟩,YK⟩
def agc:fl gj Bj:=⟨⟨ga f98,mV PT SJ I I [A,G,A]⟩,PT⟩
def ja(M H L P:Nat)(j:Int)(F i:List Int)(T R p b:es)(x y v c:dI)(Q:es)(kM:List Int):letI l:dI:=⟨.ws .u8 kM,Q⟩;letI e:dI:=⟨.lit [.b A,.s (E (7,0)) M H],T⟩;letI f:dI:=⟨.lit [.b A,.s (E (8,0)) L P],R⟩;letI m:dI:=⟨.ws .u64 F,p⟩;letI n:dI:=⟨.ws .u64 i,b⟩;letI a:=[x,y,v,l,e,f,c,m,n];letI k:V:= .p (E (4,0));letI d:eZ:=[(5,k),(6,.p (E (5,0))),(7,.p (E (6,0))),(8,.i .i64 j)];letI h:dI:=⟨.ws .u64 [1],137⟩;letI o:=ep gj Bj AS;(mW o (eC o f97.ntmps 200 [5,6,7,8] Te ⟨d,a,[A,A],[]⟩))=(E (51,([k,k,.p (E (5,0))],E 45)),dF 15 1 (dB f97) [],d,[x,y,v,l,e,f,c,m,n,h,⟨.lit [.b A,.s (E (9,0)) 1 1],90⟩],[((M:Int)==0)==A,G,G,((if L<1 then(-1:Int)else if 1<L then 1 else vA (val (jp L (kw 0 i))) (val (jp L (kw 0 [1]))))==0)==A,eb [G,G,ed (D (L<4294967296/\0+L<=i.length/\0+1<=1/\dG i/\dG [1])) (ed G (ek 11 (a++[h]++[⟨.lit (V.g (Ab 1 (V.s (E (9,0)) 1 1).cells (Ab 0 (ofConst (ip.bool A)).cells U2.zero))).cells,90⟩]))),G,G,G,G,G,G],G]):=I
def ja1(M H L P:Nat)(j:Int)(F i:List Int)(T R p n:es)(x y v c:dI)(Q:es)(kM:List Int):letI h:dI:=⟨.ws .u8 kM,Q⟩;letI d:dI:=⟨.lit [.b A,.s (E (7,0)) M H],T⟩;letI e:dI:=⟨.lit [.b A,.s (E (8,0)) L P],R⟩;letI k:dI:=⟨.ws .u64 F,p⟩;letI l:dI:=⟨.ws .u64 i,n⟩;letI a:=[x,y,v,h,d,e,c,k,l];letI f:dI:=⟨.ws .u64 [1],137⟩;(gi f97.results.toList (et (ep gj Bj AS) f97.ntmps N 200 Te ⟨[(5,.p (E (4,0))),(6,.p (E (5,0))),(7,.p (E (6,0))),(8,.i .i64 j)],a,[G],[]⟩))=(G,E (.i .i64 j),[x,y,v,h,d,e,c,k,l,f,⟨.lit [.b A,.s (E (9,0)) 1 1],90⟩],[((if L<1 then(-1:Int)else if 1<L then 1 else vA (val (jp L (kw 0 i))) (val (jp L (kw 0 [1]))))==0)==G,eb [G,G,ed (D (L<4294967296/\0+L<=i.length/\0+1<=1/\dG i/\dG [1])) (ed G (ek 11 (a++[f]++[⟨.lit (V.g (Ab 1 (V.s (E (9,0)) 1 1).cells (Ab 0 (ofConst (ip.bool A)).cells U2.zero))).cells,90⟩]))),G,G,G,G,G,G],G]):=I
abbrev vO(M H L P:Nat)(j:Int)(F i:List Int)(T R p n:es)(x y v c:dI)(Q:es)(kM:List Int)(w:List Bool)(S:Int)(u:(List Bool->List Bool))(u3:Bool):Prop:=letI a:dE:=[x,y,v,⟨.ws .u8 kM,Q⟩,⟨.lit [.b A,.s (E (7,0)) M H],T⟩,⟨.lit [.b A,.s (E (8,0)) L P],R⟩,c,⟨.ws .u64 F,p⟩,⟨.ws .u64 i,n⟩];letI d:Int:=(↑(Lib.ctz 64 (F.getD 0 0).toNat):Int);letI e:V:= .p (E (4,0));letI f:V:= .p (E (6,0));letI g:=ep gj Bj AS;(mW g (eC g f97.ntmps 200 [5,6,7,8,69] (dF 15 1 (dB f97) []) ⟨[(5,e),(6,.p (E (5,0))),(7,f),(8,.i .i64 j)],a,w,[]⟩))=(E (92,([f,e,.i .u64 d],E 70)),dF 23 2 (dB f97) [],[(5,e),(6,.p (E (5,0))),(7,f),(8,.i .i64 S),(69,.i .u64 d)],a,(u [(eA BinOp.and .u64 d (1:Int)!=0)==u3,ed (D (0=0/\0<M/\0<F.length/\dG F/\0<F.getD 0 0/\kM=jJ)) (ed G (ek 9 a)),G,((M:Int)==0)==A,G,G]))
def jb0(M H L P:Nat)(j:Int)(F i:List Int)(T R p n:es)(x y v c:dI)(Q:es)(kM:List Int):vO M H L P j F i T R p n x y v c Q kM [A,A] j (λS=>S) A:=dR
def jb1(M H L P:Nat)(j:Int)(F i:List Int)(T R p n:es)(x y v c:dI)(Q:es)(kM:List Int):vO M H L P j F i T R p n x y v c Q kM [A,G,G,G] (U.i64.wrap (0-j)) (λS=>(G)::((eA BinOp.and .u64 (i.getD 0 0) (7:Int)==3)==G)::D (0<i.length)::D ((0:Int)<=0/\0<(L:Int))::G::S) G:=dR
def jb2(M H L P:Nat)(j:Int)(F i:List Int)(T R p n:es)(x y v c:dI)(Q:es)(kM:List Int):letI a:Int:=eA BinOp.and .u64 (i.getD 0 0) (7:Int);vO M H L P j F i T R p n x y v c Q kM [A,G,A,G] (U.i64.wrap (0-j)) (λS=>((a==5)==G)::((a==3)==A)::D (0<i.length)::D ((0:Int)<=0/\0<(L:Int))::G::S) G:=dR
def jb3(M H L P:Nat)(j:Int)(F i:List Int)(T R p n:es)(x y v c:dI)(Q:es)(kM:List Int):letI a:Int:=eA BinOp.and .u64 (i.getD 0 0) (7:Int);vO M H L P j F i T R p n x y v c Q kM [A,G,A,A] j (λS=>((a==5)==A)::((a==3)==A)::D (0<i.length)::D ((0:Int)<=0/\0<(L:Int))::G::S) G:=dR
abbrev zb(L P l H:Nat)(j:Int)(i q:List Int)(R m n s:es)(x y v h a:dI)(w S:Bool)(u:Int)(u3:(List Bool->List Bool)):Prop:=letI c:dE:=[x,y,v,h,a,⟨.lit [.b A,.s (E (7,0)) L P],R⟩,⟨.lit [.b A,.s (E (8,0)) l H],m⟩,⟨.ws .u64 i,n⟩,⟨.ws .u64 q,s⟩];letI d:V:= .p (E (4,0));letI e:V:= .p (E (5,0));letI f:=ep gj Bj AS;(mW f (eC f f97.ntmps 200 [5,6,7,8] (dF 23 2 (dB f97) []) ⟨[(5,d),(6,e),(7,.p (E (6,0))),(8,.i .i64 j)],c,[w,S],[]⟩))=(E (81,([d,e],E 87)),dF 26 1 (dB f97) [],[(5,d),(6,e),(7,.p (E (6,0))),(8,.i .i64 u)],c,(u3 [G,(eA BinOp.and .u64 (i.getD 0 0) (3:Int)==3)==w,D (0<i.length),D ((0:Int)<=0/\0<(L:Int)),G]))
def jc0(L P l H:Nat)(j:Int)(i q:List Int)(R m n s:es)(x y v h a:dI):zb L P l H j i q R m n s x y v h a A A j (λS=>S):=dR
def jc1(L P l H:Nat)(j:Int)(i q:List Int)(R m n s:es)(x y v h a:dI):zb L P l H j i q R m n s x y v h a G A j (λS=>((eA BinOp.and .u64 (q.getD 0 0) (3:Int)==3)==A)::D (0<q.length)::D ((0:Int)<=0/\0<(l:Int))::S):=dR
def jc2(L P l H:Nat)(j:Int)(i q:List Int)(R m n s:es)(x y v h a:dI):zb L P l H j i q R m n s x y v h a G G (U.i64.wrap (0-j)) (λS=>((eA BinOp.and .u64 (q.getD 0 0) (3:Int)==3)==G)::D (0<q.length)::D ((0:Int)<=0/\0<(l:Int))::S):=dR
def jd(j:Int)(m:dE):letI a:eZ:=[(5,.p (E (4,0))),(6,.p (E (5,0))),(7,.p (E (6,0))),(8,.i .i64 j)];letI b:=ep gj Bj AS;(mW b (eC b f97.ntmps 200 [5,6,7,8] (dF 26 1 (dB f97) []) ⟨a,m,[],[]⟩))=(E (81,([.p (E (5,0)),.p (E (6,0))],E 88)),dF 27 1 (dB f97) [],a,m,[]):=I
def je(j:Int)(m:dE):letI a:eZ:=[(5,.p (E (4,0))),(6,.p (E (5,0))),(7,.p (E (6,0))),(8,.i .i64 j)];(oS (eC (ep gj Bj AS) f97.ntmps 200 [5,6,7,8] (dF 27 1 (dB f97) []) ⟨a,m,[],[]⟩))=(Te,a,m,[]):=I
def ku{P:Program}{R:Nat->Option Nat}{f:FuncId}{args:List V}{m:dE}{Q:V->dE->Prop}(i j:Nat){L:es}{n:Bool}{F:Nat}(d:i≠j)(g:m[i]?=E ⟨.lit [.b n,.s (E (j,0)) T F],ty⟩)(H:m[j]?=E ⟨.ws .u64 p,L⟩)(s:p.length=F)(a:fX n p T v)(t:nd m.length args=G)(h:eM P R f args ((m.set i ⟨.int v,ty⟩).set j ⟨.dead,L⟩) Q):eM P R f args m Q:=by
  subst s;exact eM.Ke t λq w y=>⟨q,_,y.close d g H a,h⟩
def jf{P:Program}{C:fw}{f:FuncId}{b:Nat}{t:List Item}{e:eZ}{m:dE}{Q:V->dE->Prop}(i:Nat)(g:m[i]?=E ⟨.int v,ty⟩)(k:0<v)(d:ek m.length m=G)(j:fZ m.length e=G)(M: ∀p T L,fX A p T v->(0<T/\T<=p.length/\p.length<=9223372036854775807/\dG p/\0<p.getD (T-1) 0/\val (p.take T)=v)->
     Ev P C f n b [] t e (m.set i ⟨.lit [.b A,.s (E (m.length,0)) T p.length],ty⟩++[⟨.ws .u64 p,L⟩]) Q):Ev P C f n b [] t e m Q:=
  Ev.ld i g d j K (λh=>O) λc p T L h=>by obtain⟨rfl,a⟩:=mg h k;exact M p T L h a
def nw(C:0<T)(f:T<=p.length)(w:dG p)(a:val (p.take T)=v):p.getD 0 0=v%18446744073709551616:=by rw[<-a,yh rK (dS w T),rU C]
def azp(x:Int)(C:0<=x)(M:x<18446744073709551616):eA BinOp.and U.u64 x 7=x%8:=by obtain⟨n,rfl⟩:=fy C;exact pT .u64 64 3 n K K O O
def and_3(x:Int)(C:0<=x)(M:x<18446744073709551616):eA BinOp.and U.u64 x 3=x%4:=by obtain⟨n,rfl⟩:=fy C;exact pT .u64 64 2 n K K O O
def and_1(x:Int)(C:0<=x)(M:x<18446744073709551616):eA BinOp.and U.u64 x 1=x%2:=by obtain⟨n,rfl⟩:=fy C;exact pT .u64 64 1 n K K O O
def jS(a b:Int):Nat:=Lib.ctz 64 (a%b%18446744073709551616).toNat
def jC(a b:Int):Int:=a%b/2^jS a b
def j1(a b j:Int):Int:=if jS a b%2=1/\(b%8=3∨b%8=5)then-j else j
def j2(a b j:Int):Int:=if b%4=3/\jC a b%4=3 then-(j1 a b j)else j1 a b j
def Zp(H:0<b)(h:0<a%b%18446744073709551616):jS a b<64/\0<jC a b:=by
  have M:a%b%18446744073709551616<18446744073709551616:=j6 _ J;obtain⟨m,d,R⟩:=Lib.ctzFrom_spec 64 (a%b%18446744073709551616).toNat O O;have e:Lib.ctz 64 (a%b%18446744073709551616).toNat=Lib.ctzFrom 64 (a%b%18446744073709551616).toNat:=by unfold Lib.ctz;rw[if_neg O]
  refine⟨by unfold jS;rw[e];exact R,?_⟩;unfold jC jS;rw[e];generalize Lib.ctzFrom 64 (a%b%18446744073709551616).toNat=s at d;have g:0<2^s:=Cl O;have S:2^s<=(a%b%18446744073709551616).toNat:=by rw[d];exact Nat.le_mul_of_pos_right _ O
  have l:a%b%18446744073709551616<=a%b:=by have:=j7 a (O:b≠0);omega
  have u:(((2^s:Nat):Int))=2^s:=Y;have:=PK (a:=1) (b:=a%b) (c:=2^s) O O;omega
section
variable{th v w:Int}{ta tb tc tx ty tk tt:es}{Q:V->dE->Prop}
abbrev JM(th v w:Int)(ta tb tc tx ty tk tt:es)(a b c:Int):dE:=[⟨.int v,tx⟩,⟨.int w,ty⟩,⟨.lit [.i .i64 th],tk⟩,⟨.ws .u8 jJ,tt⟩,⟨.int a,ta⟩,⟨.int b,tb⟩,⟨.int c,tc⟩]
abbrev JE(j:Int):eZ:=[(5,.p (E (4,0))),(6,.p (E (5,0))),(7,.p (E (6,0))),(8,.i .i64 j)]
def BE:eo B 51:=ga f51
def qm:eo B 92:=ga f92
def sy:eo B 81:=ga f81
def Mw:ji B (ep gj Bj AS):=gy agc SJ
def Xb{g:Int}(H:0<b)(o:b<pw 1000)(p:0<g)(P:g<pw 1000)(next:Ev B (ep gj Bj AS) 97 f97.ntmps 4 [] Te (JE j) (JM th v w ta tb tc tx ty tk tt b g g) Q)(m:dE)(x:eM B gj 81 [.p (E (4,0)),.p (E (5,0))] m (λ_ u=>fs 7 u (JM th v w ta tb tc tx ty tk tt b b g))):
    eM B gj 81 [.p (E (4,0)),.p (E (5,0))] m (λr u=> ∃y,fA f97.ntmps (JE j) (E 87) r=E y/\Ev B (ep gj Bj AS) 97 f97.ntmps 4 [] (dF 26 1 (dB f97) []) y u Q):=by
  refine x.mono λr u a=>⟨_,K,?_⟩
  refine Ev.fq [5,6,7,8] ?_;refine Ev.rP 7 _ a O Y ?_ K K ?_
  .intro q i z;have:gj q=E i:=z;unfold gj at this;cases M:Nat.beq q 4 with
   |true=>rw[M]at this;cases this;omega
   |false=>
    rw[M]at this;cases S:Nat.beq q 11 with
    |true=>rw[S]at this;cases this;omega
    |false=>rw[S]at this;cases this
  refine dY (eB Mw) (jd j _) K K K sy
    (((L8 b g tb tc O O).lift (gl:=gj) (m:=JM th v w ta tb tc tx ty tk tt b b g) [5,6] ⟨K,K,K,K,dD⟩ J (λ_ _ h=>by cases h) K)) K ?_
  rintro r u⟨C,e,⟨rfl,rfl⟩,_,rfl,rfl⟩_;refine⟨_,K,?_⟩;refine Ev.fq [5,6,7,8] ?_;exact fa (eB Mw) (je j _) K K next
end
section
variable{th v w:Int}{ta tb tc tx ty tk tt:es}{Q:V->dE->Prop}
def PM: ∀q i,gj q=E i->i<7:=by
  intro q i h;unfold gj at h;cases M:Nat.beq q 4 with
  |true=>rw[M]at h;cases h;omega
  |false=>
   rw[M]at h;cases S:Nat.beq q 11 with
   |true=>rw[S]at h;cases h;omega
   |false=>rw[S]at h;cases h
def aFe: ∀q k,gd 2 q=E k-> ∃l,([4,5,2]:List Nat)[k]?=E l/\gj q=E l:=by
  intro q k h;unfold gd at h;cases M:Nat.beq q 4 with
  |true=>rw[M]at h;cases h;exact⟨2,K,by unfold gj;rw[M];rfl⟩
  |false=>rw[M]at h;cases h
def atq{g:Int}(H:0<b)(o:b<pw 1000)(p:0<g)(P:g<pw 1000)(hj: -1<=j/\j<=1)(next:Ev B (ep gj Bj AS) 97 f97.ntmps 4 [] Te (JE (if b%4=3/\g%4=3 then-j else j)) (JM th v w ta tb tc tx ty tk tt b g g) Q):
    Ev B (ep gj Bj AS) 97 f97.ntmps 4 [] (dF 23 2 (dB f97) []) (JE j) (JM th v w ta tb tc tx ty tk tt a b g) Q:=by
  refine jf 5 K H K K λi L n nb⟨b0,b1,b2,f,b4,b5⟩=>?_
  refine jf 6 K p K K λq l s nc⟨c0,c1,c2,d,c4,c5⟩=>?_
  have x:=nw b0 b1 f b5;have ec:=nw c0 c1 d c5;have bw:=eg f 0;have T:=eg d 0;have C:=and_3 _ bw.1 bw.2;have F:=and_3 _ T.1 T.2;have mb:b%18446744073709551616%4=b%4:=O;have mc:g%18446744073709551616%4=g%4:=O;rw[x,mb]at C;rw[ec,mc]at F;have ij:U.i64.wrap (0-j)= -j:=jw
  have R: ∀t,Ev B (ep gj Bj AS) 97 f97.ntmps 4 [] Te (JE t) (JM th v w ta tb tc tx ty tk tt b g g) Q->eM B gj 81 [.p (E (4,0)),.p (E (5,0))] [⟨.int v,tx⟩,⟨.int w,ty⟩,⟨.lit [.i .i64 th],tk⟩,⟨.ws .u8 jJ,tt⟩,⟨.int a,ta⟩,⟨.lit [.b A,.s (E (7,0)) L i.length],tb⟩,⟨.lit [.b A,.s (E (8,0)) l q.length],tc⟩,⟨.ws .u64 i,n⟩,⟨.ws .u64 q,s⟩]
   (λr u=> ∃y,fA f97.ntmps (JE t) (E 87) r=E y/\Ev B (ep gj Bj AS) 97 f97.ntmps 4 [] (dF 26 1 (dB f97) []) y u Q):=λt nx=>by refine Xb H o p P nx _ ?_;refine ku 5 7 J K K K nb K ?_;refine ku 6 8 J K K K nc K ?_;refine((L8 a b ta tb O O).lift (gl:=gj) [4,5] ⟨K,K,K,K,dD⟩ J (λ_ _ h=>by cases h) K).mono ?_;rintro r u⟨r0,k,⟨rfl,rfl⟩,_,rfl,rfl⟩;exact .take 7 (eT _) (by simp[fW,ft,iC]) K K
  by_cases M:b%4=3
  .by_cases S:g%4=3
   .rw [if_pos ⟨M,S⟩]at next;have e:=jc2 L i.length l q.length j i q tb tc n s ⟨.int v,tx⟩ ⟨.int w,ty⟩ ⟨.lit [.i .i64 th],tk⟩ ⟨.ws .u8 jJ,tt⟩ ⟨.int a,ta⟩;unfold zb at e;rw[ij,x,ec,C,F,M,S]at e;refine dY (eB Mw) e ?_ K K sy (R (-j) next) K λr u z _=>z
    simp only[dK,dJ,eu,ew,Nat.reduceAdd,Nat.reduceLT];omega
   .rw [if_neg (λh=>S h.2)]at next;have m:(g%4==3)=A:=by simpa using S
    have e:=jc1 L i.length l q.length j i q tb tc n s ⟨.int v,tx⟩ ⟨.int w,ty⟩ ⟨.lit [.i .i64 th],tk⟩ ⟨.ws .u8 jJ,tt⟩ ⟨.int a,ta⟩;unfold zb at e;rw[x,ec,C,F,M,m]at e;refine dY (eB Mw) e ?_ K K sy (R j next) K λr u z _=>z
    simp only[dK,dJ,eu,ew,Nat.reduceAdd,Nat.reduceLT];omega
  .rw [if_neg (λh=>M h.1)]at next;have c:(b%4==3)=A:=by simpa using M
   have e:=jc0 L i.length l q.length j i q tb tc n s ⟨.int v,tx⟩ ⟨.int w,ty⟩ ⟨.lit [.i .i64 th],tk⟩ ⟨.ws .u8 jJ,tt⟩ ⟨.int a,ta⟩;unfold zb at e;rw[x,C,c]at e;refine dY (eB Mw) e ?_ K K sy (R j next) K λr u z _=>z
   simp only[dK,dJ,eu,ew,Nat.reduceAdd,Nat.reduceLT];omega
end
section
variable{th v w:Int}{ta tb tc tx ty tk tt:es}{Q:V->dE->Prop}
def aAb{c:Int}{s:Nat}(ha:0<a)(ac:a<pw 1000)(hb:0<b)(aa:b<pw 1000)(f:s=Lib.ctz 64 (a%18446744073709551616).toNat)(ad:s<64)(P:0<a%18446744073709551616)(hg:0<a/2^s)(T:a/2^s<pw 1000)(hj: -1<=j/\j<=1)(next: ∀t,t=(if s%2=1/\(b%8=3∨b%8=5)then-j else j)->Ev B (ep gj Bj AS) 97 f97.ntmps 4 [] Te (JE (if b%4=3/\a/2^s%4=3 then-t else t)) (JM th v w ta tb tc tx ty tk tt b (a/2^s) (a/2^s)) Q):
    Ev B (ep gj Bj AS) 97 f97.ntmps 4 [] (dF 15 1 (dB f97) []) (JE j) (JM th v w ta tb tc tx ty tk tt a b c) Q:=by
  refine jf 4 K ha K K λF M p na⟨a0,a1,a2,H,a4,a5⟩=>?_
  refine jf 5 K hb K K λi L n nb⟨b0,b1,b2,b3,b4,b5⟩=>?_
  have ea:=nw a0 a1 H a5;have x:=nw b0 b1 b3 b5;have bw:=eg b3 0;have C:=azp _ bw.1 bw.2;have mb:b%18446744073709551616%8=b%8:=O;rw[x,mb]at C;have y:=and_1 (s:Int) O O;have l:((M:Int)==0)=A:=gp;have ij:U.i64.wrap (0-j)= -j:=jw;have g:((s:Nat):Int).toNat=s:=dU s;have d:0<F.getD 0 0:=by rw[ea];exact P
  have fin: ∀t:Int,(-1<=t/\t<=1)->t=(if s%2=1/\(b%8=3∨b%8=5)then-j else j)-> ∀r u,fs 7 u (JM th v w ta tb tc tx ty tk tt a b (a/2^s))-> ∃e',fA f97.ntmps [(5,.p (E (4,0))),(6,.p (E (5,0))),(7,.p (E (6,0))),(8,.i .i64 t),(69,.i .u64 (s:Int))] (E 70) r=E e'/\
   Ev B (ep gj Bj AS) 97 f97.ntmps 4 [] (dF 23 2 (dB f97) []) e' u Q:=λt o ej r u f=>by refine⟨_,K,?_⟩;refine Ev.fq [5,6,7,8] ?_;refine Ev.rP 7 _ f O Y PM K K ?_;exact atq hb aa hg T o (next t ej)
  have R:eM B gj 92 [.p (E (6,0)),.p (E (4,0)),.i .u64 (s:Int)] [⟨.int v,tx⟩,⟨.int w,ty⟩,⟨.lit [.i .i64 th],tk⟩,⟨.ws .u8 jJ,tt⟩,⟨.lit [.b A,.s (E (7,0)) M F.length],ta⟩,⟨.lit [.b A,.s (E (8,0)) L i.length],tb⟩,⟨.int c,tc⟩,⟨.ws .u64 F,p⟩,⟨.ws .u64 i,n⟩]
   (λ_ u=>fs 7 u (JM th v w ta tb tc tx ty tk tt a b (a/2^s))):=by refine ku 4 7 J K K K na K ?_;refine ku 5 8 J K K K nb K ?_;refine((amw c a (s:Int) tc ta ha ac O O).lift (gl:=gj) [6,4] ⟨K,K,K,K,dD⟩ J (λ_ _ h=>by cases h) K).mono ?_;rintro r u⟨r0,ae,⟨rfl,rfl⟩,_,rfl,rfl⟩;rw[g];exact .take 7 (eT _) (by simp[fW,ft,iC]) K K
  by_cases h1:s%2=1
  .have k:((s:Int)%2 !=0)=G:=gp;by_cases h3:b%8=3
   .have q:(b%8==3)=G:=by simpa using h3
    have e:=jb1 M F.length L i.length j F i ta tb p n ⟨.int v,tx⟩ ⟨.int w,ty⟩ ⟨.lit [.i .i64 th],tk⟩ ⟨.int c,tc⟩ tt jJ;unfold vO at e;simp only[ij]at e;rw[ea,<-f]at e;refine dY (eB Mw) e ?_ K K qm R K λr u z _=>fin (-j) O (by rw[if_pos ⟨h1,.inl h3⟩]) r u z
    rw[ea]at d;simp only[y,l,k,x,C,q];simp only[dK,dJ,eu,ew,Nat.reduceAdd,Nat.reduceLT,H]
    first|omega|(simp only[iT,fV,im];omega) |skip
   .have q:(b%8==3)=A:=by simpa using h3
    by_cases h5:b%8=5
    .have S:(b%8==5)=G:=by simpa using h5
     have e:=jb2 M F.length L i.length j F i ta tb p n ⟨.int v,tx⟩ ⟨.int w,ty⟩ ⟨.lit [.i .i64 th],tk⟩ ⟨.int c,tc⟩ tt jJ;unfold vO at e;simp only[ij]at e;rw[ea,<-f]at e;refine dY (eB Mw) e ?_ K K qm R K λr u z _=>fin (-j) O (by rw[if_pos ⟨h1,.inr h5⟩]) r u z
     rw[ea]at d;simp only[y,l,k,x,C,q,S];simp only[dK,dJ,eu,ew,Nat.reduceAdd,Nat.reduceLT,H]
     first|omega|(simp only[iT,fV,im];omega) |skip
    .have S:(b%8==5)=A:=by simpa using h5
     have m: ¬(s%2=1/\(b%8=3∨b%8=5)):=O;have e:=jb3 M F.length L i.length j F i ta tb p n ⟨.int v,tx⟩ ⟨.int w,ty⟩ ⟨.lit [.i .i64 th],tk⟩ ⟨.int c,tc⟩ tt jJ;unfold vO at e;rw[ea,<-f]at e;refine dY (eB Mw) e ?_ K K qm R K λr u z _=>fin j O (by rw[if_neg m]) r u z
     rw[ea]at d;simp only[y,l,k,x,C,q,S];simp only[dK,dJ,eu,ew,Nat.reduceAdd,Nat.reduceLT,H]
     first|omega|(simp only[iT,fV,im];omega) |skip
  .have k:((s:Int)%2 !=0)=A:=gp;have e:=jb0 M F.length L i.length j F i ta tb p n ⟨.int v,tx⟩ ⟨.int w,ty⟩ ⟨.lit [.i .i64 th],tk⟩ ⟨.int c,tc⟩ tt jJ;unfold vO at e;rw[ea,<-f]at e;refine dY (eB Mw) e ?_ K K qm R K λr u z _=>fin j O (by rw[if_neg (λh=>h1 h.1)]) r u z
   rw[ea]at d;simp only[y,l,k];simp only[dK,dJ,eu,ew,Nat.reduceAdd,Nat.reduceLT,H]
   first|omega|(simp only[iT,fV,im];omega) |skip
end
def UX{i:List Int}{L:Nat}(C:0<L)(H:val (i.take L)=b)(M:1<b):
    ((if L<1 then(-1:Int)else if 1<L then 1 else vA (val (jp L (kw 0 i))) (val (jp L (kw 0 [1]))))==0)=A:=by
  rw[if_neg O];by_cases h:1<L
  .rw [if_pos h];rfl
  .obtain rfl:L=1:=O;rw[if_neg h,gh,H];have e:val (jp 1 (kw 0 [1]))=1:=I;rw[e];have f:vA b 1=1:=by unfold vA;split<;>(try split)<;>omega
   rw[f];rfl
def Qm{i:List Int}(H:val (i.take 1)=1):
    ((if 1<1 then(-1:Int)else if 1<1 then 1 else vA (val (jp 1 (kw 0 i))) (val (jp 1 (kw 0 [1]))))==0)=G:=by
  rw[gh,H];kernel_rfl
def GD:dG [1]:=λx L=>by simp only[kh,lO,lN]at L;subst L;exact⟨J,J⟩
section
variable{th v w:Int}{ta tb tc tx ty tk tt:es}{Q:V->dE->Prop}
def OB{c:Int}(t:0<a)(aa:a<pw 1000)(H:1<b)(o:b<pw 4)(P:0<a%b%18446744073709551616)(q:4<th)(R: -1<=j/\j<=1)(next:Ev B (ep gj Bj AS) 97 f97.ntmps 4 [] Te (JE (j2 a b j)) (JM th v w ta tb tc tx ty tk tt b (jC a b) (jC a b)) Q):
    Ev B (ep gj Bj AS) 97 f97.ntmps 4 [] Te (JE j) (JM th v w ta tb tc tx ty tk tt a b c) Q:=by
  obtain⟨g,T⟩:=Zp O P;have hp:=jk (O:4<=1000);have S:=jk (O:1000<=90000);have C:=j7 a (O:b≠0);have r1:=j6 a (O:0<b)
  have y:0<a%b:=by
    rcases k9 0 (a%b)with h|h
    .exact h
    .have:a%b=0:=O;rw[this]at P;simp at P
  have z:jC a b<=a%b:=G3 _ C;refine jf 4 K t K K λF M p x⟨a0,a1,a2,a3,a4,a5⟩=>?_
  refine jf 5 K O K K λi L n m⟨b0,b1,b2,b3,b4,b5⟩=>?_
  have d:=fm m (k:=4) O;have l:((M:Int)==0)=A:=gp
  refine dY (eB Mw) (ja M F.length L i.length j F i ta tb p n ⟨.int v,tx⟩ ⟨.int w,ty⟩ ⟨.lit [.i .i64 th],tk⟩ ⟨.int c,tc⟩ tt jJ) ?_ K K BE
    (Q1:=λ_ u=>fs 7 u (JM th v w ta tb tc tx ty tk tt (a%b) b c)) ?_ K ?_
  .have e1:=UX b0 b5 H;simp only[l,e1];simp only[dK,dJ,eu,ew,Nat.reduceAdd,Nat.reduceLT,a3,b3,GD];exact⟨O,I⟩
  .refine ku 4 7 J K K K x K ?_;refine ku 5 8 J K K K m K ?_;refine((Ss (P:=ta) (R:=tb) (f:=tk) t O H o q).lift (gl:=gj) [4,5,2] ⟨K,K,K,K,K,K,dD⟩ J aFe K).mono ?_;rintro r u⟨C,e,⟨rfl,rfl⟩,_,rfl,rfl⟩;exact .take 7 (eT _) (by simp[fW,ft,iC]) K K
  intro r u f _;refine⟨_,K,?_⟩;refine Ev.fq [5,6,7,8] ?_;refine Ev.rP 7 _ f O Y PM K K ?_;refine aAb (s:=jS a b) y O O O K g P T (by unfold jC at z;omega) R ?_;rintro j' rfl;exact next
def JR:Nat->Int->Int->Int->Option Int
  |0,_,_,_=>N
  |f+1,a,b,j=>if b=1 then E j else if 0<a%b%18446744073709551616 then JR f b (jC a b) (j2 a b j)else N
def apz(h:j=1∨j= -1):j2 a b j=1∨j2 a b j= -1:=by
  have M:j1 a b j=1∨j1 a b j= -1:=by unfold j1;split<;>omega
  unfold j2;split<;>omega
def Hy(q:4<th): ∀(f:Nat)(a b c j R:Int),JR f a b j=E R->0<a->a<pw 1000->0<b->b<pw 4->(j=1∨j= -1)->
    (∀u,fs 4 u [⟨.int v,tx⟩,⟨.int w,ty⟩,⟨.lit [.i .i64 th],tk⟩,⟨.ws .u8 jJ,tt⟩]->Q (.i .i64 R) u)->Ev B (ep gj Bj AS) 97 f97.ntmps 4 [] Te (JE j) (JM th v w ta tb tc tx ty tk tt a b c) Q
  |0,_,_,_,_,_,h,_,_,_,_,_,_=>by cases h
  |f+1,a,b,c,j,R,h,t,s,H,d,r,o=>by
   unfold JR at h;by_cases M:b=1
   .subst M;rw[if_pos K]at h;cases h;refine jf 4 K t K K λF g e na⟨a0,a1,a2,a3,a4,a5⟩=>?_
    refine jf 5 K O K K λi L n m⟨b0,b1,b2,y,b4,x⟩=>?_
    have l:=fm m (k:=1) J;obtain rfl:L=1:=O;refine Ev.done (eB Mw) (ja1 g F.length 1 i.length j F i ta tb e n ⟨.int v,tx⟩ ⟨.int w,ty⟩ ⟨.lit [.i .i64 th],tk⟩ ⟨.int c,tc⟩ tt jJ) ?_ (o _ (.take 4 Y Y K K));have T:=Qm x;simp only[T];simp only[dK,dJ,eu,ew,Nat.reduceAdd,Nat.reduceLT,y,GD];exact⟨O,I⟩
   .rw [if_neg M]at h;by_cases S:0<a%b%18446744073709551616
    .rw [if_pos S]at h;have p:=(Zp O S).2;have C:=j7 a (O:b≠0);have P:=j6 a (O:0<b);have z:jC a b<=a%b:=G3 _ C;have hp:=jk (O:4<=1000);exact OB t s O d S q O (Hy q f b (jC a b) (jC a b) _ R h H O p O (apz r) o)
    .rw [if_neg S]at h;cases h
end
end Go.Proofs.YtiggidfngfkanaaGreatDoor
