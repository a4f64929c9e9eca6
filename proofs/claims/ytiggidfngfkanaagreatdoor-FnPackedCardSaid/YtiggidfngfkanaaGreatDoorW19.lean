/- FnPacked, part 19. No condition. -/
import Derived.Test.YtiggidfngfkanaaGreatDoorW18
namespace Go.Proofs.YtiggidfngfkanaaGreatDoor
open Go Go.Proofs.Tryz
set_option maxRecDepth 100000
set_option maxHeartbeats 4000000
set_option linter.all false
open Bool renaming false->A, true->G
open Decidable renaming decide->D
open Go renaming IntKind->U, TypeId->es, Value->ip, World->ii
open Go.Proofs.Tryz renaming prog->B
open List renaming replicate->lc
open Option renaming none->N, some->E
variable{a:Act}{l:Addr}{f g:FuncId}{t t2:List Item}{vs:List V}{b cap k n v:Nat}{z:Nat->Int}{q:Nat->Nat}{o:Oper}{x:Operand}{d:Option Tmp}{P:Program}{Q:V->dE->Prop}{m:dE}{T e:eZ}{C:fw}{w w0:ii}
def TU(C:fw)(t:List Item)(e:eZ):Option (Nat×List V×Option Tmp):=
  match t with
  | .inRegion T (i::_)::_=>match T.toList[i]? with
    |some o=>match o.op with
     | .makeFunc (.func g) first p=>match first.toList,ia T.toList e o,nX C e p.toList with
       |[],E G,E L=>E (g,L,o.dst)
       |_,_,_=>N
     |_=>N
    |none=>N
  |_=>N
def FB{H:Ds}(ad:RD P C)(j:Nat)(z:List Bool)(l:List Nat)(s:List Bool){g:Nat}{q:dE}(h:(match eC C n j l t ⟨e,m,z,[]⟩with|(r,T,q,o1)=>(TU C r T,iF r,T,q,o1))=(E (g,vs,d),t2,T,q,s))(ho:eb s=G)(ab:jv m.length H=G)(c:jv q.length H=G)(aa:fZ q.length T=G)(hk: ∃y,fA n T d (.f g vs)=E y/\Ev P C f n b H t2 y q Q):Ev P C f n b H t e m Q:=by
  generalize L:eC C n j l t ⟨e,m,z,[]⟩=x at h;obtain⟨r,e2,m2,o1⟩:=x;simp only[ef]at h;obtain⟨M,rfl,rfl,rfl,rfl⟩:=h;refine Ev.go ad j z l (by rw[L]) (by rw[L]) (by rw[L]) (by rw[L]) ho ab ?_;unfold TU at M;split at M
  .rename_i R i ak k;split at M
   .rename_i o af;split at M
    .rename_i g' first p ae;split at M
     .rename_i S ah u ac;simp only[eJ,ef]at M;obtain⟨rfl,rfl,rfl⟩:=M;have F:R[i]?=E o:=by simpa using af
      refine yP K F u aa c ?_;intro ρ a w hr he hg;obtain⟨y,hp,ag⟩:=hk;refine⟨.f g' S,m2,w,?_,.refl hr,y,hp,ag⟩
      have aj:first= #[]:=by have:first=first.toList.toArray:=Y;rw[this,ah]
      have v:p.map a.eval=(dZ ρ S).toArray:=by apply nh;simp[<-jH he hg ac]
      unfold execOp;rw[ae];subst aj;simp only[V.ee,<-v,Array.map_empty];rfl
     .cases M
    .cases M
   .cases M
  .cases M
def Gh(C:fw)(t:List Item)(e:eZ):Option (FuncId×List V×Option Tmp):=
  match t with
  | .inRegion T (i::_)::_=>match T.toList[i]? with
    |some o=>match o.op with
     | .call c=>match c.callee with
       | .value x=>match ia T.toList e o,fC C e x,nX C e c.args.toList with
         |some G,E (.f g p),E L=>E (g,L++p,o.dst)
         |_,_,_=>N
       |_=>N
     |_=>N
    |none=>N
  |_=>N
def Jj{ds:Ds}{Q1:V->dE->Prop}(an:RD P C)(j:Nat)(z:List Bool)(l:List Nat)(y:List Bool){q:dE}(h:(match eC C n j l t ⟨e,m,z,[]⟩with|(t1,T,q,o1)=>(Gh C t1 T,iF t1,T,q,o1))=(E (g,vs,d),t2,T,q,y))(ho:eb y=G)(ak:jv m.length ds=G)(aa:jv q.length ds=G)(ae:eo P g)(ad:eM P C.mw g vs q Q1)(aj:fZ q.length T=G)(hk: ∀r F,Q1 r F->q.length<=F.length-> ∃e',fA n T d r=E e'/\Ev P C f n b ds t2 e' F Q):Ev P C f n b ds t e m Q:=by
  generalize hx:eC C n j l t ⟨e,m,z,[]⟩=x at h;obtain⟨t1,e2,m2,o1⟩:=x;simp only[ef]at h;obtain⟨M,rfl,rfl,rfl,rfl⟩:=h;refine Ev.go an j z l (by rw[hx]) (by rw[hx]) (by rw[hx]) (by rw[hx]) ho ak ?_;unfold Gh at M;split at M
  .rename_i s i av k;split at M
   .rename_i o ap;split at M
    .rename_i c ao;split at M
     .rename_i x ar;split at M
      .rename_i g' p S u al am;simp only[eJ,ef]at M;obtain⟨rfl,rfl,rfl⟩:=M;intro ρ a w R hb hr he hg hn hd hR;have ac:s[i]?=E o:=by simpa using ap
       have H:=gg he u;have af:s=s.toList.toArray:=Y;rw[<-af]at H;refine po ac H ?_;unfold Oper.wp
       have ab:(execOp a.eval o).run P w= .ok (.enter g' (dZ ρ (S++p)).toArray) w:=by
         have hv:=ff he hg al;simp only[V.ee]at hv
         have v:c.args.map a.eval=(dZ ρ S).toArray:=by apply nh;simp[<-jH he hg am]
         have M:execOp a.eval o=callFunc g' (#[]++c.args.map a.eval++(dZ ρ p).toArray):=by unfold execOp;rw[ao];show(resolve a.eval c o.type>>=λd=>invoke d.target d.args)=_;unfold resolve;rw[ar];show(Deferred.ofValue (a.eval x) (c.args.map a.eval)>>=λd=>invoke d.target d.args)=_;rw[hv];rfl
         rw[M,gT ae]
         congr 2
         apply nh;rw[v,GU];simp
       rw[ab,Am];refine(ad ρ w hr hg).mono ?_;rintro en w'⟨ag,r,F,ah,rfl,hq⟩;have L:=ah.whole;obtain⟨e',hp,aq⟩:=hk r F hq L.len;exact aq ag _ w' R (mh hb L.len) L.rel ((he.kg aj L.ln).put hn hp) (hg.kg L.len L.ln) (by rw[iH,hn]) (by rw[put_defers,hd,jE L.ln aa]) λ_ _ hp=>hR _ _ (hp.after hb L)
      .cases M
     .cases M
    .cases M
   .cases M
  .cases M
def B2(C:fw)(t:List Item)(e:eZ):Option (FuncId×List V):=
  match t with
  | .inRegion T (i::_)::_=>match T.toList[i]? with
    |some o=>match o.op,o.dst with
     | .defer c,N=>match c.callee,c.args.toList with
       | .value x,[]=>match ia T.toList e o,fC C e x with
         |some G,E (.f g p)=>E (g+100000,p)
         |_,_=>N
       |_,_=>N
     |_,_=>N
    |none=>N
  |_=>N
def EG{ds:Ds}(ad:RD P C)(j:Nat)(z:List Bool)(l:List Nat)(s:List Bool){S:eZ}{m1:dE}(h:(match eC C n j l t ⟨e,m,z,[]⟩with|(t1,S,m1,o1)=>(B2 C t1 S,iF t1,S,m1,o1))=(E (g,vs),t2,S,m1,s))(ho:eb s=G)(ab:jv m.length ds=G)(hk:Ev P C f n b ((g,vs)::ds) t2 S m1 Q):Ev P C f n b ds t e m Q:=by
  generalize hx:eC C n j l t ⟨e,m,z,[]⟩=x at h;obtain⟨t1,e2,m2,o1⟩:=x;simp only[ef]at h;obtain⟨M,rfl,rfl,rfl,rfl⟩:=h;refine Ev.go ad j z l (by rw[hx]) (by rw[hx]) (by rw[hx]) (by rw[hx]) ho ab ?_;unfold B2 at M;split at M
  .rename_i T i ak k;split at M
   .rename_i o af;split at M
    .rename_i c ae r;split at M
     .rename_i x ah aj;split at M
      .rename_i L aa u ac;simp only[eJ,ef]at M;obtain⟨rfl,rfl⟩:=M;intro ρ a w R hb hr he hg hn hd hR;have F:T[i]?=E o:=by simpa using af
       have H:=gg he u;have p:T=T.toList.toArray:=Y;rw[<-p]at H;refine po F H ?_;have hv:=ff he hg ac;simp only[V.ee]at hv
       have v:c.args.map a.eval= #[]:=by have:c.args=c.args.toList.toArray:=Y;rw[this,aj,Array.map_empty]
       unfold Oper.wp
       have q:(execOp a.eval o).run P w= .ok (.defer ⟨.fn (.func L) (dZ ρ aa).toArray,#[]⟩) w:=by unfold execOp;rw[ae];show(resolve a.eval c o.type>>=λd=>pure (Next.defer d)).run P w=_;unfold resolve;rw[ah];show(Deferred.ofValue (a.eval x) (c.args.map a.eval)>>=λd=>pure (Next.defer d)).run P w=_;rw[hv,v];rfl
       rw[q,UL,r];refine hk ρ _ w R hb hr ?_ hg ?_ ?_ hR
       .exact he
       .exact hn
       .have ag:Nat.blt (L+100000) 100000=A:=by
          cases hh:Nat.blt (L+100000) 100000
          .rfl
          .have:=mi hh;omega
        have y:L+100000-100000=L:=O;simp[Act.put,qo,UO,ag,hd,y]
      .cases M
     .cases M
    .cases M
   .cases M
  .cases M
def HU{L:List V}{fn:Func}(c:RD P C){j:Nat}{z:List Bool}{s:List Bool}{r:V}{o:Bool}{H:dE}(h:(runM C fn.results.toList (et C n N j t ⟨e,m,z,[]⟩))=(G,E (r,o),H,s))(ho:eb s=G)(u:o=G)(i:jv m.length [(g+100000,L)]=G)(M:eo P g)(l: ∀q w,CallsD P g (dZ q L).toArray .returning w λen T S=>(∃v,en= .returned v)/\T= .returning/\S=w)(hQ:Q r H)(d:P.funcs[f]?=E fn:=by kernel_rfl):Ev P C f n b [(g+100000,L)] t e m Q:=by
  unfold runM at h;subst u;generalize hx:et C n N j t ⟨e,m,z,[]⟩=x at h;obtain⟨t1,⟨e1,m1,y,o1⟩⟩:=x;simp only[ef]at h;obtain⟨h1,h2,rfl,rfl⟩:=h;refine Ev.run c j z hx ho i ?_;refine Nn d h1 λq a w R hb k he hg hd hR=>?_
  show Leaves P fn a.tmps R [UO (g+100000) (dZ q L)] .returning w
  have p:Nat.blt (g+100000) 100000=A:=by
    cases hh:Nat.blt (g+100000) 100000
    .rfl
    .have:=mi hh;omega
  have F:UO (g+100000) (dZ q L)=⟨.fn (.func g) (dZ q L).toArray,#[]⟩:=by unfold UO;rw[p];simp
  rw[F];refine leaves_cons (f:=g) (args:=(dZ q L).toArray) Y ?_ ?_
  .have:=gT (P:=P) M (dZ q L).toArray w;simpa[invoke,callFunc]using this
  .refine(l q w).mono ?_;rintro en T S⟨⟨v,rfl⟩,rfl,rfl⟩;exact⟨r.ee q,vQ (P:=P) (w:=S) (fn:=fn) c.t k he h2,hR _ _ ⟨q,r,m1,.refl hb k,K,hQ⟩⟩
def UN(p:ip)(w:ii):CallsD B 62 #[p] .returning w λi T S=>(∃v,i= .returned v)/\T= .returning/\S=w:=by
  refine callsD_of_wpS (fn:=f62) I K λq o F=>?_
  apply wpS_seq;apply wpS_region;simp[wpOpsS,go_sem,recoverD,F,Exit.thenS];refine wpS_cond (t:=A) (by simp[Act.eval,Array.replicate]) ?_;simp only[oP,kT];refine wpS_of_wp (wp_skip ?_);cases q
  simp_all [bodyPostS,results,f62]
def HR:eo B 39:=ga f39
def RB:eo B 40:=ga f40
def UH:eo B 42:=ga f42
def Qt:eo B 44:=ga f44
def PI:eo B 45:=ga f45
def PW:eo B 20:=ga f20
def Si:eo B 23:=ga f23
def Im:eo B 26:=ga f26
def Je:eo B 62:=ga f62
abbrev CB(b:Bool):dI:=⟨.lit [.b b],4⟩
def BN{l r:List Nat}(f:l=List.range k): ∀i,i<k->(l++r)[i]?=E i:=by intro i g;subst f;rw[oF (by rw[List.length_range];exact g),List.getElem?_range g]
noncomputable abbrev OP:fw:=ep qF [] LQ
def DJ:ji B OP:=gy dD (jF qF)
abbrev Cd(g:Nat)(o:List V)(w:fw)(S:List dI)(u:Nat)(u3:(List dI->List dI)):Prop:=(match eC w f39.ntmps 200 [0,2] [.code (dB f39)] ⟨fo 0 [.f g o],S,[],[]⟩with|(v,T,q,R)=>(TU w v T,iF v,T,q,R))=(E (62,[pt u],E 3),dF 1 1 (dB f39) [],[(0,.f g o),(2,pt u)],(u3 [CB A]),[])
def aqm(g:Nat)(o:List V)(T P L s b4 u f h:dI):Cd g o OP [T,P,L,s,b4,u,f,h] 8 (λS=>T::P::L::s::b4::u::f::h::S):=dR
abbrev C8(g:Nat)(o:List V)(m:dE)(w:fw)(S:Nat):Prop:=letI a:=pt S;(match eC w f39.ntmps 200 [0,2,3] (dF 1 1 (dB f39) []) ⟨[(3,.f 62 [a]),(0,.f g o),(2,a)],m,[],[]⟩with|(v,T,q,R)=>(B2 w v T,iF v,T,q,R))=(E (100062,[a]),dF 1 2 (dB f39) [],[(0,.f g o),(2,a),(3,.f 62 [a])],m,[])
def azb(g:Nat)(o:List V)(m:dE):C8 g o m OP 8:=dR
abbrev Bv(g:Nat)(o:List V)(m:dE)(w:fw)(S:Nat):Prop:=(match eC w f39.ntmps 200 [2,4] (dF 1 2 (dB f39) []) ⟨[(0,.f g o),(2,pt S),(3,.f 62 [pt S])],m,[],[]⟩with|(v,T,q,R)=>(Gh w v T,iF v,T,q,R))=(E (g,o,E 5),dF 2 2 (dB f39) [],[(2,pt S),(4,.f g o)],m,[])
def axq(g:Nat)(o:List V)(m:dE):Bv g o m OP 8:=dR
abbrev Bn(g:Nat)(o:List V)(w:fw)(S:Nat)(u u3:List dI):Prop:=(runM w f39.results.toList (et w f39.ntmps N 200 (dF 2 2 (dB f39) []) ⟨[(5,.t []),(2,pt S),(4,.f g o)],u,[],[]⟩))=(G,E (.b G,G),u3,[G])
def aqs(g:Nat)(o:List V)(T P L s b4 u f h t:dI):Bn g o OP 8 [T,P,L,s,b4,u,f,h,CB A,t] [T,P,L,s,b4,u,f,h,CB G,t]:=dR
def aIh: ∀g i,qF g=E i-> ∃j,[0,1,2,3,4,5,6,7][i]?=E j/\qF g=E j:=rL ⟨_,K,K⟩ (rL ⟨_,K,K⟩ DO)
def apt: ∀g i,qF g=E i-> ∃j,[0,1,2,3,4][i]?=E j/\qF g=E j:=rL ⟨_,K,K⟩ (rL ⟨_,K,K⟩ DO)
section
variable{tg te tk tb tc:es}{ev:Addr}{th:Int}{x y c d:Nat}{xs ys:List Int}
abbrev PG(tg te tk tb tc:es)(ev:Addr)(th:Int)(xs ys:List Int)(r:dE):dE:=M42 tg te tk ev th (⟨.ws .u8 xs,tb⟩::⟨.ws .u8 ys,tc⟩::r)
abbrev VU(c d:Nat)(s:V)(r:dE):dE:=⟨.lit [.s (E (3,0)) 32 c],22⟩::⟨.lit [.s (E (4,0)) 32 d],22⟩::⟨.lit [s],22⟩::r
abbrev R41(x y:Nat)(F:List Int):dI:=⟨.ws .u8 (((y:Int)%2)::(bL x++F)),5⟩
def aRh(c d:Nat)(T P L s b4:dI):letI b:V:= .s (E (3,0)) 32 c;letI e:V:= .s (E (4,0)) 32 d;letI a:dE:=[T,P,L,s,b4,⟨.lit [b],22⟩,⟨.lit [e],22⟩,⟨.lit [.s N 0 0],22⟩];(Nb OP (eC OP f40.ntmps 200 [2,3,4] [.code (dB f40)] ⟨fo 0 [pt 5,pt 6,pt 7],a,[],[]⟩))=(E (42,[b,e],E 5),dF 0 3 (dB f40) [],[(2,pt 7),(3,b),(4,e)],a,G):=I
abbrev Fj(m:dE)(w S u u3 i s:Nat)(u4:Func)(o v F:V)(t:FuncId):Prop:=(Nb OP (eC OP w 200 [S,5] (dF u u3 (dB u4) []) ⟨[(5,o),(2,pt i),(3,v),(4,F)],m,[],[]⟩))=(E (t,[o],E 6),dF u s (dB u4) [],[(S,pt 7),(5,o)],m,G)
def aFj(c d:Nat)(m:dE):Fj m f40.ntmps 2 0 3 7 4 f40 (pt 10) (.s (E (3,0)) 32 c) (.s (E (4,0)) 32 d) 41:=dR
abbrev E6(w:List ResultVar)(S u u3 i:Nat)(u4:Func)(o v s:V)(F H:List dI)(t:List Bool):Prop:=oX OP w (fe OP S N N 200 (dF u u3 (dB u4) []) ⟨[(6,o),(i,pt 7),(5,v)],F,t,[]⟩)=(G,E (s,G),H,G)
def aMe(c d k:Nat)(T P L s b4 Q v i S:dI):letI a:dI:=⟨.lit [.s (E (3,0)) 32 c],22⟩;letI b:dI:=⟨.lit [.s (E (4,0)) 32 d],22⟩;letI e:V:= .s (E (11,0)) 33 (33+k);E6 f40.results.toList f40.ntmps 0 4 2 f40 e (pt 10) (.t []) [T,P,L,s,b4,a,b,⟨.lit [.s N 0 0],22⟩,Q,v,i,S] [T,P,L,s,b4,a,b,⟨.lit [e],22⟩,Q,v,i,S] []:=dR
def ayu(q:4<th):letI a:Nat:=115792089237316195423570985008687907853269984665640564039457584007913129639936;∀(L:x<a)(Q:y<a)(s:32<c∨c=32)(z:32<d∨d=32)(T:32<=xs.length)(o: ∀k,k<32->xs.getD k 0=(bL x).getD k 0)(P:32<=ys.length)(l: ∀k,k<32->ys.getD k 0=(bL y).getD k 0)(M:2^232<=x)(t:0<y),eM B qF 40 [pt 5,pt 6,pt 7] (PG tg te tk tb tc ev th xs ys (VU c d (.s N 0 0) [])) (λr m=>r= .t []/\ ∃F:List Int,m=PG tg te tk tb tc ev th xs ys (VU c d (.s (E (8,0)) 33 (33+F.length)) [R41 x y F])):=by intro L Q s z T o P l M t;refine eM.pick ?_;refine dL _ f40 (fH (eB DJ) (aRh c d _ _ _ _ _) K K K UH ((ayj (tg:=tg) (te:=te) (tk:=tk) (tb:=tb) (tc:=tc) (ev:=ev) q L Q s z T o P l).lift (gl:=qF) (m:=PG tg te tk tb tc ev th xs ys (VU c d (.s N 0 0) [])) [0,1,2,3,4] ⟨K,K,K,K,K,K,K,K,K,K,dD⟩ J apt K) K ?_);rintro r u⟨C,e,⟨rfl,p,j,rfl⟩,_,rfl,rfl⟩_;refine⟨_,K,?_⟩;refine fH (eB DJ) (aFj c d _) K K K QX ((aok (p:=p) (j:=j) (t:=90) (ty:=90) M L t).lift (gl:=qF) (m:=PG tg te tk tb tc ev th xs ys (VU c d (.s N 0 0) [xE x 90,xE y 90,PB p j 8])) [10,8,9] ⟨K,K,K,K,K,K,dD⟩ J (λg i h=>by cases h) K) K ?_;rintro r u⟨C,e,⟨F,rfl,rfl⟩,_,rfl,rfl⟩_;refine⟨_,K,?_⟩;refine gB (eB DJ) (aMe c d F.length _ _ _ _ _ _ _ _ _) K K ?_;exact⟨[0,1,2,3,4,5,6,7,11],.t [],PG tg te tk tb tc ev th xs ys (VU c d (.s (E (8,0)) 33 (33+F.length)) [R41 x y F]),⟨K,K,K,K,K,K,K,K,K,K,K,K,K,K,K,K,K,K,dD⟩,J,Y,BN (k:=8) (r:=[11]) K,K,K,F,K⟩
def ahb(b:4<th):letI a:Nat:=115792089237316195423570985008687907853269984665640564039457584007913129639936;∀(L:x<a)(Q:y<a)(s:32<c∨c=32)(z:32<d∨d=32)(T:32<=xs.length)(o: ∀k,k<32->xs.getD k 0=(bL x).getD k 0)(P:32<=ys.length)(l: ∀k,k<32->ys.getD k 0=(bL y).getD k 0)(M:2^232<=x)(t:0<y),eM B qF 39 [.f 40 [pt 5,pt 6,pt 7]] (PG tg te tk tb tc ev th xs ys (VU c d (.s N 0 0) [])) (λr m=>r= .b G/\ ∃F:List Int,m=PG tg te tk tb tc ev th xs ys (VU c d (.s (E (8,0)) 33 (33+F.length)) [R41 x y F])):=by intro L Q s z T o P l M t;refine eM.pick ?_;refine dL _ f39 (FB (eB DJ) 200 [] [0,2] [] (aqm 40 [pt 5,pt 6,pt 7] _ _ _ _ _ _ _ _) K K K K ⟨_,K,?_⟩);refine EG (eB DJ) 200 [] [0,2,3] [] (azb 40 [pt 5,pt 6,pt 7] _) K K ?_;refine Jj (eB DJ) 200 [] [2,4] [] (axq 40 [pt 5,pt 6,pt 7] _) K K K RB ((ayu (tg:=tg) (te:=te) (tk:=tk) (tb:=tb) (tc:=tc) (ev:=ev) b L Q s z T o P l M t).lift (gl:=qF) (m:=PG tg te tk tb tc ev th xs ys (VU c d (.s N 0 0) [])++[CB A]) [0,1,2,3,4,5,6,7] ⟨K,K,K,K,K,K,K,K,K,K,K,K,K,K,K,K,dD⟩ J (aIh) K) K ?_;rintro r u⟨C,e,⟨rfl,F,rfl⟩,_,rfl,rfl⟩_;refine⟨_,K,?_⟩;refine HU (g:=62) (eB DJ) (aqs 40 [pt 5,pt 6,pt 7] _ _ _ _ _ _ _ _ _) K K K Je (λq w=>UN _ w) ?_;exact⟨[0,1,2,3,4,5,6,7,9],.b G,PG tg te tk tb tc ev th xs ys (VU c d (.s (E (8,0)) 33 (33+F.length)) [R41 x y F]),⟨K,K,K,K,K,K,K,K,K,K,K,K,K,K,K,K,K,K,dD⟩,J,Y,BN (k:=8) (r:=[9]) K,K,K,F,K⟩
def aMn(c d:Nat)(a P L s b4:dI):(match eC OP f20.ntmps 200 [2,3,4] [.code (dB f20)] ⟨fo 0 [.s (E (3,0)) 32 c,.s (E (4,0)) 32 d],[a,P,L,s,b4],[],[]⟩with|(v,T,q,R)=>(TU OP v T,iF v,T,q,R))=(E (40,[pt 5,pt 6,pt 7],E 5),dF 1 1 (dB f20) [],[(2,pt 5),(3,pt 6),(4,pt 7)],[a,P,L,s,b4,⟨.lit [.s (E (3,0)) 32 c],22⟩,⟨.lit [.s (E (4,0)) 32 d],22⟩,⟨.lit [.s N 0 0],22⟩],[]):=I
def aGh(m:dE):Fj m f20.ntmps 4 1 1 5 2 f20 (.f 40 [pt 5,pt 6,pt 7]) (pt 6) (pt 7) 39:=dR
def aFd(c d k:Nat)(T P L s b4 Q:dI):letI e:V:= .s (E (8,0)) 33 (33+k);letI a:dE:=[T,P,L,s,b4,⟨.lit [.s (E (3,0)) 32 c],22⟩,⟨.lit [.s (E (4,0)) 32 d],22⟩,⟨.lit [e],22⟩,Q];E6 f20.results.toList f20.ntmps 1 2 4 f20 (.b G) (.f 40 [pt 5,pt 6,pt 7]) e a a [A]:=dR
def azh(q:4<th):letI a:Nat:=115792089237316195423570985008687907853269984665640564039457584007913129639936;∀(L:x<a)(Q:y<a)(s:32<c∨c=32)(z:32<d∨d=32)(T:32<=xs.length)(o: ∀k,k<32->xs.getD k 0=(bL x).getD k 0)(P:32<=ys.length)(l: ∀k,k<32->ys.getD k 0=(bL y).getD k 0)(M:2^232<=x)(t:0<y),eM B qF 20 [.s (E (3,0)) 32 c,.s (E (4,0)) 32 d] (PG tg te tk tb tc ev th xs ys []) (λr m=> ∃F:List Int,r= .s (E (5,0)) 33 (33+F.length)/\m=PG tg te tk tb tc ev th xs ys [R41 x y F]):=by intro L Q s z T o P l M t;refine eM.pick ?_;refine dL _ f20 (FB (eB DJ) 200 [] [2,3,4] [] (aMn c d _ _ _ _ _) K K K K ⟨_,K,?_⟩);refine fH (eB DJ) (aGh _) K K K HR (ahb (tg:=tg) (te:=te) (tk:=tk) (tb:=tb) (tc:=tc) (ev:=ev) q L Q s z T o P l M t) K ?_;rintro r u⟨rfl,F,rfl⟩_;refine⟨_,K,?_⟩;refine gB (eB DJ) (aFd c d F.length _ _ _ _ _ _) K K ?_;exact⟨[0,1,2,3,4,8],.s (E (5,0)) 33 (33+F.length),PG tg te tk tb tc ev th xs ys [R41 x y F],⟨K,K,K,K,K,K,K,K,K,K,K,K,dD⟩,J,Y,BN (k:=5) (r:=[8]) K,K,F,K,K⟩
end
def ayy(g:Nat)(o:List V)(T P L s b4 u f h Q:dI):Cd g o m8 [T,P,L,s,b4,u,f,h,Q] 9 (λS=>T::P::L::s::b4::u::f::h::Q::S):=dR
def awr(g:Nat)(o:List V)(m:dE):C8 g o m m8 9:=dR
def avs(g:Nat)(o:List V)(m:dE):Bv g o m m8 9:=dR
def alq(g:Nat)(o:List V)(T P L s b4 u f h Q t m k:dI):Bn g o m8 9 [T,P,L,s,b4,u,f,h,Q,CB A,t,m,k] [T,P,L,s,b4,u,f,h,Q,CB G,t,m,k]:=dR
def aIn: ∀g i,oD g=E i-> ∃j,[0,1,2,3,4,5,6,7,8][i]?=E j/\oD g=E j:=rL ⟨_,K,K⟩ (rL ⟨_,K,K⟩ (rL ⟨_,K,K⟩ (rL ⟨_,K,K⟩ (rL ⟨_,K,K⟩ DO))))
def ast: ∀g i,oD g=E i-> ∃j,[0,1,2,3,4,5,6][i]?=E j/\oD g=E j:=rL ⟨_,K,K⟩ (rL ⟨_,K,K⟩ (rL ⟨_,K,K⟩ (rL ⟨_,K,K⟩ (rL ⟨_,K,K⟩ DO))))
section
variable{tg te tk tq tc tt tb:es}{ev:Addr}{th:Int}{xs:List Int}{x y n:Nat}
abbrev SB(n:Nat)(s:V)(r:dE):dE:=⟨.lit [.s (E (6,0)) 33 (n+33)],22⟩::⟨.lit [s],76⟩::r
def aQu(n:Nat)(T P L s b4 u f:dI):letI b:V:= .s (E (6,0)) 33 (n+33);letI a:dE:=[T,P,L,s,b4,u,f,⟨.lit [b],22⟩,⟨.lit [.p N],76⟩];(Nb m8 (eC m8 f44.ntmps 200 [1,2] [.code (dB f44)] ⟨fo 0 [pt 7,pt 8],a,[],[]⟩))=(E (45,[b],E 3),dF 0 2 (dB f44) [],[(1,pt 8),(2,b)],a,G):=I
def aHc(n:Nat)(T P L s b4 u f t m k:dI):letI a:V:= .s (E (6,0)) 33 (n+33);oX m8 f44.results.toList (fe m8 f44.ntmps N N 200 (dF 0 2 (dB f44) []) ⟨[(3,pt 11),(1,pt 8),(2,a)],[T,P,L,s,b4,u,f,⟨.lit [a],22⟩,⟨.lit [.p N],76⟩,t,m,k],[],[]⟩)=(G,E (.t [],G),[T,P,L,s,b4,u,f,⟨.lit [a],22⟩,⟨.lit [pt 11],76⟩,t,m,k],G):=I
def awg(g:Ij x y)(L:x<115792089237316195423570985008687907853269984665640564039457584007913129639936)(q:4<th)(f:33<=xs.length)(C:xs.getD 0 0=(y:Int)%2)(o: ∀k,k<32->xs.getD (1+k) 0=(bL x).getD k 0):eM B oD 44 [pt 7,pt 8] (oY tg te tk tq tc tt tb ev th xs (SB n (.p N) [])) (λr m=>r= .t []/\ ∃p j,m=oY tg te tk tq tc tt tb ev th xs (SB n (pt 11) [⟨.int x,90⟩,⟨.int y,90⟩,PB p j 9])):=by refine dL _ f44 (fH (eB ma) (aQu n _ _ _ _ _ _ _) K K K PI ((ays (tg:=tg) (te:=te) (tk:=tk) (tq:=tq) (tc:=tc) (tt:=tt) (tb:=tb) (ev:=ev) (th:=th) (xs:=xs) (n:=n) g L q f C o).lift (gl:=oD) (m:=oY tg te tk tq tc tt tb ev th xs (SB n (.p N) [])) [0,1,2,3,4,5,6] ⟨K,K,K,K,K,K,K,K,K,K,K,K,K,K,dD⟩ J ast K) K ?_);rintro r u⟨a,e,⟨rfl,p,j,rfl⟩,_,rfl,rfl⟩_;refine⟨_,K,?_⟩;exact gB (eB ma) (aHc n _ _ _ _ _ _ _ _ _ _) K K ⟨K,p,j,K⟩
def acm(b:Ij x y)(L:x<115792089237316195423570985008687907853269984665640564039457584007913129639936)(a:4<th)(f:33<=xs.length)(C:xs.getD 0 0=(y:Int)%2)(o: ∀k,k<32->xs.getD (1+k) 0=(bL x).getD k 0):eM B oD 39 [.f 44 [pt 7,pt 8]] (oY tg te tk tq tc tt tb ev th xs (SB n (.p N) [])) (λr m=>r= .b G/\ ∃p j,m=oY tg te tk tq tc tt tb ev th xs (SB n (pt 11) [⟨.int x,90⟩,⟨.int y,90⟩,PB p j 9])):=by refine eM.pick ?_;refine dL _ f39 (FB (eB ma) 200 [] [0,2] [] (ayy 44 [pt 7,pt 8] _ _ _ _ _ _ _ _ _) K K K K ⟨_,K,?_⟩);refine EG (eB ma) 200 [] [0,2,3] [] (awr 44 [pt 7,pt 8] _) K K ?_;refine Jj (eB ma) 200 [] [2,4] [] (avs 44 [pt 7,pt 8] _) K K K Qt ((awg (tg:=tg) (te:=te) (tk:=tk) (tq:=tq) (tc:=tc) (tt:=tt) (tb:=tb) (ev:=ev) (th:=th) (xs:=xs) (n:=n) b L a f C o).lift (gl:=oD) (m:=oY tg te tk tq tc tt tb ev th xs (SB n (.p N) [])++[CB A]) [0,1,2,3,4,5,6,7,8] ⟨K,K,K,K,K,K,K,K,K,K,K,K,K,K,K,K,K,K,dD⟩ J (aIn) K) K ?_;rintro r u⟨h,e,⟨rfl,p,j,rfl⟩,_,rfl,rfl⟩_;refine⟨_,K,?_⟩;refine HU (g:=62) (eB ma) (alq 44 [pt 7,pt 8] _ _ _ _ _ _ _ _ _ _ _ _) K K K Je (λq w=>UN _ w) ?_;exact⟨[0,1,2,3,4,5,6,7,8,10,11,12],.b G,oY tg te tk tq tc tt tb ev th xs (SB n (pt 11) [⟨.int x,90⟩,⟨.int y,90⟩,PB p j 9]),⟨K,K,K,K,K,K,K,K,K,K,K,K,K,K,K,K,K,K,K,K,K,K,K,K,dD⟩,J,Y,BN (k:=9) (r:=[10,11,12]) K,K,K,p,j,K⟩
def aBj(n:Nat)(b P L s b4 u f:dI):letI a:V:= .s (E (6,0)) 33 (n+33);(match eC m8 f23.ntmps 200 [1,5] [.code (dB f23)] ⟨fo 0 [a],[b,P,L,s,b4,u,f],[],[]⟩with|(v,T,q,R)=>(TU m8 v T,iF v,T,q,R))=(E (44,[pt 7,pt 8],E 6),dF 2 1 (dB f23) [],[(1,pt 7),(5,pt 8)],[b,P,L,s,b4,u,f,⟨.lit [a],22⟩,⟨.lit [.p N],76⟩],[]):=I
def aMv(m:dE):letI a:V:= .f 44 [pt 7,pt 8];(Nb m8 (eC m8 f23.ntmps 200 [5,6] (dF 2 1 (dB f23) []) ⟨[(6,a),(1,pt 7),(5,pt 8)],m,[],[]⟩))=(E (39,[a],E 7),dF 2 2 (dB f23) [],[(5,pt 8),(6,a)],m,G):=I
def aIk(m:dE):mQ (fF m8 f23.ntmps N 4 200 (dF 2 2 (dB f23) []) ⟨[(7,.b G),(5,pt 8),(6,.f 44 [pt 7,pt 8])],m,[A],[]⟩) [5]=(dO 4 (dB f23) [],[(5,pt 8)],m,eb [G]):=I
def aKm(m:dE):letI a:V:= .s (E (12,0)) 32 32;letI c:V:= .s (E (13,0)) 32 32;oX m8 f23.results.toList (fe m8 f23.ntmps N N 200 (jM 4 (dB f23)) ⟨[(2,a),(3,c),(4,.b G)],m,[],[]⟩)=(G,E (.t [a,c,.b G],G),m,G):=I
def aqh(a:Ij x y)(L:x<115792089237316195423570985008687907853269984665640564039457584007913129639936)(q:4<th)(f:33<=xs.length)(C:xs.getD 0 0=(y:Int)%2)(o: ∀k,k<32->xs.getD (1+k) 0=(bL x).getD k 0):eM B oD 23 [.s (E (6,0)) 33 (n+33)] (oY tg te tk tq tc tt tb ev th xs []) (λr m=>r= .t [.s (E (7,0)) 32 32,.s (E (8,0)) 32 32,.b G]/\m=oY tg te tk tq tc tt tb ev th xs [⟨.ws .u8 (bL x),5⟩,⟨.ws .u8 (bL y),5⟩]):=by
  have s:y<115792089237316195423570985008687907853269984665640564039457584007913129639936:=by have M:=a.yp;have S:pN<115792089237316195423570985008687907853269984665640564039457584007913129639936:=J;omega
  refine eM.pick ?_;refine dL _ f23 (FB (eB ma) 200 [] [1,5] [] (aBj n _ _ _ _ _ _ _) K K K K ⟨_,K,?_⟩);refine fH (eB ma) (aMv _) K K K HR (acm (tg:=tg) (te:=te) (tk:=tk) (tq:=tq) (tc:=tc) (tt:=tt) (tb:=tb) (ev:=ev) (th:=th) (xs:=xs) (n:=n) a L q f C o) K ?_;rintro r u⟨rfl,p,j,rfl⟩_;refine⟨_,K,?_⟩;refine fk (eB ma) (aIk _) K ?_;refine Ev.eq (t':= .code (.region 4 (opsOf 4 (dB f23)) G)::jM 4 (dB f23)) I K K ?_;refine tX [8,11] [0,1,2,3,5,6,7,8,4,9,10,11,12] iZ ni I K K ?_;refine iS [0,1,2,3,5,6,7,8] [4,9,10,11,12] (b:=[(17,pt 10),(16,.p (E (11,2))),(15,pt 11),(14,pt 11),(12,pt 9),(11,.p (E (11,1))),(10,pt 11),(9,pt 11),(5,pt 8)]) (p:=[G,G,G,G]) I K ?_;refine ko (g:=26) (L:=[pt 9]) (d:=E 13) I Im ((YX (v:=x) (t:=90) a.x2 L).lift (gl:=oD) (m:=(oY tg te tk tq tc tt tb ev th xs (SB n (pt 11) [⟨.int x,90⟩,⟨.int y,90⟩,PB p j 9]))) [9] ⟨K,K,dD⟩ J (λg i h=>by cases h) K) ?_;rintro r u⟨l,e,⟨rfl,rfl⟩,_,rfl,rfl⟩_;refine⟨K,(λb H _=>by simp only[kh,lO,lN]at H;rcases H with rfl|rfl<;>rfl),[(13,.s (E (12,0)) 32 32),(17,pt 10),(16,.p (E (11,2))),(15,pt 11),(14,pt 11),(12,pt 9),(11,.p (E (11,1))),(10,pt 11),(9,pt 11),(5,pt 8)],K,?_⟩;show kJ B m8 f23.ntmps (opsOf 4 (dB f23)).toList [8,11] _ [9,10,11,12] ([(13,.s (E (12,0)) 32 32),(17,pt 10),(16,.p (E (11,2))),(15,pt 11),(14,pt 11),(12,pt 9),(11,.p (E (11,1))),(10,pt 11),(9,pt 11),(5,pt 8)]) (oY tg te tk tq tc tt tb ev th xs (SB n (pt 11) [⟨.int x,90⟩,⟨.int y,90⟩,PB p j 9,⟨.ws .u8 (bL x),5⟩]));refine ko (g:=26) (L:=[pt 10]) (d:=E 18) I Im ((YX (v:=y) (t:=90) a.y2 s).lift (gl:=oD) (m:=(oY tg te tk tq tc tt tb ev th xs (SB n (pt 11) [⟨.int x,90⟩,⟨.int y,90⟩,PB p j 9,⟨.ws .u8 (bL x),5⟩]))) [10] ⟨K,K,dD⟩ J (λg i h=>by cases h) K) ?_;rintro r u⟨l,e,⟨rfl,rfl⟩,_,rfl,rfl⟩_;refine⟨K,(λb H _=>by simp only[kh,lO,lN]at H;rcases H with rfl|rfl<;>rfl),[(18,.s (E (13,0)) 32 32),(13,.s (E (12,0)) 32 32),(17,pt 10),(16,.p (E (11,2))),(15,pt 11),(14,pt 11),(12,pt 9),(11,.p (E (11,1))),(10,pt 11),(9,pt 11),(5,pt 8)],K,?_⟩;show kJ B m8 f23.ntmps (opsOf 4 (dB f23)).toList [8,11] _ [10,11,12] ([(18,.s (E (13,0)) 32 32),(13,.s (E (12,0)) 32 32),(17,pt 10),(16,.p (E (11,2))),(15,pt 11),(14,pt 11),(12,pt 9),(11,.p (E (11,1))),(10,pt 11),(9,pt 11),(5,pt 8)]) (oY tg te tk tq tc tt tb ev th xs (SB n (pt 11) [⟨.int x,90⟩,⟨.int y,90⟩,PB p j 9,⟨.ws .u8 (bL x),5⟩,⟨.ws .u8 (bL y),5⟩]));refine iS [10,11,12] [] (b:=[(4,.b G),(3,.s (E (13,0)) 32 32),(2,.s (E (12,0)) 32 32),(18,.s (E (13,0)) 32 32),(13,.s (E (12,0)) 32 32),(17,pt 10),(16,.p (E (11,2))),(15,pt 11),(14,pt 11),(12,pt 9),(11,.p (E (11,1))),(10,pt 11),(9,pt 11),(5,pt 8)]) (p:=[]) I K ?_;refine kJ.done ?_;refine Ev.fq [2,3,4] ?_;refine gB (eB ma) (aKm _) K K ?_;exact⟨[0,1,2,3,4,5,6,12,13],.t [.s (E (7,0)) 32 32,.s (E (8,0)) 32 32,.b G],oY tg te tk tq tc tt tb ev th xs [⟨.ws .u8 (bL x),5⟩,⟨.ws .u8 (bL y),5⟩],⟨K,K,K,K,K,K,K,K,K,K,K,K,K,K,K,K,K,K,dD⟩,J,Y,BN (k:=7) (r:=[12,13]) K,K,K,K⟩
end
def LA(s:Nat->Nat)(t:Nat): ∀e:eZ,eZ.get (e.map λx=>(x.1,x.2.iU s)) t=(e.get t).map (V.iU s)
  |[]=>rfl
  |x::r=>by show(bif Nat.beq x.1 t then E (x.2.iU s)else eZ.get (r.map λx=>(x.1,x.2.iU s)) t)=(bif Nat.beq x.1 t then E x.2 else eZ.get r t).map (V.iU s);rw[LA s t r];cases Nat.beq x.1 t<;>rfl
def Ev.pick{e0:eZ}{H:dE}(o:List Nat)(L:sJ m (sg o m.length) o H)(hn:o.Nodup)(hb:b<=H.length)(hi: ∀i,i<b->o[i]?=E i)(hg: ∀g i,C.mw g=E i->o[i]?=E i)(he:e=e0.map λx=>(x.1,x.2.iU (sg o m.length)))(h:Ev P C f n b [] t e0 H Q):Ev P C f n b [] t e m Q:=by
  intro q a w R aa hr T z d j hR;obtain⟨h1,S⟩:=hr.pick o L hn;refine h _ a w R hb h1 ?_ ?_ d j λen u hp=>hR en u ?_
  .intro t v hv;have:=T t (v.iU (sg o m.length)) (by rw[he,LA,hv];rfl);rw[this,sj]
  .intro g i F;have l:=hg g i F;refine⟨?_,?_⟩
   .rw [<-uy L];exact(fQ.1 l).1
   .show q (sg o m.length i)=g;rw[uv l];exact(z g i F).2
  .obtain⟨p,r,y,M,l,h4⟩:=hp;refine⟨p,r,y,⟨λi k=>?_,M.len,λc s=>(M.new c s).imp id (S c),M.rel,M.iY.mono λc _ s=>S c s⟩,l,h4⟩;rw[M.ln i k];show q (sg o m.length i)=_;rw[uv (hi i k)]
noncomputable abbrev m7:fw:=ep gz [] LQ
def b4(v j:Nat):List Int:=[iI v j 3,iI v j 2,iI v j 1,iI v j 0]
def aQq(x:Int):oX m7 f43.results.toList (fe m7 f43.ntmps N N 200 [.code (dB f43)] ⟨fo 0 [.i .u32 x],[],[],[]⟩)=(G,E (.s (E (0,0)) 4 4,G),[⟨.ws .u8 [U.u8.wrap (x.fdiv (2^24)),U.u8.wrap (x.fdiv (2^16)),U.u8.wrap (x.fdiv (2^8)),U.u8.wrap x],5⟩],G):=I
def ZX(v j:Nat):eM B gz 43 [.i .u32 (fL v j)] [] (λr m=>r= .s (E (0,0)) 4 4/\m=[⟨.ws .u8 (b4 v j),5⟩]):=by
  refine dL m7 f43 ?_;refine gB (eB jb) (fn:=f43) (i:=N) (j:=200) (z:=[]) (aQq _) K K ⟨K,?_⟩;have q: ∀z:Int,U.u8.wrap z=z%256:=λz=>rfl
  have fd: ∀(z:Int)(k:Nat),z.fdiv ((2:Int)^k)=z/2^k:=λz k=>kB _ (gA (xm J))
  unfold b4 iI;rw[q,q,q,q,fd,fd,fd];have Q:(256:Int)^3=2^24:=J;have f:(256:Int)^2=2^16:=J;have T:(256:Int)^1=2^8:=J;have e0:(256:Int)^0=1:=K;rw[Q,f,T,e0,FH]
noncomputable abbrev SF:Code:=dB f21
def Hm:eo B 43:=ga f43
def aFq(v:Nat):mQ (fF m7 f21.ntmps (E [1,3,4]) 3 200 [.code SF] ⟨fo 0 [.g (dg v)],[],[],[]⟩) [1,3,4]=(dO 3 SF [],[(1,pt 0),(3,.s N 0 0),(4,.i .i64 7)],[⟨.lit (dg v),28⟩],G):=I
def atl(u w:V)(a:Int)(v:V)(m:dE):(match eC m7 f21.ntmps 200 [1,4,9,13] (dF 5 5 SF []) ⟨[(13,v),(1,pt 0),(4,.i .i64 a),(9,u),(12,w)],m,[],[]⟩with|(b,T,q,R)=>(qh m7 b T,iF b,T,q,R))=(E (22,u,v,E 14),dF 5 6 SF [],[(1,pt 0),(4,.i .i64 a),(9,u),(13,v)],m,[]):=I
def adw(u x y:V)(a:Int)(m:dE):mQ (fF m7 f21.ntmps (E [1,3,4]) 3 200 (dF 5 6 SF []) ⟨[(14,u),(1,pt 0),(4,.i .i64 a),(9,x),(13,y)],m,[],[]⟩) [1,3,4]=(dO 3 SF [],[(1,pt 0),(3,u),(4,.i .i64 (U.i64.wrap (a-1)))],m,G):=I
def aLe(u:V)(m:dE):oX m7 f21.results.toList (fe m7 f21.ntmps (E [1,3,4]) N 200 (dO 3 SF []) ⟨[(1,pt 0),(3,u),(4,.i .i64 (-1))],m,[A],[]⟩)=(G,E (u,G),m,G):=I
abbrev lE(v:Nat)(u:V)(m:dE)(w:Int)(S:Nat):Prop:=letI a:dE:=⟨.lit (dg v),28⟩::m;letI b:V:= .i .u32 (fL v S);(Nb m7 (eC m7 f21.ntmps 200 [1,4,9,12] (dO 3 SF []) ⟨[(1,pt 0),(3,u),(4,.i .i64 w)],a,[G],[]⟩))=(E (43,[b],E 13),dF 5 5 SF [],[(1,pt 0),(4,.i .i64 w),(9,u),(12,b)],a,G)
def awa(v:Nat)(u:V)(m:dE):lE v u m 0 0:=dR
def arc(v:Nat)(u:V)(m:dE):lE v u m 1 1:=dR
def axz(v:Nat)(u:V)(m:dE):lE v u m 2 2:=dR
def azy(v:Nat)(u:V)(m:dE):lE v u m 3 3:=dR
def aqz(v:Nat)(u:V)(m:dE):lE v u m 4 4:=dR
def auh(v:Nat)(u:V)(m:dE):lE v u m 5 5:=dR
def anq(v:Nat)(u:V)(m:dE):lE v u m 6 6:=dR
def avm(v:Nat)(u:V)(m:dE):lE v u m 7 7:=dR
abbrev Q21(v:Nat)(r:V)(m:dE):Prop:= ∃F:List Int,r= .s (E (0,0)) 32 (32+F.length)/\m=[⟨.ws .u8 (bL v++F),5⟩]
abbrev acn(v:Nat)(r:V)(q:dE):Prop:= ∃o C H,sJ q (sg o q.length) o H/\o.Nodup/\0<=H.length/\(∀i,i<0->o[i]?=E i)/\r=C.iU (sg o q.length)/\Q21 v C H
def qq(v j:Nat)(R:List Int)(l:Nat)(f:l<=R.length)(S:l<=28):letI a:dI:=⟨.lit (dg v),28⟩;letI b:=(j:Int);letI c:Nat×V:=(4,.i .i64 b);letI d:List Item:=dO 3 SF [];∀(H: ∀(u:V)(m:dE),(Nb m7 (eC m7 f21.ntmps 200 [1,4,9,12] d ⟨[(1,pt 0),(3,u),c],a::m,[G],[]⟩))=(E (43,[.i .u32 (fL v j)],E 13),dF 5 5 SF [],[(1,pt 0),c,(9,u),(12,.i .u32 (fL v j))],a::m,G))(t:U.i64.wrap (b-1)=b-1)(next: ∀q:List Int,l+4<=q.length->q.take (l+4)=R.take l++b4 v j->Ev B m7 21 f21.ntmps 0 [] d [(1,pt 0),(3,.s (E (1,0)) (l+4) q.length),(4,.i .i64 (b-1))] [a,⟨.ws .u8 q,5⟩] (acn v)),Ev B m7 21 f21.ntmps 0 [] d [(1,pt 0),(3,.s (E (1,0)) l R.length),c] [a,⟨.ws .u8 R,5⟩] (acn v):=by
  intro H t next;refine fH (eB jb) (H _ _) K K K Hm ((ZX v j).lift (gl:=gz) (m:=[⟨.lit (dg v),28⟩,⟨.ws .u8 R,5⟩]) [] dD J (λg i h=>by cases h) K) K ?_;rintro r L⟨C,e,⟨rfl,rfl⟩,_,rfl,rfl⟩_;refine⟨_,K,?_⟩;have o:((b4 v j).drop 0).take 4=b4 v j:=K;have F:(R.take l).length=l:=rK;refine jW (eB jb) 200 [] [1,4,9,13] [] (atl _ _ _ _ _) K K K K (g:=5) (k:= .u8) (z:=E 1) (l:=l) (c:=R.length) (x:=2) (ox:=0) (n:=4) (c2:=4) (F:=R) (xs:=b4 v j) (tx:=5) K K K K K (eT _) O O ⟨K,f,eT _⟩ ?_ ?_
  .intro Q s P;cases s;refine⟨_,K,?_⟩;rw[o];refine fk (eB jb) (adw _ _ _ _ _) K ?_;rw[t]
   have p:(dC R (b4 v j) l).length=R.length:=by unfold dC;rw[gw,gw,F,jK];have:(b4 v j).length=4:=K;omega
   refine Ev.pick [0,1] (H:=[⟨.lit (dg v),28⟩,⟨.ws .u8 (dC R (b4 v j) l),5⟩]) (e0:=[(1,pt 0),(3,.s (E (1,0)) (l+4) R.length),(4,.i .i64 ((j:Int)-1))]) ⟨K,K,K,K,dD⟩ J (qM _) (λi h=>absurd h (xA i)) (λg i h=>by cases h) K ?_
   have:=next (dC R (b4 v j) l) (by rw[p];exact P) (by
     unfold dC
     exact jO (by rw[gw,F];rfl))
   rw[p]at this;exact this
  .intro _ T y w;refine⟨_,K,?_⟩;rw[o];refine fk (eB jb) (adw _ _ _ _ _) K ?_;rw[t]
   have p:(R.take l++b4 v j++lc (T-(l+4)) (0:Int)).length=T:=by rw[gw,gw,F,fJ];have:(b4 v j).length=4:=K;omega
   refine Ev.pick [0,3] (H:=[⟨.lit (dg v),28⟩,⟨.ws .u8 (R.take l++b4 v j++lc (T-(l+4)) 0),5⟩]) (e0:=[(1,pt 0),(3,.s (E (1,0)) (l+4) T),(4,.i .i64 ((j:Int)-1))]) ⟨K,K,K,K,dD⟩ J (qM _) (λi h=>absurd h (xA i)) (λg i h=>by cases h) K ?_;have:=next (R.take l++b4 v j++lc (T-(l+4)) 0) (by rw[p];exact y) (jO (by rw[gw,F];rfl));rw[p]at this;exact this
def Nu(v:Nat):eM B gz 21 [.g (dg v)] [] (Q21 v):=by
  refine eM.pick ?_;show eM B gz 21 [.g (dg v)] [] (acn v);refine dL _ f21 (fk (eB jb) (aFq v) K ?_);refine fH (eB jb) (avm v _ _) K K K Hm ((ZX v 7).lift (gl:=gz) (m:=[⟨.lit (dg v),28⟩]) [] dD J (λg i h=>by cases h) K) K ?_;rintro r m'⟨r0,a,⟨rfl,rfl⟩,_,rfl,rfl⟩_;refine⟨_,K,?_⟩;refine jW (eB jb) 200 [] [1,4,9,13] [] (atl _ _ _ _ _) K K K K (g:=5) (k:= .u8) (z:=N) (l:=0) (c:=0) (x:=1) (ox:=0) (n:=4) (c2:=4) (F:=[]) (xs:=b4 v 7) (tx:=5) K K K K K (eT _) O O ⟨K,K,K⟩ (λz' h=>by cases h) ?_;intro _ T hG ab;refine⟨_,K,?_⟩;have o:((b4 v 7).drop 0).take 4=b4 v 7:=K;rw[o];refine fk (eB jb) (adw _ _ _ _ _) K ?_
  have p:(([]:List Int).take 0++b4 v 7++lc (T-(0+4)) (0:Int)).length=T:=by rw[gw,gw,fJ];have:(b4 v 7).length=4:=K;simp only[List.take_nil,fb];omega
  obtain⟨s,q⟩: ∃s,s=([]:List Int).take 0++b4 v 7++lc (T-(0+4)) (0:Int):=⟨_,K⟩
  have S:s.take 4=b4 v 7:=by rw[q];exact jO rfl
  rw[<-q]at p⊢;refine Ev.pick [0,2] (H:=[⟨.lit (dg v),28⟩,⟨.ws .u8 s,5⟩]) (e0:=[(1,pt 0),(3,.s (E (1,0)) 4 s.length),(4,.i .i64 6)]) ⟨K,K,K,K,dD⟩ J (qM _) (λi h=>absurd h (xA i)) (λg i h=>by cases h) (by rw[p];rfl) ?_;clear q p;refine qq v 6 s 4 (by have:=kC List.length S;rw[gR]at this;have e:(b4 v 7).length=4:=rfl;omega) O (anq v) K λR1 aa y=>?_
  rw[S]at y;refine qq v 5 R1 8 O O (auh v) K λR2 t Q=>?_
  rw[y]at Q;refine qq v 4 R2 12 O O (aqz v) K λR3 b H=>?_
  rw[Q]at H;refine qq v 3 R3 16 O O (azy v) K λR4 M w=>?_
  rw[H]at w;refine qq v 2 R4 20 O O (axz v) K λR5 f d=>?_
  rw[w]at d;refine qq v 1 R5 24 O O (arc v) K λR6 C u=>?_
  rw[d]at u;refine qq v 0 R6 28 O O (awa v) K λR L j=>?_
  rw[u]at j
  obtain⟨F,P⟩: ∃F,R=bL v++F:=⟨R.drop 32,by
    have e:R.take 32=bL v:=j
    rw[<-e,Ae]⟩
  subst P;refine gB (eB jb) (aLe _ _) K K ?_;refine⟨[1],.s (E (0,0)) 32 (32+F.length),[⟨.ws .u8 (bL v++F),5⟩],⟨K,K,dD⟩,J,qM _,λi h=>absurd h (xA i),?_,F,K,K⟩;rw[gw,lL];rfl
def yU:eo B 21:=ga f21
def ZQ(R:List Int):ByteArray:=R.foldl (λr n=>r.push (UInt8.ofNat n.toNat)) ByteArray.empty
def MR(C:fw)(t:List Item)(e:eZ):Option (es×es×V×Option Tmp):=
  match t with
  | .inRegion T (i::_)::_=>match T.toList[i]? with
    |some o=>match o.op with
     | .convert s d x=>match ia T.toList e o,fC C e x with
       |some G,E v=>E (s,d,v,o.dst)
       |_,_=>N
     |_=>N
    |none=>N
  |_=>N
def Mu{r:Nat}{ds:Ds}(ag:RD P C)(g:Nat)(z:List Bool)(l:List Nat)(p:List Bool){S ab el ty:es}{bi o c:Nat}{H:List Int}{q:dE}(h:(match eC C r g l t ⟨e,m,z,[]⟩with|(t1,T,q,o1)=>(MR C t1 T,iF t1,T,q,o1))=(E (S,ab,.s (E (bi,o)) n c,d),t2,T,q,p))(ho:eb p=G)(ae:jv m.length ds=G)(R:jv q.length ds=G)(ad:fZ q.length T=G)(hs:P.underlying S=E (.slice el))(he:P.underlying el=E (.int .u8))(hd:P.underlying ab=E .string)(hx:q[bi]?=E ⟨.ws .u8 H,ty⟩)(hl:o+n<=H.length)(hk: ∃e',fA r T d (.r (.string (ZQ ((H.drop o).take n))))=E e'/\Ev P C f r b ds t2 e' q Q):Ev P C f r b ds t e m Q:=by
  generalize L:eC C r g l t ⟨e,m,z,[]⟩=xx at h;obtain⟨t1,e2,m2,o1⟩:=xx;simp only[ef]at h;obtain⟨M,rfl,rfl,rfl,rfl⟩:=h;refine Ev.go ag g z l (by rw[L]) (by rw[L]) (by rw[L]) (by rw[L]) ho ae ?_;unfold MR at M;split at M
  .rename_i ac i an k;split at M
   .rename_i op aj;split at M
    .rename_i s d x ah;split at M
     .rename_i v u af;simp only[eJ,ef]at M;obtain⟨rfl,rfl,rfl,rfl⟩:=M;have aa:ac[i]?=E op:=by simpa using aj
      refine yP K aa u ad R ?_;intro ρ a w hr al hg;obtain⟨e',hp,ak⟩:=hk;refine⟨_,m2,w,?_,.refl hr,e',hp,ak⟩;have hv:=ff al hg af;have am:(((H.drop o).take n).map (ip.int .u8)).length=n:=by simp only[pc,gR,jK];omega
      have F:=run_loadCells_list (P:=P) w (pI ρ (bi,o)) (((H.drop o).take n).map (ip.int .u8)) (λj y hj=>by
        rw[nE,hr.cell hx K];simp only[eH.list,lK];simp only[uf,nF,jY]at hj⊢;split at hj
        .exact hj
        .cases hj)
      rw[am]at F;have hb:=run_bytesToString w _ n c _ F;have hc:=run_convert_bytes_string (P:=P) w s d el (E (pI ρ (bi,o))) n c hs he hd;rw[hb]at hc;unfold execOp;rw[ah];show(do pure (Next.value (<-convert s d (a.eval x))):Sem Next).run P w=_;rw[hv];simp only[V.ee,oQ,fr,hc,Result.andThen,iV];rfl
     .cases M
    .cases M
   .cases M
  .cases M
noncomputable abbrev XI:Code:=dB f22
def aRs(o c d:Nat)(m:dE):letI a:V:= .s (E (0,o)) 32 c;(match eC m7 f22.ntmps 200 [1,5] [.code XI] ⟨fo 0 [a,.s (E (1,0)) 32 d],m,[],[]⟩with|(v,T,q,R)=>(MR m7 v T,iF v,T,q,R))=(E (22,9,a,E 6),dF 1 2 XI [],[(1,.s (E (1,0)) 32 d),(5,a)],m,[]):=I
def aGb(o c d:Nat)(s:V)(m:dE):letI a:V:= .s (E (1,0)) 32 d;(match eC m7 f22.ntmps 200 [6,7] (dF 1 2 XI []) ⟨[(6,s),(1,a),(5,.s (E (0,o)) 32 c)],m,[],[]⟩with|(v,T,q,R)=>(MR m7 v T,iF v,T,q,R))=(E (22,9,a,E 8),dF 1 4 XI [],[(6,s),(7,a)],m,[]):=I
def aJt(s u:V)(m:dE):oX m7 f22.results.toList (fe m7 f22.ntmps N N 200 (dF 1 5 XI []) ⟨[(9,.b G),(8,s),(6,s),(7,u)],m,[],[]⟩)=(G,E (.b G,G),m,G):=I
def aOo(a:Act)(w:ii)(s:ByteArray)(o:Oper)(F:o.op= .binOp .eql 9 (.tmp 6) (.tmp 8) 9)(C:a.eval (.tmp 6)= .string s)(e:a.eval (.tmp 8)= .string s):(execOp a.eval o).run B w= .ok (.value (.bool G)) w:=by unfold execOp;rw[F];simp only[C,e];simp[go_sem]
def P7:B.underlying 22=E (.slice 5):=I
def un5:B.underlying 5=E (.int .u8):=I
def un9:B.underlying 9=E .string:=I
def azf{o c d:Nat}{H p:List Int}{T R:es}(L:o+32<=H.length)(Q:0+32<=p.length)(h:(H.drop o).take 32=(p.drop 0).take 32):letI a:dE:=[⟨.ws .u8 H,T⟩,⟨.ws .u8 p,R⟩];eM B gz 22 [.s (E (0,o)) 32 c,.s (E (1,0)) 32 d] a (λr m=>r= .b G/\m=a):=by refine dL _ f22 (Mu (eB jb) 200 [] [1,5] [] (aRs o c d _) K K K K P7 un5 un9 K L ⟨_,K,?_⟩);refine Mu (eB jb) 200 [] [6,7] [] (aGb o c d _ _) K K K K P7 un5 un9 K Q ⟨_,K,?_⟩;rw[<-h];generalize ZQ ((H.drop o).take 32)=s;refine yP (o:=(opsOf 1 XI)[4]!) (i:=4) (F:=[5]) (T:=opsOf 1 XI) (k:=(jM 1 XI)) I I I K K ?_;intro q a w y j b;have f:a.eval (.tmp 6)= .string s:=ff (C:=m7) (m:=2) j b (x:= .tmp 6) (v:= .r (.string s)) K;have e:a.eval (.tmp 8)= .string s:=ff (C:=m7) (m:=2) j b (x:= .tmp 8) (v:= .r (.string s)) K;refine⟨.b G,_,w,aOo a w s _ I f e,.refl y,_,K,?_⟩;exact gB (eB jb) (t:=dF 1 5 XI []) (aJt _ _ _) K K ⟨K,K⟩
def RS:eo B 22:=ga f22
abbrev TF(w0 w:ii):Prop:=nG (λ_=>False) w0 w
def FK{S:ii}{l:Nat->Nat}{m':dE}(u:TF w0 w)(T: ∀c,kW q m w c->w0.heap.size<=c)(L:qE q m w l m' S):TF w0 S/\ ∀c,kW l m' S c->w0.heap.size<=c:=
  ⟨ur u L.iY λb H=> .inl (T b H),λc s=>(L.new c s).elim (λh=>mh u.size h) (T c)⟩
def qK{v:ip}(u:TF w0 w)(h:w0.cell? l=E v):w.cell? l=E v:=by have z:l.block<w0.heap.size:=ii.block_lt_of_cell? w0 l h;have:=u.fq l.block z (λh=>h);unfold ii.cell? at h⊢;rw[this];exact h
def lu(w0:ii)(P:Program)(C:fw)(f:FuncId)(n:Nat)(t:List Item)(e:eZ)(m:dE)(Z:Ending->ii->Prop):Prop:=
  ∀q a w,TF w0 w->(∀c,kW q m w c->w0.heap.size<=c)->jA q m w->ik q e a->Gl q C m.length->a.tmps.size=n->a.defers=[]->nH P f t a w Z
section
variable{w0:ii}{P:Program}{C:fw}{f:FuncId}{n:Nat}{t t':List Item}{e e':eZ}{m m':dE}{Z:Ending->ii->Prop}
def lu.aea(R:lu w0 P C f n t' e' m' Z){l:Nat->Nat}{o:Act}{S:ii}(u:TF w0 w)(T: ∀c,kW q m w c->w0.heap.size<=c)(p:Gl q C m.length)(z:a.defers=[])(g:oz n q m a w e' m' l o S):nH P f t' o S Z:=
  R l o S (FK u T g.ext).1 (FK u T g.ext).2 g.ext.rel g.env (p.kg g.ext.len g.ext.ln) g.size (by rw[g.defers,z])
def lu.fq(l:List Nat)(h:lu w0 P C f n t (gN e l) m Z):lu w0 P C f n t e m Z:=
  λq a w u T y j p x z=>h q a w u T y (λt v Q=>j t v (lT Q)) p x z
def lu.run(c:RD P C){i:Option (List Nat)}{j:Nat}{b:List Bool}{l:List Nat}{o:Bool}
    (h:mQ (et C n i j t ⟨e,m,b,[]⟩) l=(t',e',m',o))(F:o=G)(R:lu w0 P C f n t' e' m' Z):lu w0 P C f n t e m Z:=by
  generalize L:et C n i j t ⟨e,m,b,[]⟩=x at h;obtain⟨v,H⟩:=x;simp only[mQ,ef]at h;obtain⟨rfl,rfl,rfl,u⟩:=h;subst u;intro q a w r T y k p d z;exact BL c j (s:=⟨e,m,b,[]⟩) y k p d L F λ_ _ _ g=>(lu.fq l R).aea r T p z g
def pD(c:RD P C){fn:Func}{i:Option (List Nat)}{j:Nat}{z:List Bool}{r:V}{o b:Bool}
    (h:oX C fn.results.toList (et C n i j t ⟨e,m,z,[]⟩)=(G,E (r,o),m',b))(F:b=G)(u:o=G)(hZ: ∀q S,TF w0 S->Z (.returned (r.ee q)) S)(d:P.funcs[f]?=E fn:=by kernel_rfl):lu w0 P C f n t e m Z:=by
  subst u;generalize L:et C n i j t ⟨e,m,z,[]⟩=x at h;obtain⟨v,s1⟩:=x;simp only[oX,ef]at h;obtain⟨h1,h2,rfl,h4⟩:=h;subst h4;intro q a w hT hF y Q p H R;refine BL c j (s:=⟨e,m,z,[]⟩) y Q p H L F λl a' S g=>?_
  have M:=vQ (P:=P) (w:=S) (fn:=fn) c.t g.ext.rel g.env h2;have k:=hZ l S (FK hT hF g.ext).1;have T:a'.defers=[]:=by rw[g.defers,R]
  match v,h1 with
  |[],_=>exact vk d M T k
  | .code .ret::_,_=>exact vl d M T k
def lu.val{T:Array Oper}{i:Nat}{F:List Nat}{k:List Item}{v:V}(r:t= .inRegion T (i::F)::k)(h:T[i]?=E o)(u:ia T.toList e o=E G)(b: ∀q a w,TF w0 w->ik q e a->Gl q C m.length->(execOp a.eval o).run P w= .ok (.value (v.ee q)) w)(s:fA n e o.dst v=E e')(R:lu w0 P C f n (.inRegion T F::k) e' m Z):lu w0 P C f n t e m Z:=by
  subst r;intro q a w c g y j p x z;have H:=gg j u;have d:T=T.toList.toArray:=Y;rw[<-d]at H;refine po h H ?_;unfold Oper.wp;rw[b q a w c j p];exact R q _ w c g y (j.put x s) p (by rw[iH,x]) (by rw[put_defers,z])
def lu.call{r:V}(h:rv C t e=E (g,vs,d))(ae:eo P g)(ad: ∀q w,TF w0 w->Calls P g (dZ q vs).toArray w (λen S=>en= .returned (r.ee q)/\TF w S))(an: ∀q ah,r.ee q=r.ee ah)(al:fZ m.length e=G)(ak:ek m.length m=G)(aa:fA n e d r=E e')(hk:lu w0 P C f n (iF t) e' m Z):lu w0 P C f n t e m Z:=by
  unfold rv at h;split at h
  .rename_i T i aq k;split at h
   .rename_i o ao;split at h
    .rename_i g' xs p;split at h
     .rename_i aj u am;simp only[eJ,ef]at h;obtain⟨rfl,rfl,rfl⟩:=h;intro q a w hT hF hr he hg hn hd;have ac:T[i]?=E o:=by simpa using ao
      have b:=gg he u;have ag:T=T.toList.toArray:=Y;rw[<-ag]at b;refine po ac b ?_
      have ab: ∃y,o.op= .call {callee:= .value (.func g'),args:=xs.toArray,argTypes:=y}:=by
        unfold ve at p;split at p
        .rename_i g2 ar y v;simp only[eJ,ef]at p;obtain⟨rfl,rfl⟩:=p;exact⟨y,by rw[v]⟩
        .cases p
      obtain⟨y,v⟩:=ab;unfold Oper.wp
      have R:(execOp a.eval o).run P w= .ok (.enter g' (dZ q aj).toArray) w:=by
        have h1:execOp a.eval o=callFunc g' (#[]++xs.toArray.map a.eval++ #[]):=by unfold execOp;rw[v];rfl
        rw[h1,gT ae]
        congr 2
        apply nh;simp[<-jH he hg am]
      rw[R,Am];refine(ad q w hT).mono ?_;rintro en S⟨rfl,s⟩;have z: ∀j,j<m.length->DD q m.length S.heap.size j=q j:=λj H=>by simp[DD,H]
      have l: ∀j x,m[j]?=E x->uz q S (q j) x/\ ∀c,fp S (q j) x c↔fp w (q j) x c:=λj x L=>(hr.cells j x L).fq λc Q=>s.fq c ((hr.cells j x L).lt Q) (λh=>h)
      refine hk (DD q m.length S.heap.size) _ S (hT.trans s) (λc Q=>?_) ⟨λj x L=>?_,λj j' x x' c L M Q af=>?_,λj H=>?_,λj=>?_⟩ ?_ (λg i F=>⟨(hg g i F).1,by rw[z i (hg g i F).1];exact(hg g i F).2⟩) (by rw[iH,hn]) (by rw[put_defers,hd])
      .rcases Q with⟨j,H,rfl⟩ |⟨j,x,L,ho⟩
       .rw [z j H];exact hF _ (.inl ⟨j,H,K⟩)
       .have H:j<m.length:=(fQ.1 L).1;rw[z j H]at ho;exact hF c (.inr ⟨j,x,L,((l j x L).2 c).1 ho⟩)
      .have H:j<m.length:=(fQ.1 L).1;rw[z j H];exact(qC z (m5 ak j x L)).2 (l j x L).1
      .have H:j<m.length:=(fQ.1 L).1;have ap:j'<m.length:=(fQ.1 M).1;rw[z j H]at Q;rw[z j' ap]at af;exact hr.inj j j' x x' c L M (((l j x L).2 c).1 Q) (((l j' x' M).2 c).1 af)
      .rw [z j H];exact pY (hr.lt j H) s.size
      .unfold DD;rw[if_neg O];omega
      .have h2:ik (DD q m.length S.heap.size) e a:=he.kg al z;have h3:=h2.put hn aa;rw[an q (DD q m.length S.heap.size)];exact h3
     .cases h
    .cases h
   .cases h
  .cases h
def lu.of{fn:Func}{c:Code}{args:List V}{a:List ip}(T: ∀g,C.mw g=N)(k:P.funcs[f]?=E fn)(H:fn.body=E c)(b:Nat.ble args.length fn.ntmps=G)(Q: ∀q,dZ q args=a)
    (h:lu w0 P C f fn.ntmps [.code c] (fo 0 args) [] Z):Calls P f a.toArray w0 Z:=by
  have s:args.length<=fn.ntmps:=mi b;have r:a.length=args.length:=by rw[<-Q (λj=>w0.heap.size+j),gC]
  refine rC k H (h (λj=>w0.heap.size+j) _ w0 (nG.refl _ _) ?_ ⟨?_,?_,?_,?_⟩ ?_ ?_ ?_ K)
  .rintro c(⟨i,d,_⟩ |⟨i,x,L,_⟩)
   .exact absurd d (xA i)
   .cases L
  .intro i x L;cases L
  .intro i j x y c L;cases L
  .intro i d;exact absurd d (xA i)
  .intro j;simp
  .have:=ME (λj=>w0.heap.size+j) args (fn.ntmps-(dZ (λj=>w0.heap.size+j) args).toArray.size) [];rw[Q]at this;exact this
  .intro g i p;rw[T g]at p;cases p
  .simp only[Mb,tN,M3,r];omega
end
section
variable{P:Program}
def VN(r:iq P C){t g:es}{d h:TD}{y:Operand}{T c:Nat}(F:o.op= .indexAddr t x y)(M:C.kM t=E d)(z:d.desc= .slice g)(u:C.kM g=E h)(v:h.size=1)(L:a.eval x= .slice (E l) T c)(Q:a.eval y= .int .i64 (k:Int))(R:k<T):(execOp a.eval o).run P w= .ok (.value (.pointer (E (l.add k)))) w:=by
  unfold execOp;rw[F]
  have b:(Instr.indexAt t (a.eval x) (a.eval y)).run P w= .ok (.pointer (E (l.add k))) w:=by rw[L,Q];simp only[Instr.indexAt,fr,asIntOf,iV,gv,(r _ _ M).run_underlying,z];simp[show(0:Int)<=k/\(k:Int)<T from⟨O,O⟩,(r _ _ u).run_sizeOf,v]
  simp only[fr,b];rfl
def agr(r:iq P C){t:es}{d:TD}{v:ip}(F:o.op= .load t x)(M:C.kM t=E d)(z:d.agg=A)(L:a.eval x= .pointer (E l))(Q:w.cell? l=E v):
    (execOp a.eval o).run P w= .ok (.value v) w:=by
  unfold execOp;rw[F]
  have b:(Instr.loadAt t (a.eval x)).run P w= .ok v w:=by rw[L];simp only[Instr.loadAt,Instr.sureAddr,loadVar,fr,iV,gv,(r _ _ M).vB,z,oP,kT];rw[run_load,Q]
  simp only[fr,b];rfl
def oE{P:Program}{T:Array Oper}{Q:Act->Prop}: ∀(R g:List Oper){a:Act},wpStill P T w (λa=>wpStill P T w Q g a) R a->wpStill P T w Q (R++g) a
  |[],_,_,h=>h
  |o::r,g,a,h=>by
   show(if Region.wanted o (yielded T a.tmps)then o.still P a w (wpStill P T w Q (r++g))else wpStill P T w Q (r++g) (a.put o.dst undef));have F:(if Region.wanted o (yielded T a.tmps)then o.still P a w (wpStill P T w (λa=>wpStill P T w Q g a) r)else wpStill P T w (λa=>wpStill P T w Q g a) r (a.put o.dst undef)):=h;split
   .rename_i d;rw[if_pos d]at F;unfold Oper.still at F⊢;unfold Oper.stillUpon at F⊢;split at F
    .exact⟨F.1,oE r g F.2⟩
    .exact⟨F.1,oE r g F.2⟩
    .obtain⟨M,v,S,l⟩:=F;exact⟨M,v,S,oE r g l⟩
    .exact F.elim
   .rename_i d;rw[if_neg d]at F;exact oE r g F
def AF{P:Program}{T:Array Oper}{Q:Act->Prop}{F:List Oper}{v:ip}(d:Region.wanted o (yielded T a.tmps)=G)(q:(execOp a.eval o).run P w= .ok (.value v) w)(h:wpStill P T w Q F (a.put o.dst v)):wpStill P T w Q (o::F) a:=by show(if Region.wanted o (yielded T a.tmps)then o.still P a w (wpStill P T w Q F)else _);rw[if_pos d];unfold Oper.still;rw[q,Oper.stillUpon_value];exact h
end
def lu.aeb{k:List Item}{z Q e4 e5 e6:eZ}{x:dE}{Z:Ending->ii->Prop}{id:Nat}{T:List Oper}{ob1 ob2 j:List Bool}{R v:V}(r:RD P C)(l:Nat)(ah:pK T l=G)(d:List Oper)(o H:Oper)(L:List Oper)(i2 i3:Nat)(S:T.take l=d++(o::H::L))(h1:ny C n T d 0 ⟨e,m,[],[]⟩=E ⟨z,m,[],ob1⟩)(ag:eb ob1=G)(M:ia T z o=E G)(ab: ∀q a w,TF w0 w->ik q z a->Gl q C m.length->(execOp a.eval o).run P w= .ok (.value (R.ee q)) w)(ad:fA n z o.dst R=E Q)(y:ia T Q H=E G)(aa: ∀q a w,TF w0 w->ik q Q a->Gl q C m.length->(execOp a.eval H).run P w= .ok (.value (v.ee q)) w)(ac:fA n Q H.dst v=E e4)(h2:ny C n T L i2 ⟨e4,m,[],[]⟩=E ⟨e5,m,[],ob2⟩)(af:eb ob2=G)(h3:qO C n T (T.drop l) i3 ⟨e5,m,[],[]⟩=E ⟨e6,x,[],j⟩)(ae:eb j=G)(hk:lu w0 P C f n k e6 x Z):lu w0 P C f n (.code (.region id T.toArray G)::k) e m Z:=by
  intro q a w hT hF hr he p hn hd;have i:jA q m {w with drawn:=w.drawn+1}:=hr.draw _;have u:TF w0 {w with drawn:=w.drawn+1}:=hT.trans (nG.draw _);refine yL (wp_region_still_tail l r.m (xS ah) ?_);rw[S];refine oE d _ ?_;refine rR r.t d i he p hn h1 ag λF _ b2 b3 b4=>?_
  have b:F.tmps.size=n:=b3;refine AF (gg b2 M) (ab q F _ u b2 p) ?_;have c2:ik q Q (F.put o.dst (R.ee q)):=b2.put b ad;have c3:(F.put o.dst (R.ee q)).tmps.size=n:=by rw[iH,b]
  refine AF (gg c2 y) (aa q _ _ u c2 p) ?_;have d2:ik q e4 ((F.put o.dst (R.ee q)).put H.dst (v.ee q)):=c2.put c3 ac;have d3:((F.put o.dst (R.ee q)).put H.dst (v.ee q)).tmps.size=n:=by rw[iH,c3]
  refine rR r.t L i d2 p d3 h2 af λa2 _ f2 f3 f4=>?_
  refine Lz r.t r.f _ (s:=⟨e5,m,[],[]⟩) (H:=⟨e6,x,[],j⟩) i f2 p f3 h3 ae λak a3 w' g=>⟨K,?_⟩
  have aj: ∀c,kW q m {w with drawn:=w.drawn+1} c->w0.heap.size<=c:=λc hc=>(((qE.draw hr (w.drawn+1)).new c hc).elim (λh=>mh hT.size h) (hF c))
  exact hk.aea u aj p (by rw[f4,put_defers,put_defers,b4,hd]) g
def yI{oa:Option Addr}{T:Nat}(F:o.op= .call {callee:= .builtin .len,args:= #[x],argTypes:= #[22]})(L:a.eval x= .slice oa T cap):
    (execOp a.eval o).run B w= .ok (.value (.int .i64 (T:Int))) w:=by
  unfold execOp;rw[F];show(do let dd<-resolve a.eval ⟨.builtin .len,#[x],#[22]⟩ o.type;invoke dd.target dd.args:Sem Next).run B w=_;simp only[resolve,invoke,builtin,L,SG,nA,Nw,fr,iV,gv];simp[go_sem]
def Z8{ad:Addr}(m:32<=cap)(F:o.op= .slice 22 x N (E (.const (.int .i64 30))) N)(L:a.eval x= .slice (E ad) 32 cap):
    (execOp a.eval o).run B w= .ok (.value (.slice (E ad) 30 cap)) w:=by
  unfold execOp;rw[F];have s:a.eval (.const (.int .i64 30))= .int .i64 30:=K;simp only[L,s,M6,oQ];simp[go_sem,Instr.slice,pd P7];intro h;omega
noncomputable abbrev xD:Code:=dB f18
abbrev dV(oa:Option Addr)(n cap:Nat):V:= .r (.slice oa n cap)
abbrev pV(ad:Addr)(k:Nat):V:= .r (.pointer (E (ad.add k)))
abbrev rT(w:List Item)(S:St)(u:List Nat)(u3 u4:Nat)(o:List (Nat×V))(i:Bool):Prop:=mQ (et m7 f18.ntmps N 200 w S) u=(dF u3 u4 xD [],o,[],i)
def aQb(oa:Option Addr)(n cap:Nat):letI a:=dV oa n cap;rT [.code xD] ⟨fo 0 [a],[],[],[]⟩ ((λS=>S) [0,5]) 1 1 ((λS=>S) [(0,a),(5,a)]) G:=dR
abbrev vE(w:Option (List Nat))(S u:Nat)(u3:List (Nat×V))(u4 i:List Bool)(o:Bool):Prop:=oX m7 f18.results.toList (et m7 f18.ntmps w 200 (dF S u xD []) ⟨u3,[],u4,[]⟩)=(G,E (.b o,G),[],eb i)
def aDy(oa:Option Addr)(n cap:Nat):vE N 1 2 [(6,.i .i64 (n:Int)),(0,dV oa n cap),(5,dV oa n cap)] [G,G] ((λS=>G::S) [((n:Int)!=32)==G]) A:=dR
def aDm(oa:Option Addr)(n cap:Nat):letI a:=dV oa n cap;rT (dF 1 2 xD []) ⟨[(6,.i .i64 (n:Int)),(0,a),(5,a)],[],[A],[]⟩ [0,8,9] 1 5 [(0,a),(8,.b A),(9,a)] (eb [((n:Int)!=32)==A]):=dR
def aNa(oa:Option Addr)(n cap:Nat)(p:ip)(z:Int):letI a:=dV oa n cap;rT (dF 1 7 xD []) ⟨[(11,.i .u8 z),(10,.r p),(0,a),(8,.b A),(9,a)],[],[G],[]⟩ ((λS=>0::8::S) [13,14]) 1 10 ((λS=>(0,a)::(8,.b A)::S) [(13,.b G),(14,a)]) (eb [(z==0)==G]):=dR
def aHm(oa:Option Addr)(n cap:Nat)(p:ip)(z:Int):letI a:=dV oa n cap;rT (dF 1 7 xD []) ⟨[(11,.i .u8 z),(10,.r p),(0,a),(8,.b A),(9,a)],[],[A,A],[]⟩ ((λS=>S) [0,20]) 3 1 ((λS=>S) [(0,a),(20,a)]) (eb [G,(z==0)==A]):=dR
def aLh(oa:Option Addr)(n cap:Nat)(p:ip)(z:Int):vE N 1 12 [(16,.i .u8 z),(15,.r p),(0,dV oa n cap),(8,.b A),(13,.b G),(14,dV oa n cap)] ((λS=>G::G::S) [G]) ((λS=>S) [(z==0)==G]) A:=dR
def aCn(oa:Option Addr)(n cap:Nat)(p:ip)(z:Int):letI a:=dV oa n cap;rT (dF 1 12 xD []) ⟨[(16,.i .u8 z),(15,.r p),(0,a),(8,.b A),(13,.b G),(14,a)],[],[A,A,A],[]⟩ ((λS=>S) [0,20]) 3 1 ((λS=>S) [(0,a),(20,a)]) (eb [(z==0)==A]):=dR
abbrev E18(ad:Addr)(cap:Nat)(k:Int):eZ:=[(21,dV (E ad) 30 cap),(22,.i .i64 30),(23,.i .i64 k)]
abbrev Es(ad:Addr)(cap:Nat)(w S:Nat)(u:List (Nat×V))(u3:(List Bool->List Bool))(u4:Int)(o:Bool):Prop:=mQ (et m7 f18.ntmps (E [21,22,23]) 200 (dF w S xD []) ⟨u,[],(u3 [G]),[]⟩) [21,22,23]=(dF 5 0 xD [],E18 ad cap u4,[],o)
def aMp(ad:Addr)(cap:Nat)(d:V):Es ad cap 3 3 [(22,.i .i64 30),(21,dV (E ad) 30 cap),(0,d),(20,d)] (λS=>S) 0 G:=dR
def aPn(ad:Addr)(cap:Nat)(k z:Int)(p:ip):vE (E [21,22,23]) 5 2 ((26,.i .u8 z)::(25,.r p)::E18 ad cap k) ((λS=>S) [G]) ((λS=>S) [(z !=0)==G]) A:=dR
def aRg(ad:Addr)(cap:Nat)(k z:Int)(p:ip):Es ad cap 5 2 ((26,.i .u8 z)::(25,.r p)::E18 ad cap k) (λS=>A::S) (U.i64.wrap (k+1)) (eb [D (U.i64.wrap (k+1)<30)==G,(z !=0)==A]):=dR
def aJv(ad:Addr)(cap:Nat)(k z:Int)(p:ip):vE (E [21,22,23]) 5 2 ((26,.i .u8 z)::(25,.r p)::E18 ad cap k) [A,A] [D (U.i64.wrap (k+1)<30)==A,(z !=0)==A] G:=dR
def lu.at{w0:ii}{P:Program}{C:fw}{f:FuncId}{n:Nat}{t k:List Item}{e y:eZ}{m:dE}{Z:Ending->ii->Prop}(c:Code)(r j o:Nat)(v:V):letI b:=opsOf r c;letI d:=b[j]!;∀(M:t= .inRegion b (j::(List.range o).drop (j+1))::jM r c)(S: .inRegion b ((List.range o).drop (j+1))::jM r c=k)(h:b[j]?=E d)(u:ia b.toList e d=E G)(p: ∀q a w,TF w0 w->ik q e a->Gl q C m.length->(execOp a.eval d).run P w= .ok (.value (v.ee q)) w)(s:fA n e d.dst v=E y)(R:lu w0 P C f n k y m Z),lu w0 P C f n t e m Z:=by intro M S h u p s R;subst S;exact lu.val M h u p s R
def vu(j:ik q e a)(p:Gl q C m.length)(x:Operand)(v:V)(h:fC C e x=E v):a.eval x=v.ee q:=ff j p h
abbrev W7(n:Nat)(z:Nat->Int):Prop:=n=32/\(∀k,k<30->z k=0)/\ ¬(z 30=0/\z 31=0)
noncomputable def fits(n:Nat)(z:Nat->Int):Bool:= @decide (W7 n z) (Classical.propDecidable _)
def Tp(h:W7 n z):fits n z=G:= @fG _ (Classical.propDecidable _) h
def F0(h: ¬W7 n z):fits n z=A:= @nB _ (Classical.propDecidable _) h
abbrev Z18(w0:ii)(n:Nat)(z:Nat->Int)(i:Ending)(S:ii):Prop:=i= .returned (.bool (fits n z))/\TF w0 S
section
variable{w0:ii}{ad:Addr}{cap:Nat}{z:Nat->Int}
def Mn:iq B m7:=ni
def aox: ∃d,m7.kM 22=E d/\d.desc= .slice 5:=⟨_,K,K⟩
def aqr: ∃d,m7.kM 5=E d/\d.size=1/\d.agg=A:=⟨_,K,K,K⟩
def G0{y:Operand}{T r:Nat}(F:o.op= .indexAddr 22 x y)(j:ik q e a)(p:Gl q m7 m.length)(L:fC m7 e x=E (dV (E ad) T r))(Q:fC m7 e y=E (.i .i64 (k:Int)))(R:k<T):
    (execOp a.eval o).run B w= .ok (.value ((pV ad k).ee q)) w:=by
  obtain⟨d,M,S⟩:=aox;obtain⟨b,l,u,_⟩:=aqr;exact VN Mn F M S l u (ff j p L) (ff j p Q) R
def L4{i:Int}(F:o.op= .load 5 x)(j:ik q e a)(p:Gl q m7 m.length)(L:fC m7 e x=E (pV ad k))(s:w.cell? (ad.add k)=E (.int .u8 i)):
    (execOp a.eval o).run B w= .ok (.value ((V.i .u8 i).ee q)) w:=by
  obtain⟨Q,l,_,u⟩:=aqr;exact agr Mn F l u (ff j p L) s
def SI(k:Nat)(R:k<100):U.i64.wrap ((k:Int)+1)=((k+1:Nat):Int):=iy O
def M0(o: ∀k,k<32->w0.cell? (ad.add k)=E (.int .u8 (z k)))(i: ¬(z 30=0/\z 31=0)): ∀(d k:Nat),k+d=30->0<d->(∀j,j<k->z j=0)->
    lu w0 B m7 18 f18.ntmps (dF 5 0 xD []) (E18 ad cap (k:Int)) [] (Z18 w0 32 z)
  |0,_,_,h,_=>absurd h (zq 0)
  |d+1,k,R,_,C=>by
   refine lu.at xD 5 0 3 (pV ad k) (k:=dF 5 1 xD []) I I I K (λq a w u b p=>G0 (x:= .tmp 21) (y:= .tmp 23) (T:=30) (r:=cap) (k:=k) I b p K K O) K ?_;refine lu.at xD 5 1 3 (.i .u8 (z k)) (k:=dF 5 2 xD []) I I I K (λq a w u b p=>L4 (x:= .tmp 25) (k:=k) I b p K (qK u (o k O))) K ?_;by_cases P:z k=0
   .have T:((z k !=0)==A)=G:=by rw[P];rfl
    have s: ∀j,j<k+1->z j=0:=λj H=>by
      rcases Nat.lt_or_eq_of_le (Nat.le_of_lt_succ H)with h|rfl
      .exact C j h
      .exact P
    by_cases c:d=0
    .refine pD (eB jb) (aJv ad cap (k:Int) (z k) _) ?_ K (λq S u=>⟨?_,u⟩)
     .have f:(D (U.i64.wrap ((k:Int)+1)<30)==A)=G:=by rw[SI k O,nY,rF];omega
      rw[T,f];rfl
     .have:fits 32 z=G:=Tp ⟨K,λj H=>s j O,i⟩;rw[this];rfl
    .refine lu.run (eB jb) (aRg ad cap (k:Int) (z k) _) ?_ ?_
     .have f:(D (U.i64.wrap ((k:Int)+1)<30)==G)=G:=by rw[SI k O,nY,eG];omega
      rw[T,f];rfl
     .rw [SI k O];exact M0 o i d (k+1) O O s
   .refine pD (eB jb) (aPn ad cap (k:Int) (z k) _) ?_ K (λq S u=>⟨?_,u⟩)
    .have T:((z k !=0)==G)=G:=by rw[nY,kY];exact P
     rw[T];rfl
    .have:fits 32 z=A:=F0 λh=>P (h.2.1 k O)
     rw[this];rfl
def MM(m:32<=cap)(o: ∀k,k<32->w0.cell? (ad.add k)=E (.int .u8 (z k)))(i: ¬(z 30=0/\z 31=0)):
    lu w0 B m7 18 f18.ntmps (dF 3 1 xD []) [(0,dV (E ad) 32 cap),(20,dV (E ad) 32 cap)] [] (Z18 w0 32 z):=by
  refine lu.at xD 3 1 4 (dV (E ad) 30 cap) (k:=dF 3 2 xD []) I I I K (λq a w u b p=>Z8 m (x:= .tmp 20) I (vu b p (.tmp 20) (dV (E ad) 32 cap) K)) K ?_;refine lu.at xD 3 2 4 (.i .i64 30) (k:=dF 3 3 xD []) I I I K (λq a w u b p=>yI (x:= .tmp 21) I (vu b p (.tmp 21) (dV (E ad) 30 cap) K)) K ?_;refine lu.run (eB jb) (aMp ad cap _) K ?_;exact M0 o i 30 0 K J (λj H=>absurd H (xA j))
end
def ayi{oa:Option Addr}(h:n=32->32<=cap/\ ∃ad,oa=E ad/\ ∀k,k<32->w0.cell? (ad.add k)=E (.int .u8 (z k))):Calls B 18 #[.slice oa n cap] w0 (Z18 w0 n z):=by
  refine lu.of (C:=m7) (fn:=f18) (c:=xD) (args:=[dV oa n cap]) (a:=[.slice oa n cap]) (λ_=>rfl) I I I (λ_=>rfl) ?_;refine lu.run (eB jb) (aQb oa n cap) K ?_;refine lu.at xD 1 1 15 (.i .i64 (n:Int)) (k:=dF 1 2 xD []) I I I K (λq a w u j p=>yI (x:= .tmp 5) I (vu j p (.tmp 5) (dV oa n cap) K)) K ?_;by_cases b:n=32
  .obtain⟨m,ad,rfl,o⟩:=h b;subst b;refine lu.run (eB jb) (aDm (E ad) 32 cap) K ?_;refine lu.at xD 1 5 15 (pV ad 30) (k:=dF 1 6 xD []) I I I K (λq a w u j p=>G0 (x:= .tmp 9) (y:= .const (.int .i64 30)) (T:=32) (r:=cap) (k:=30) I j p K K J) K ?_;refine lu.at xD 1 6 15 (.i .u8 (z 30)) (k:=dF 1 7 xD []) I I I K (λq a w u j p=>L4 (x:= .tmp 10) (k:=30) I j p K (qK u (o 30 J))) K ?_;by_cases s:z 30=0
   .refine lu.run (eB jb) (aNa (E ad) 32 cap _ (z 30)) (by rw[s];rfl) ?_;refine lu.at xD 1 10 15 (pV ad 31) (k:=dF 1 11 xD []) I I I K (λq a w u j p=>G0 (x:= .tmp 14) (y:= .const (.int .i64 31)) (T:=32) (r:=cap) (k:=31) I j p K K J) K ?_;refine lu.at xD 1 11 15 (.i .u8 (z 31)) (k:=dF 1 12 xD []) I I I K (λq a w u j p=>L4 (x:= .tmp 15) (k:=31) I j p K (qK u (o 31 J))) K ?_;by_cases l:z 31=0
    .refine pD (eB jb) (aLh (E ad) 32 cap _ (z 31)) (by rw[l];rfl) K (λq S u=>⟨?_,u⟩);have:fits 32 z=A:=F0 λP=>P.2.2 ⟨s,l⟩
     rw[this];rfl
    .refine lu.run (eB jb) (aCn (E ad) 32 cap _ (z 31)) ?_ ?_
     .have:((z 31==0)==A)=G:=by rw[nY,kZ];exact l
      rw[this];rfl
     .exact MM m o λP=>l P.2
   .refine lu.run (eB jb) (aHm (E ad) 32 cap _ (z 30)) ?_ ?_
    .have:((z 30==0)==A)=G:=by rw[nY,kZ];exact s
     rw[this];rfl
    .exact MM m o λP=>s P.1
  .refine pD (eB jb) (aDy oa n cap) ?_ K (λq S u=>⟨?_,u⟩)
   .have:(((n:Int)!=32)==G)=G:=by rw[nY,kY];omega
    rw[this];rfl
   .have:fits n z=A:=F0 λP=>b P.1
    rw[this];rfl
def Sb:eo B 18:=ga f18
noncomputable abbrev DM:Code:=dB f27
noncomputable abbrev Dr:List Oper:=(opsOf 6 DM).toList
abbrev D8(m l i q d S s n:Int):dI:=⟨.lit [.i .u32 m,.i .u32 l,.i .u32 i,.i .u32 q,.i .u32 d,.i .u32 S,.i .u32 s,.i .u32 n],28⟩
abbrev V9(f:Nat->Int):dE:=[D8 0 0 0 0 0 0 0 0,D8 (f 0) (f 1) (f 2) (f 3) (f 4) (f 5) (f 6) (f 7)]
abbrev dW(ad:Addr)(cap:Nat):V:=dV (E ad) 32 cap
abbrev E27(ad:Addr)(cap:Nat)(i:Int):eZ:=[(0,dW ad cap),(2,pt 0),(3,pt 1),(4,.i .i64 i),(7,.i .i64 32),(8,.i .i64 i),(11,dW ad cap)]
abbrev S4(ad:Addr)(cap:Nat)(i:Int):eZ:=[(0,dW ad cap),(2,pt 0),(3,pt 1),(7,.i .i64 32),(8,.i .i64 i)]
def atj(z:Nat->Int)(q:Nat):Nat->Int
  |0=>0
  |t+1=>eA .or .u32 (atj z q t) (U.u32.wrap (U.u32.wrap (z (28-4*q+t))*((256^(3-t):Nat):Int)))
abbrev DA(z:Nat->Int)(k q:Nat):Int:=atj z q (min (k-(28-4*q)) 4)
noncomputable abbrev R27(t:List Item)(e:eZ)(m:dE)(o:List Bool)(l:List Nat):=mQ (et m7 f27.ntmps (E [0,2,3,7,8]) 200 t ⟨e,m,o,[]⟩) l
noncomputable abbrev aqu(e:eZ)(m:dE):=ny m7 f27.ntmps Dr (Dr.take 6) 0 ⟨e,m,[],[]⟩
noncomputable abbrev axv(e:eZ)(ad:Addr)(k:Nat):=fA f27.ntmps e (Dr[6]!).dst (pV ad k)
noncomputable abbrev apo(e:eZ)(z:Int):=fA f27.ntmps e (Dr[7]!).dst (.i .u8 z)
noncomputable abbrev awk(e:eZ)(m:dE):=ny m7 f27.ntmps Dr ((Dr.take 15).drop 8) 8 ⟨e,m,[],[]⟩
noncomputable abbrev aAd(e:eZ)(m:dE):=qO m7 f27.ntmps Dr (Dr.drop 15) 15 ⟨e,m,[],[]⟩
section
variable{w0:ii}{ad:Addr}{cap:Nat}{Z:Ending->ii->Prop}
abbrev OK(w0:ii)(Z:Ending->ii->Prop)(t:List Item)(e:eZ)(m:dE):Prop:=lu w0 B m7 27 f27.ntmps t e m Z
def aNb{i z:Int}{u:dE}{f Q F t g:eZ}(M:R27 (dF 5 2 DM []) ((12,.i .i64 32)::E27 ad cap i) m [] [0,2,3,4,5,7,8]=(.code (.region 6 Dr.toArray G)::jM 6 DM,T,m,G))(S:aqu T m=E ⟨f,m,[],[G,G,G]⟩)(l:ia Dr f (Dr[6]!)=E G)(r:fC m7 f (.tmp 20)=E (dV (E ad) 32 cap))(n:fC m7 f (.tmp 21)=E (.i .i64 (k:Int)))(R:k<32)(C:axv f ad k=E Q)(c:ia Dr Q (Dr[7]!)=E G)(h:fC m7 Q (.tmp 22)=E (pV ad k))(d:apo Q z=E F)(H:awk F m=E ⟨t,m,[],[G,G,G]⟩)(v:aAd t m=E ⟨e,u,[],[G]⟩)(s:gN e [0,2,3,7,8]=g)(o:w0.cell? (ad.add k)=E (.int .u8 z))(next:OK w0 Z (jM 6 DM) g u):OK w0 Z (dF 5 1 DM []) (E27 ad cap i) m:=by
  refine lu.at DM 5 1 6 (.i .i64 32) (k:=dF 5 2 DM []) I I I K (λq a w b j p=>yI (x:= .tmp 11) I (vu j p (.tmp 11) (dW ad cap) K)) K ?_;refine lu.run (eB jb) M K ?_
  refine lu.aeb (eB jb) 15 I (Dr.take 6) (Dr[6]!) (Dr[7]!) ((Dr.take 15).drop 8) 8 15 I S K
    l (λq a w b j p=>G0 (x:= .tmp 20) (y:= .tmp 21) (T:=32) (r:=cap) (k:=k) I j p r n R) C
    c (λq a w b j p=>L4 (x:= .tmp 22) (k:=k) I j p h (qK b o)) d H K v K ?_
  refine lu.fq [0,2,3,7,8] ?_;rw[s];exact next
def rbT(ad:Addr)(cap:Nat)(z:Nat->Int)(k:Nat)(R:k<32):letI a:V:= .i .i64 ((31-k:Nat):Int);letI d:=(k:Int);letI b:V:= .i .i64 d;letI c:=U.u32.wrap (z k);letI m:=V9 (DA z k);letI u:=V9 (DA z (k+1));letI T:eZ:=[(0,dW ad cap),(2,pt 0),(3,pt 1),(4,b),(5,a),(7,.i .i64 32),(8,b)]
  letI q:=7-k/4;
  letI f:eZ:=(21,b)::(20,dW ad cap)::(19,.i .u32 (DA z k q))::(18,.p (E (1,q)))::(17,.i .i64 (q:Int))::(16,a)::T;letI Q:eZ:=(22,pV ad k)::f;letI F:eZ:=(23,.i .u8 (z k))::Q
  letI t:eZ:=(30,.p (E (1,q)))::(29,.i .u32 (DA z (k+1) q))::(28,.i .u32 (U.u32.wrap (c*((256^(3-k%4):Nat):Int))))::(27,.i .i64 ((8*(3-k%4):Nat):Int))::(26,.i .i64 ((3-k%4:Nat):Int))::(25,a)::(24,.i .u32 (c))::F
  (
   R27 (dF 5 2 DM []) ((12,.i .i64 32)::E27 ad cap d) m [] [0,2,3,4,5,7,8],aqu T m,ia Dr f (Dr[6]!),fC m7 f (.tmp 20),fC m7 f (.tmp 21),axv f ad k,ia Dr Q (Dr[7]!),fC m7 Q (.tmp 22),apo Q (z k),awk F m,aAd t m,gN t [0,2,3,7,8])
   =((.code (.region 6 Dr.toArray G)::jM 6 DM,T,m,G),E ⟨f,m,[],[G,G,G]⟩,E G,E (dV (E ad) 32 cap),E (b),E Q,E G,E (pV ad k),E F,E ⟨t,m,[],[G,G,G]⟩,E ⟨t,u,[],[G]⟩,S4 ad cap d):=
  match k,R with|0,_|1,_|2,_|3,_|4,_|5,_|6,_|7,_|8,_|9,_|10,_|11,_|12,_|13,_|14,_|15,_|16,_|17,_|18,_|19,_|20,_|21,_|22,_|23,_|24,_|25,_|26,_|27,_|28,_|29,_|30,_|31,_=>dR|n+32,h=>absurd h O
def rb_(k:Nat)(R:k<32)(o:w0.cell? (ad.add k)=E (.int .u8 (z k)))(next:OK w0 Z (jM 6 DM) (S4 ad cap (k:Int)) (V9 (DA z (k+1)))):OK w0 Z (dF 5 1 DM []) (E27 ad cap (k:Int)) (V9 (DA z k)):=by have h:=rbT ad cap z k R;obtain⟨M,h⟩:=nM h;obtain⟨S,h⟩:=nM h;obtain⟨l,h⟩:=nM h;obtain⟨u,h⟩:=nM h;obtain⟨y,h⟩:=nM h;obtain⟨C,h⟩:=nM h;obtain⟨c,h⟩:=nM h;obtain⟨e,h⟩:=nM h;obtain⟨d,h⟩:=nM h;obtain⟨H,h⟩:=nM h;obtain⟨v,h⟩:=nM h;exact aNb M S l u y R C c e d H v h o next
def rbD(ad:Addr)(cap:Nat)(m:dE)(k:Nat)(R:k<31):R27 (jM 6 DM) (S4 ad cap (k:Int)) m [G] [0,2,3,4,7,8,11]=(dF 5 1 DM [],E27 ad cap ((k+1:Nat):Int),m,G):=
  match k,R with|0,_|1,_|2,_|3,_|4,_|5,_|6,_|7,_|8,_|9,_|10,_|11,_|12,_|13,_|14,_|15,_|16,_|17,_|18,_|19,_|20,_|21,_|22,_|23,_|24,_|25,_|26,_|27,_|28,_|29,_|30,_=>dR|n+31,h=>absurd h O
def rbL(s: ∀k,k<32->w0.cell? (ad.add k)=E (.int .u8 (z k)))(h:OK w0 Z (jM 6 DM) (S4 ad cap ((31:Nat):Int)) (V9 (DA z 32))): ∀d k:Nat,d+k=31->OK w0 Z (dF 5 1 DM []) (E27 ad cap (k:Int)) (V9 (DA z k))
  |0,k,e=>by obtain rfl:k=31:=O;exact rb_ 31 J (s 31 J) h
  |d+1,k,e=>rb_ k O (s k O) (lu.run (eB jb) (rbD ad cap _ k O) K (rbL s h d (k+1) O))
def aQc(ad:Addr)(cap:Nat)(f:Nat->Int):letI a:dI:=D8 (f 0) (f 1) (f 2) (f 3) (f 4) (f 5) (f 6) (f 7);oX m7 f27.results.toList (et m7 f27.ntmps (E [0,2,3,7,8]) 200 (jM 6 DM) ⟨S4 ad cap 31,V9 f,[A],[]⟩)=(G,E (.g [.i .u32 (f 0),.i .u32 (f 1),.i .u32 (f 2),.i .u32 (f 3),.i .u32 (f 4),.i .u32 (f 5),.i .u32 (f 6),.i .u32 (f 7)],G),[a,a],G):=I
end
def afy(o: ∀k,k<32->z k=(bL v).getD k 0):dg v=[.i .u32 (S1 (z 28) (z 29) (z 30) (z 31)),.i .u32 (S1 (z 24) (z 25) (z 26) (z 27)),.i .u32 (S1 (z 20) (z 21) (z 22) (z 23)),.i .u32 (S1 (z 16) (z 17) (z 18) (z 19)),.i .u32 (S1 (z 12) (z 13) (z 14) (z 15)),.i .u32 (S1 (z 8) (z 9) (z 10) (z 11)),.i .u32 (S1 (z 4) (z 5) (z 6) (z 7)),.i .u32 (S1 (z 0) (z 1) (z 2) (z 3))]:=by
  have e:dg v=[.i .u32 (Ft v 0),.i .u32 (Ft v 1),.i .u32 (Ft v 2),.i .u32 (Ft v 3),.i .u32 (Ft v 4),.i .u32 (Ft v 5),.i .u32 (Ft v 6),.i .u32 (Ft v 7)]:=by simp only[FJ];rfl
  rw[e];simp(disch:=decide)only[o];rfl
def ahk{ad:Addr}(s: ∀k,k<32->w0.cell? (ad.add k)=E (.int .u8 (z k)))(b: ∀k,k<32->z k=(bL v).getD k 0):
    Calls B 27 #[.slice (E ad) 32 cap] w0 (λi S=>(∀q,i= .returned ((V.g (dg v)).ee q))/\TF w0 S):=by
  rw[afy b];refine lu.of (C:=m7) (fn:=f27) (c:=DM) (args:=[dW ad cap]) (a:=[.slice (E ad) 32 cap]) (λ_=>rfl) I I I (λ_=>rfl) ?_;refine lu.run (eB jb) (i:=(E [0,2,3,7,8])) (j:=200) (b:=[]) (l:=[0,2,3,6]) (t':=dF 2 1 DM []) (e':=[(0,dW ad cap),(2,pt 0),(3,pt 1),(6,dW ad cap)]) (m':=V9 (DA z 0)) (o:=G) I K ?_;refine lu.at DM 2 1 3 (.i .i64 32) (k:=dF 2 2 DM []) I I I K (λq a w u j p=>yI (x:= .tmp 6) I (vu j p (.tmp 6) (dW ad cap) K)) K ?_;refine lu.run (eB jb) (i:=(E [0,2,3,7,8])) (j:=200) (b:=[G]) (l:=[0,2,3,4,7,8,11]) (t':=dF 5 1 DM []) (e':=E27 ad cap 0) (m':=V9 (DA z 0)) (o:=G) I K ?_;refine rbL s ?_ 31 0 K;exact pD (eB jb) (aQc ad cap _) K K (λq S u=>⟨λ_=>rfl,u⟩)
abbrev Z0:dI:=D8 0 0 0 0 0 0 0 0
abbrev Ff(l:Addr)(F:Nat)(w:fw)(S:Nat)(u:Func)(u3:dI):Prop:=mQ (et w S N 200 [.code (dB u)] ⟨fo 0 [dW l F],[],[],[]⟩) [2,3]=(dF 1 1 (dB u) [],[(2,pt 0),(3,dW l F)],[u3],G)
def aIp(l:Addr)(F:Nat):Ff l F m7 f8.ntmps f8 Z0:=dR
def aHo(v:Nat)(d:V):oX m7 f8.results.toList (et m7 f8.ntmps N 200 (dF 1 2 (dB f8) []) ⟨[(4,.g (dg v)),(2,pt 0),(3,d)],[Z0],[],[]⟩)=(G,E (.g (dg v),G),[⟨.lit (dg v),28⟩],G):=I
def Qv:eo B 27:=ga f27
def Ve:eo B 8:=ga f8
abbrev DgZ(v:Nat)(c:ii)(i:Ending)(S:ii):Prop:=(∀q,i= .returned ((V.g (dg v)).ee q))/\TF c S
def asn{a:ii}{F:Nat}(s: ∀k,k<32->a.cell? (l.add k)=E (.int .u8 (z k)))(o: ∀k,k<32->z k=(bL v).getD k 0):
    Calls B 8 #[.slice (E l) 32 F] a (DgZ v a):=by
  refine lu.of (C:=m7) (fn:=f8) (c:=dB f8) (args:=[dW l F]) (a:=[.slice (E l) 32 F]) (λ_=>rfl) I I I (λ_=>rfl) ?_;refine lu.run (eB jb) (aIp l F) K ?_;refine lu.call (g:=27) (vs:=[dW l F]) (d:=E 4) (r:= .g (dg v)) I Qv (λq w u=>(ahk (w0:=w) (λk R=>qK u (s k R)) o).mono λi S h=>⟨h.1 q,h.2⟩) (λ_ _=>rfl) K K K ?_;exact pD (eB jb) (t:=dF 1 2 (dB f8) []) (aHo v _) K K (λq S u=>⟨λ_=>rfl,u⟩)
noncomputable abbrev C19:fw:=ep gz [] LPt
def aFv(l:Addr)(F:Nat):Ff l F C19 f19.ntmps f19 ⟨.lit (oB 0 0),36⟩:=dR
def aBy(k:Nat):letI a:=dg (num (dg k));letI b:=oB (Xy (num a)) (YN (num a));oX C19 f19.results.toList (et C19 f19.ntmps N 200 (dF 1 2 (dB f19) []) ⟨[(2,pt 0),(4,.g (dg k))],[⟨.lit (oB 0 0),36⟩],[],[]⟩)=(G,E (.g b,G),[⟨.lit b,36⟩],eb [okT a (oB zQ zW),Wi (dg k) (dg BD)]):=I
def aav{e:ii}{F:Nat}(R:k<BD)(Q:(qi k 64 ⟨0,0,0⟩).z≠0)(s: ∀j,j<32->e.cell? (l.add j)=E (.int .u8 (z j)))(o: ∀j,j<32->z j=(bL k).getD j 0):
    Calls B 19 #[.slice (E l) 32 F] e (λi f=>(∀q,i= .returned ((V.g (oB (Xy k) (YN k))).ee q))/\TF e f):=by
  have x:BD<115792089237316195423570985008687907853269984665640564039457584007913129639936:=J;have a:=fI R x;have T:num (dg k)=k:=fK a;have M:okT (dg k) (oB zQ zW)=G:=by unfold okT;exact@fG _ (Classical.propDecidable _) ⟨k,a,K,K,Q⟩
  have S:Wi (dg k) (dg BD)=G:=by unfold Wi;exact@fG _ (Classical.propDecidable _) ⟨k,BD,K,K,R,x⟩
  refine lu.of (C:=C19) (fn:=f19) (c:=dB f19) (args:=[dW l F]) (a:=[.slice (E l) 32 F]) (λ_=>rfl) I I I (λ_=>rfl) ?_;refine lu.run (eB abo) (aFv l F) K ?_;refine lu.call (g:=8) (vs:=[dW l F]) (d:=E 4) (r:= .g (dg k)) I Ve (λq w u=>(asn (a:=w) (λj H=>qK u (s j H)) o).mono λi f h=>⟨h.1 q,h.2⟩) (λ_ _=>rfl) K K K ?_;refine lu.fq [2,4] ?_;have b:=aBy k;rw[T,T,M,S]at b;exact pD (eB abo) (t:=dF 1 2 (dB f19) []) b K K (λq f u=>⟨λ_=>rfl,u⟩)
def TE:eo B 19:=ga f19
def aLk(x y:Nat):letI a:dI:=⟨.ws .u8 (bL x),5⟩;letI c:dI:=⟨.ws .u8 (bL y),5⟩;oX C19 f14.results.toList (fe C19 f14.ntmps N N 200 [.code (dB f14)] ⟨fo 0 [.s (E (0,0)) 32 32,.s (E (1,0)) 32 32,.g (oB x y)],[a,c],[A,A,A,G,G],[]⟩)=
    (G,E (.b (fY (J4 (bL y))==fY y),G),[a,c,⟨.lit (oB x y),36⟩],eb [ed (ed (I3 (bL y)) G) G,(fY (J4 (bL x))==fY x)==G,ed (ed (I3 (bL x)) G) G]):=I
def ZR(Q:v<115792089237316195423570985008687907853269984665640564039457584007913129639936):J4 (bL v)=v:=by
  have:=A6 Q []
  rwa [jx]at this
def Zi(Q:v<115792089237316195423570985008687907853269984665640564039457584007913129639936):I3 (bL v)=G:=by
  have:=MC Q []
  rwa [jx]at this
def aub{x y:Nat}:letI a:Nat:=115792089237316195423570985008687907853269984665640564039457584007913129639936;letI c:dE:=[⟨.ws .u8 (bL x),5⟩,⟨.ws .u8 (bL y),5⟩];∀(L:x<a)(d:y<a),eM B gz 14 [.s (E (0,0)) 32 32,.s (E (1,0)) 32 32,.g (oB x y)] c (λr m=>r= .b G/\m=c):=by
  intro L d;have b:=aLk x y;rw[ZR L,ZR d,Zi L,Zi d,beq_self_eq_true,beq_self_eq_true]at b;refine eM.rP (Q:=λr m=>r= .b G/\m=[⟨.ws .u8 (bL x),5⟩,⟨.ws .u8 (bL y),5⟩,⟨.lit (oB x y),36⟩]) ?_ ?_
  .exact dL _ f14 (gB (eB abo) b K K ⟨K,K⟩)
  .rintro r m⟨rfl,rfl⟩;exact⟨_,fs.take 2 Y Y K K,Y,K,K,K⟩
def RI:eo B 14:=ga f14
end Go.Proofs.YtiggidfngfkanaaGreatDoor
