/- FnPacked, part 14. No condition. -/
import Derived.Test.YtiggidfngfkanaaGreatDoorW13
namespace Go.Proofs.YtiggidfngfkanaaGreatDoor
open Go Go.Proofs.Tryz
set_option maxRecDepth 100000
set_option maxHeartbeats 4000000
set_option linter.all false
open Bool renaming false->A, true->G
open Decidable renaming decide->D
open Go renaming IntKind->U, TypeId->es, World->ii
open Go.Proofs.Tryz renaming prog->B
open List renaming drop->kw, take->jp
open Option renaming none->N, some->E
variable{a a0:Act}{q:J3}{z:List Bool}{t:List Item}{ops:List Oper}{j:Nat}{S ρ:Nat->Nat}{L:Nat->Prop}{o:Oper}{i:Option (List Nat)}{s:St}{r:V}{m u:dE}{e:eZ}{w w0:ii}
def wJ(ops:List Oper)(o c:Oper):Bool:=wF o (ov ops c) ||wF c (ov ops o)
def BK(ops:List Oper)(o:Oper)(i:Nat):List Oper->List Nat->Bool
  |c::r,a::R=>!pC o c&&(!wJ ops o c||bit a i)&&BK ops o i r R
  |[],_=>G
  |_,[]=>A
def zZ(ops:List Oper):Nat->List Oper->List Nat->Bool
  |_,[],_=>G
  |i,o::r,_::R=>BK ops o i r R&&zZ ops (i+1) r R
  |_,_,[]=>A
def CT{i:Nat}: ∀{r:List Oper}{R:List Nat},BK ops o i r R=G-> ∀(j:Nat)(c:Oper),r[j]?=E c->
    ∃a,R[j]?=E a/\pC o c=A/\(wJ ops o c=G->bit a i=G)
  |[],_,_,j,c,h=>by simp at h
  |d::r,[],h,_,_,_=>by simp[BK]at h
  |d::r,a::R,h,j,c,H=>by
   simp only[BK,iv,C4,AY]at h;cases j with
   |zero=>
    simp only[ph,eJ]at H;subst H;refine⟨a,K,h.1.1,λs=>?_⟩;rcases h.1.2 with M|M
    .rw [s]at M;cases M
    .exact M
   |succ j=>
    simp only[kz]at H⊢;exact CT h.2 j c H
def yX: ∀{l:List Oper}{R:List Nat}{k:Nat},zZ ops k l R=G-> ∀(i j:Nat)(o c:Oper),i<j->l[i]?=E o->l[j]?=E c->
    ∃a,R[j]?=E a/\pC o c=A/\(wJ ops o c=G->bit a (k+i)=G)
  |[],_,_,_,i,j,o,c,_,h,_=>by simp at h
  |_::_,[],_,h,_,_,_,_,_,_,_=>by simp[zZ]at h
  |e::r,a::R,k,h,i,j,o,c,d,g,H=>by
   simp only[zZ,iv]at h;obtain⟨t,rfl⟩: ∃t,j=t+1:=⟨j-1,O⟩
   simp only[kz]at H⊢;cases i with
   |zero=>
    simp only[ph,eJ]at g;subst g;exact CT h.1 t c H
   |succ i=>
    simp only[kz]at g;have:=yX h.2 i t o c O g H
    rwa [(O:k+1+i=k+(i+1))]at this
def lS(C:fw):List Oper->Nat
  |[]=>0
  |o::r=>bif Nat.ble (cls C o.op) 1 then lS C r+1 else 0
def tn(C:fw)(o:Oper):Option (Nat×TD×Nat):=
  match o.op,o.guard,o.dst with
  | .alloc g,N,E t=>match C.kM g with
    |some d=>E (g,d,t)
    |none=>N
  |_,_,_=>N
def tL(C:fw):List Oper->Nat
  |[]=>0
  |o::r=>match tn C o with
   |some _=>tL C r+1
   |none=>0
def waits(q:Nat):Nat->List Nat->Bool
  |_,[]=>G
  |i,a::R=>(Nat.blt i q||Nat.beq (a%2^i) (2^i-1))&&waits q (i+1) R
def zd{q:Nat}: ∀{R:List Nat}{i:Nat},waits q i R=G-> ∀(j a:Nat),R[j]?=E a->q<=i+j-> ∀k,k<i+j->bit a k=G
  |[],_,_,j,a,h,_,_,_=>by simp at h
  |b::R,i,h,j,a,H,z,k,c=>by
   simp only[waits,iv,AY]at h;cases j with
   |zero=>
    simp only[ph,eJ]at H;subst H;rcases h.1 with M|M
    .rw [nD]at M;omega
    .have M:=iB M;have S:(b%2^i).testBit k=G:=by rw[M,Nat.testBit_two_pow_sub_one];simp;omega
     rw[Dn]at S;simp only[iv]at S;exact S.2
   |succ j=>
    simp only[kz]at H;exact zd h.2 j a H O k O
def I9(C:fw)(n:Nat):List Oper->eZ->dE->Option (eZ×dE)
  |[],e,m=>E (e,m)
  |o::r,e,m=>match tn C o with
   |some (g,d,t)=>match fA n e (E t) (.p (E (m.length,0)))with
    |some y=>I9 C n r y (m++[⟨.lit d.zero,g⟩])
    |none=>N
   |none=>N
def yN(C:fw)(n:Nat)(ops:List Oper)(s:St):Option St:=
  bif(my 0 ops&&zZ ops 0 ops (ig ops [])&&waits (lS C ops+tL C (ops.drop (lS C ops))) 0 (ig ops []))&&(fZ s.m.length s.e&&ek s.m.length s.m)then
    match pQ C n ops s.m.length (ops.take (lS C ops)) (ig ops []) 0 ⟨s,[]⟩with
    |some y=>match I9 C n ((ops.drop (lS C ops)).take (tL C (ops.drop (lS C ops)))) y.s.e y.s.m with
     |some (e,m)=>qO C n ops (ops.drop (lS C ops+tL C (ops.drop (lS C ops)))) (lS C ops+tL C (ops.drop (lS C ops))) ⟨e,m,y.s.yS,y.s.ob⟩
     |none=>N
    |none=>N
  else N
section
variable{P:Program}{C:fw}{n:Nat}
def CZ: ∀{ops:List Oper}{i:Nat}{o:Oper},i<lS C ops->ops[i]?=E o->cls C o.op<=1
  |[],i,o,h,_=>by simp[lS]at h
  |x::r,i,o,h,F=>by
   unfold lS at h;cases H:Nat.ble (cls C x.op) 1 with
   |false=>rw[H]at h;simp at h
   |true=>
    rw[H]at h;cases i with
    |zero=>simp only[ph,eJ]at F;subst F;exact mi H
    |succ i=>simp only[kz]at F;exact CZ (by simpa using h) F
def EU: ∀(ops:List Oper),lS C ops<=ops.length
  |[]=>eT _
  |x::r=>by unfold lS;have:=EU r;cases Nat.ble (cls C x.op) 1<;>simp<;>omega
def Io: ∀(ops:List Oper),tL C ops<=ops.length
  |[]=>eT _
  |x::r=>by unfold tL;have:=Io r;split<;>simp<;>omega
def EK: ∀{ops:List Oper}{i:Nat}{o:Oper},i<tL C ops->ops[i]?=E o-> ∃x,tn C o=E x
  |[],i,o,h,_=>by simp[tL]at h
  |x::r,i,o,h,F=>by
   unfold tL at h;split at h
   .rename_i y a;cases i with
    |zero=>simp only[ph,eJ]at F;subst F;exact⟨y,a⟩
    |succ i=>simp only[kz]at F;exact EK O F
   .omega
def rS{g t:Nat}{d:TD}(h:tn C o=E (g,d,t)):o.op= .alloc g/\o.guard=N/\o.dst=E t/\C.kM g=E d:=by
  unfold tn at h;split at h
  .rename_i q a M S l;split at h
   .rename_i m z;simp only[eJ,ef]at h;obtain⟨rfl,rfl,rfl⟩:=h;exact⟨M,S,l,z⟩
   .cases h
  .cases h
def G7(ht:iq P C)(hf:ji P C){Q:Exit->Act->ii->Prop}{q0:Nat}(hb:my 0 ops=G)(hw:waits q0 0 (ig ops [])=G):
    ∀
     (r:List Oper)(q:Nat)(c:Array Bool){ρ:Nat->Nat}{a:Act}{w:ii}{s s':St},ops.drop q=r->q0<=q->q<=ops.length->c.size=ops.length->(∀j,c.getD j A=G↔j<q)->
     jA ρ s.m w->ik ρ s.e a->Gl ρ C s.m.length->a.tmps.size=n->qO C n ops r q s=E s'->eb s'.ob=G->
     (∀aa a' w',oz n ρ s.m a w s'.e s'.m aa a' w'->Q .normal a' w')->wpAny P .any ops.toArray Q r.length c a w
  |[],q,c,ρ,a,w,s,s',d,hq,ah,hs,t,hr,he,hg,hn,h,ho,hk=>by
   cases h
   have R:q=ops.length:=by have:=kC List.length d;simp at this;omega
   refine⟨NN.2 λi hi=>?_,hk _ _ _ (.refl hr he hn)⟩;obtain⟨h1,o,u,_⟩:=sm.1 hi;have H:i<ops.length:=by have:=(Co.1 u).1;simpa using this
   have:=(t i).2 O;rw[iJ (by rw[hs];exact H) G A]at h1;rw[h1]at this;cases this
  |o::r,q,c,ρ,a,w,s,s',d,hq,ah,hs,t,hr,he,hg,hn,h,ho,hk=>by
   have ac:q<ops.length:=by have:=kC List.length d;simp at this;omega
   have x:ops[q]?=E o:=by
     have:(ops.drop q)[0]?=E o:=by rw[d];rfl
     rw[jY]at this;simpa using this
   have ad:c.getD q A=A:=by
     cases hc:c.getD q A with
     |false=>rfl
     |true=>have:=(t q).1 hc;omega
   have M:q∈Region.ready .any ops.toArray c:=by refine sm.2 ⟨by rw[iJ (by rw[hs];exact ac) G A];exact ad,o,by simpa using x,λe v L=>?_⟩;have:=mv hb q o x e v L;exact(t e.on).2 O
   refine⟨(λaj=>by rw[aj]at M;cases M),λi hi=>?_⟩;obtain⟨h1,o',u,R⟩:=sm.1 hi;have y:ops[i]?=E o':=by simpa using u
   have H:i<ops.length:=(fQ.1 y).1
   have aq: ¬i<q:=λz=>by have:=(t i).2 z;rw[iJ (by rw[hs];exact H) G A]at h1;rw[h1]at this;cases this
   have al:i=q:=by
     rcases ju q i with z|ar
     .exfalso
      obtain⟨F,S⟩: ∃F,(ig ops [])[i]?=E F:=by
        have ao:(ig ops []).length=ops.length:=by have:=(sG ops []).2;simpa using this
        exact⟨(ig ops [])[i]'O,jr O⟩
      have af:=zd hw i F S O q O
      have m:re ops (λj=>c.getD j A=G):=λj oj hj ak e v L=>by have:=mv hb j oj hj e v L;have:=(t j).1 ak;exact(t e.on).2 O
      have:=mR hb m (i+1) i o' F O y S R q af;rw[ad]at this;cases this
     .omega
   subst al;rw[y]at x;cases x;simp only[qO]at h;split at h
   .rename_i s1 am
    have ab: ∀j,(c.setIfInBounds i G).getD j A=G↔j<i+1:=by
      intro j;by_cases ae:i=j
      .subst ae;have z:i<c.size:=by rw[hs];exact H
       simp[z]
      .rw [C9 A ae,t j];omega
    unfold wpOp;rw[u];simp only
    have ag:ops.drop (i+1)=r:=by
      have:ops.drop (i+1)=(ops.drop i).drop 1:=by rw[lR]
      rw[this,d];rfl
    rcases NJ ht hf hr he hg hn am (oJ h ho) (wpAny P .any ops.toArray Q r.length (c.setIfInBounds i G)) Q (λaa a' w' g=>
      G7 ht hf hb hw r (i+1) _ ag O O (by simp[hs]) ab g.rel g.env (hg.kg g.len g.ln) g.size h ho λan av ap g'=>hk _ _ _ (g.trans g'))with⟨l,h2⟩ |⟨l,h2⟩
    .rw [if_pos l];exact .inl h2
    .rw [if_neg (by rw[l];simp)];exact h2
   .cases h
variable{ops:List Oper}{T:Nat->Jy}{p k:Nat}
def Pn(C:fw)(ops:List Oper)(p t:Nat):dI:=
  match ops[p+t]? with
  |some o=>match tn C o with
   |some (g,d,_)=>⟨.lit d.zero,g⟩
   |none=>⟨.dead,0⟩
  |none=>⟨.dead,0⟩
structure Bt(P:Program)(C:fw)(n:Nat)(ops:List Oper)(p k:Nat)(T:Nat->Jy)(m:dE)(ρ0:Nat->Nat)(a0:Act)(w0:ii)(L:Nat->Prop)(B:Nat->Nat)(ρ:Nat->Nat)(a:Act)(w:ii):Prop where
  closed:re ops L
  ext:qE ρ0 m w0 ρ m w
  size:a.tmps.size=n
  defers:a.defers=a0.defers
  e1: ∀j o d v,ops[j]?=E o->j<p->L j->o.dst=E d->(T (j+1)).s.e.get d=E v->a.tmps[d]?=E (v.ee ρ)/\v.wf m.length=G
  e0: ∀t v,(∀j o,ops[j]?=E o->L j->o.dst≠E t)->(T 0).s.e.get t=E v->a.tmps[t]?=E (v.ee ρ)
  al: ∀t,t<k->L (p+t)->w0.heap.size<=B t/\B t<w.heap.size/\ ¬kW ρ m w (B t)/\w.heap[B t]?=E ((Pn C ops p t).obj ρ0)/\ ∀o d,ops[p+t]?=E o->o.dst=E d->a.tmps[d]?=E (.pointer (E ⟨B t,0,N⟩))
  inj: ∀t u,t<k->u<k->L (p+t)->L (p+u)->B t=B u->t=u
def Hr(r:iq P C){g:Nat}{d:TD}(c:C.kM g=E d)(q l:Nat->Nat):letI a:dI:=(⟨.lit d.zero,g⟩:dI);a.obj q=a.obj l:=by obtain⟨i,_,_,_,z,_,o⟩:=(r _ _ c).info;have h:=(o q).symm.trans (o l);simp only[dI.obj,eH.list];rw[h]
def pH(x:zZ ops 0 ops (ig ops [])=G){i:Nat}{c:Oper}{d:Nat}(g:ops[i]?=E o)(H:ops[j]?=E c)(M:o.dst=E d)(S:c.dst=E d):i=j:=by
  rcases nf i j with h|h|h
  .obtain⟨a,_,v,_⟩:=yX x i j o c h g H;exact(mu v M S).elim
  .exact h
  .obtain⟨a,_,v,_⟩:=yX x j i c o h H g;exact(mu v S M).elim
def HN(H:my 0 ops=G)(x:zZ ops 0 ops (ig ops [])=G)(q:re ops L){i:Nat}{c:Oper}(d:i<j)(g:ops[i]?=E o)(l:ops[j]?=E c)(s:wJ ops o c=G)(h: ∀e∈c.after,Region.binds .any e=G->L e.on):L i:=by
  obtain⟨a,t,_,u⟩:=yX x i j o c d g l;have:=u s;rw[ir]at this;exact mR H q (j+1) j c a O l t h i this
def Bt.SZ{ad:Nat->Nat}(h:Bt P C n ops p k T m ad a0 w0 L S ρ a w)(hb:my 0 ops=G)(g:zZ ops 0 ops (ig ops [])=G)(hT: ∀j o,j<p->ops[j]?=E o-> ∃v,fA n (T j).s.e o.dst v=E (T (j+1)).s.e){i:Nat}(ag:i<p)(hi:ops[i]?=E o)(ac: ¬L i)(d: ∀e∈o.after,Region.binds .any e=G->L e.on):ik ρ (gN (T i).s.e (ov ops o)) a:=by
  have trace: ∀{t:Nat}(r z:Nat),r<=z->z<=p->z<=ops.length->(∀j o,r<=j->j<z->ops[j]?=E o->o.dst≠E t)->(T z).s.e.get t=(T r).s.e.get t:=by
    intro t r z aj
    induction z with
    |zero=>
     intro _ _ _;have:r=0:=O;subst this;rfl
    |succ z ih=>
     intro hk af ab;by_cases h:r=z+1
     .subst h;rfl
     .have q:ops[z]?=E (ops[z]'O):=jr O;obtain⟨v,hv⟩:=hT z _ O q;rw[l9 hv t,if_neg (ab z _ O O q)];exact ih O O O (λj o M h2=>ab j o M O)
  intro t v hv;have aa:=qD hv;have u:=lT hv;have ah:i<ops.length:=(fQ.1 hi).1
  have cD: ∀{x y:Oper},wF x (ov ops y)=G∨wF y (ov ops x)=G->wJ ops x y=G:=λhh=>by unfold wJ;rcases hh with hh|hh<;>simp[hh]
  by_cases hw: ∃j c,j<i/\ops[j]?=E c/\c.dst=E t
  .obtain⟨j,c,ae,H,F⟩:=hw;have R:L j:=HN hb g h.closed ae H hi (cD (.inl (sz F aa))) d
   have s:(T i).s.e.get t=(T (j+1)).s.e.get t:=trace (j+1) i O O O (λk o2 M h2 h3 l=>by
     have:=pH g H h3 F l;omega)
   rw[s]at u;exact(h.e1 j c t v H O R F u).1
  .have s:(T i).s.e.get t=(T 0).s.e.get t:=trace 0 i O O O (λk o2 _ h2 h3 l=>hw ⟨k,o2,h2,h3,l⟩);rw[s]at u;refine h.e0 t v (λj c H R F=>?_) u;rcases nf j i with M|M|M
   .exact hw ⟨j,c,M,H,F⟩
   .subst M;exact ac R
   .exact ac (HN hb g h.closed M hi H (cD (.inr (sz F aa))) (h.closed j c H R))
def Bt.read{aa:Nat->Nat}(h:Bt P C n ops p k T m aa a0 w0 L S ρ a w)(ab:zZ ops 0 ops (ig ops [])=G)(ah:fZ m.length (T 0).s.e=G){i:Nat}(al:i<p)(hi:ops[i]?=E o)(am: ¬L i)(q: ∀e∈o.after,Region.binds .any e=G->L e.on){v:V}(hp:fA n (T i).s.e o.dst v=E (T (i+1)).s.e){l:Nat->Nat}{w2:ii}(hx:qE ρ m w l m w2)(ag:v.wf m.length=G):
    Bt P C n ops p k T m aa a0 w0 (λj=>L j∨j=i) S l (a.put o.dst (v.ee l)) w2:=by
  have ae: ∀d,o.dst=E d->d<n:=λd z=>by rw[z]at hp;exact vc hp
  have s: ∀t,o.dst≠E t->(a.put o.dst (v.ee l)).tmps[t]?=a.tmps[t]?:=by
    intro t r;cases z:o.dst with
    |none=>rfl
    |some d=>
     have:d≠t:=λe=>r (by rw[z,e])
     simp[Act.put,Li this]
  have g: ∀t,L (p+t)∨p+t=i->L (p+t):=λt r=>r.resolve_right O
  refine⟨λj c H R e he hb=>?_,h.ext.trans hx,by rw[iH,h.size],by rw[put_defers,h.defers],λj c d u H aj R z F=>?_,λt u ad F=>?_,λt r y=>?_,λt u r F y ak hB=>h.inj t u r F (g t y) (g u ak) hB⟩
  .rcases R with R|rfl
   .exact .inl (h.closed j c H R e he hb)
   .rw [hi]at H;cases H;exact .inl (q e he hb)
  .by_cases x:j=i
   .subst x;rw[hi]at H;cases H;have M:=l9 hp d;rw[if_pos z,F]at M;cases M;refine⟨?_,ag⟩;rw[z];have:=ae d z;simp[Act.put,h.size,this]
   .have af:L j:=R.resolve_right x;obtain⟨M,h2⟩:=h.e1 j c d u H aj af z F;rw[s d (λe=>x (pH ab H hi z e)),M,gx hx.ln u h2];exact⟨K,h2⟩
  .have M:=h.e0 t u (λj c H R=>ad j c H (.inl R)) F;have h2:u.wf m.length=G:=nR ah t u F;rw[s t (ad i o hi (.inr K)),M,gx hx.ln u h2]
  .obtain⟨M,h2,h3,h4,h5⟩:=h.al t r (g t y);refine⟨M,pY h2 hx.iY.size,λhF=>?_,?_,λc d ac z=>?_⟩
   .rcases hx.new _ hF with hF|hF
    .omega
    .exact h3 hF
   .rw [hx.iY.fq _ h2 h3,h4]
   .rw [s d (λe=>by have:=pH ab ac hi z e;omega)];exact h5 c d ac z
def Ok{q l:Nat->Nat}{a:ii}(y:jA q m w)(h: ∀i,i<m.length->l i=q i)(d: ∀c,c<w.heap.size->a.heap[c]?=w.heap[c]?){c:Nat}(t:kW l m a c):kW q m w c:=by
  rcases t with⟨i,g,rfl⟩ |⟨i,x,L,F⟩
  .exact .inl ⟨i,g,(h i g).symm⟩
  .have g:i<m.length:=(fQ.1 L).1;rw[h i g]at F;have s:=y.cells i x L;exact .inr ⟨i,x,L,((s.fq λc r=>d c (s.lt r)).2 c).1 F⟩
def Bt.make(ht:iq P C){ae:Nat->Nat}(h:Bt P C n ops p k T m ae a0 w0 L S ρ a w)(ah:zZ ops 0 ops (ig ops [])=G)(ap:fZ m.length (T 0).s.e=G)(ao:ek m.length m=G){t:Nat}(ar:t<k)(hi:ops[p+t]?=E o)(ax: ¬L (p+t))(ab: ∀e∈o.after,Region.binds .any e=G->L e.on){el:Nat}{d:TD}{x:Nat}(ak:tn C o=E (el,d,x))(an:x<n):
    ∃l,Bt P C n ops p k T m ae a0 w0 (λj=>L j∨j=p+t) (λu=>if u=t then w.heap.size else S u) l (a.put (E x) (.pointer (E ⟨w.heap.size,0,N⟩))) {w with heap:=w.heap.push (dI.obj ρ ⟨.lit d.zero,el⟩)}:=by
  obtain⟨av,ay,r,ag⟩:=rS ak;have z:=h.ext.rel.push ⟨.lit d.zero,el⟩ K;obtain⟨l,r1,r2,r3⟩:=fs.take (b:=m.length) m.length (m:=m++[⟨.lit d.zero,el⟩]) (M:=m) (eT _) Y Y ao ρ _ z.rel
  have ad: ∀c,c<w.heap.size->({w with heap:=w.heap.push (dI.obj ρ ⟨.lit d.zero,el⟩)}:ii).heap[c]?=w.heap[c]?:=λc hc=>by simp only[Array.getElem?_push];rw[if_neg O]
  have af: ∀c,kW l m {w with heap:=w.heap.push (dI.obj ρ ⟨.lit d.zero,el⟩)} c->kW ρ m w c:=λc hc=>Ok h.ext.rel r1 ad hc
  have hx:qE ρ m w l m {w with heap:=w.heap.push (dI.obj ρ ⟨.lit d.zero,el⟩)}:=⟨r1,eT _,λc hc=> .inr (af c hc),r2,z.iY⟩
  have s: ∀y,x≠y->(a.put (E x) (.pointer (E ⟨w.heap.size,0,N⟩))).tmps[y]?=a.tmps[y]?:=by intro y hy;simp[Act.put,Li hy]
  have g: ∀u,L (p+u)∨p+u=p+t->u≠t->L (p+u):=λu F aw=>F.resolve_right O
  refine⟨l,λj o' hj R e he hb=>?_,h.ext.trans hx,by rw[iH,h.size],by rw[put_defers,h.defers],λj o' d' u hj aq R hd F=>?_,λy u aj F=>?_,λu F ac=>?_,λu v F hv ac al hB=>?_⟩
  .rcases R with R|rfl
   .exact .inl (h.closed j o' hj R e he hb)
   .rw [hi]at hj;cases hj;exact .inl (ab e he hb)
  .have am:L j:=R.resolve_right O;obtain⟨h1,h2⟩:=h.e1 j o' d' u hj aq am hd F;rw[s d' (λe=>by subst e;have:=pH ah hj hi hd r;omega),h1,gx r1 u h2];exact⟨K,h2⟩
  .have h1:=h.e0 y u (λj o' hj R=>aj j o' hj (.inl R)) F;have h2:u.wf m.length=G:=nR ap y u F;rw[s y (λe=>aj _ o hi (.inr K) (by rw[r,e])),h1,gx r1 u h2]
  .by_cases q:u=t
   .subst q;simp only[oH];refine⟨h.ext.iY.size,Y,λhF=>?_,?_,λo' d' H aa=>?_⟩
    .have:=h.ext.rel.Wj (af _ hF);omega
    .have hz:Pn C ops p u=⟨.lit d.zero,el⟩:=by unfold Pn;rw[hi];simp only[ak]
     rw[hz,Hr ht ag ae ρ];simp
    .rw [hi]at H;cases H;rw[r]at aa;cases aa;simp[Act.put,h.size,an]
   .obtain⟨h1,h2,h3,h4,h5⟩:=h.al u F (g u ac q);simp only[if_neg q];refine⟨h1,gp,λhF=>h3 (af _ hF),by rw[ad _ h2,h4],λo' d' H aa=>?_⟩;rw[s d' (λe=>by subst e;have:=pH ah H hi aa r;omega)];exact h5 o' d' H aa
  .by_cases q:u=t
   .by_cases i:v=t
    .omega
    .simp only[if_pos q,if_neg i]at hB;have:=(h.al v hv (g v al i)).2.1;omega
   .by_cases i:v=t
    .simp only[if_pos i,if_neg q]at hB;have:=(h.al u F (g u ac q)).2.1;omega
    .simp only[if_neg q,if_neg i]at hB;exact h.inj u v F hv (g u ac q) (g v al i) hB
def Ch: ∀{l:List Oper}{e:eZ}{m:dE}{s:eZ}{S:dE},I9 C n l e m=E (s,S)->S.length=m.length+l.length/\(∀i,i<m.length->S[i]?=m[i]?)/\
    (∀(j:Nat)(o:Oper),l[j]?=E o-> ∃g d t,tn C o=E (g,d,t)/\t<n/\S[m.length+j]?=E ⟨.lit d.zero,g⟩)/\
    (∀x v,s.get x=E v->(∃(j:Nat)(o:Oper),l[j]?=E o/\o.dst=E x/\v= .p (E (m.length+j,0)))∨((∀(j:Nat)(o:Oper),l[j]?=E o->o.dst≠E x)/\e.get x=E v))
  |[],e,m,s,S,h=>by cases h;exact⟨Y,λ_ _=>rfl,λj o h=>by simp at h,λx v h=> .inr ⟨λj o h=>by simp at h,h⟩⟩
  |o::r,e,m,s,S,h=>by
   simp only[I9]at h;split at h
   .rename_i g d t y;split at h
    .rename_i e' F;obtain⟨i1,w,R,z⟩:=Ch h;simp only[gw,eI,fb]at i1 w R z;refine⟨by simp only[eI];omega,λi hi=>by rw[w i O,oF hi],λj c H=>?_,λx v hv=>?_⟩
     .cases j with
      |zero=>
       simp only[ph,eJ]at H;subst H;refine⟨g,d,t,y,vc F,?_⟩;rw[j3,w _ O,pP (eT _)];simp
      |succ j=>
       simp only[kz]at H;obtain⟨q,d',L,h1,h2,h3⟩:=R j c H;exact⟨q,d',L,h1,h2,by rw[<-h3];congr 1;omega⟩
     .rcases z x v hv with⟨j,c,H,hd,rfl⟩ |⟨u,a⟩
      .exact .inl ⟨j+1,c,by simpa using H,hd,by congr 3;omega⟩
      .rw [l9 F x]at a;by_cases M:(E t:Option Nat)=E x
       .rw [if_pos M]at a;cases a;exact .inl ⟨0,o,K,by rw[(rS y).2.2.1];exact M,Y⟩
       .rw [if_neg M]at a;refine .inr ⟨λj c H=>?_,a⟩;cases j with
        |zero=>simp only[ph,eJ]at H;subst H;rw[(rS y).2.2.1];exact M
        |succ j=>simp only[kz]at H;exact u j c H
    .cases h
   .cases h
def Bt.last(ht:iq P C){mF:dE}{eF:eZ}{ae:Nat->Nat}(h:Bt P C n ops p k T m ae a0 w0 L S ρ a w)(az:zZ ops 0 ops (ig ops [])=G)(ay:fZ m.length (T 0).s.e=G)(ax:ek m.length m=G)(hL: ∀j,L j↔j<p+k)(aE:p+k<=ops.length)(hT: ∀j o,j<p->ops[j]?=E o-> ∃v,fA n (T j).s.e o.dst v=E (T (j+1)).s.e)(aB:(T p).s.m=m)(ar:I9 C n ((ops.drop p).take k) (T p).s.e (T p).s.m=E (eF,mF)): ∃q,oz n ae m a0 w0 eF mF q a w:=by
  have hr:=h.ext.rel;rw[aB]at ar;obtain⟨l1,l2,l3,l4⟩:=Ch ar;have aA:((ops.drop p).take k).length=k:=gp;rw[aA]at l1
  have aj: ∀j o,((ops.drop p).take k)[j]?=E o->j<k/\ops[p+j]?=E o:=λj o H=>by
    rw[nF]at H;split at H
    .rename_i ag;rw[jY]at H;exact⟨ag,H⟩
    .cases H
  let q:Nat->Nat:=λi=>if i<m.length then ρ i else if i<m.length+k then S (i-m.length)else w.heap.size+(i-m.length-k)
  have f1: ∀i,i<m.length->q i=ρ i:=λi hi=>by simp only[q,if_pos hi]
  have f2: ∀t,t<k->q (m.length+t)=S t:=λt ht=>by simp only[q];rw[if_neg O,if_pos O];congr 1;omega
  have av: ∀t,t<k-> ∃o g d x,ops[p+t]?=E o/\tn C o=E (g,d,x)/\mF[m.length+t]?=E ⟨.lit d.zero,g⟩/\Pn C ops p t=⟨.lit d.zero,g⟩:=λt ad=>by
    have H:((ops.drop p).take k)[t]?=E (ops[p+t]'O):=by rw[nF,if_pos ad,jY,jr O]
    obtain⟨g,d,x,M,_,e⟩:=l3 t _ H;have ho:=(aj t _ H).2;exact⟨_,g,d,x,ho,M,e,by unfold Pn;rw[ho];simp only[M]⟩
  have R: ∀i x,mF[i]?=E x->(i<m.length/\m[i]?=E x)∨ ∃t,t<k/\i=m.length+t/\ ∃(g:Nat)(d:TD),x=⟨.lit d.zero,g⟩/\C.kM g=E d/\Pn C ops p t=x:=λi x hx=>by
    have hi:i<mF.length:=(fQ.1 hx).1;by_cases s:i<m.length
    .rw [l2 i s]at hx;exact .inl ⟨s,hx⟩
    .obtain⟨o,g,d,y,_,M,e,l⟩:=av (i-m.length) O;rw[(O:m.length+(i-m.length)=i),hx]at e;cases e;exact .inr ⟨i-m.length,O,O,g,d,K,(rS M).2.2.2,l⟩
  have hB: ∀t,t<k->_:=λt ad=>h.al t ad ((hL _).2 O)
  have aa: ∀t,t<k-> ∀x,(∃(g:Nat)(d:TD),x=(⟨.lit d.zero,g⟩:dI))-> ∀c,fp w (S t) x c↔c=S t:=λt _ x hx c=>by obtain⟨g,d,rfl⟩:=hx;rw[fp.kA K]
  have z: ∀i x c,m[i]?=E x->fp w (ρ i) x c->kW ρ m w c:=λi x c hx ho=> .inr ⟨i,x,hx,ho⟩
  have ap:jA q mF w:=by
    refine⟨λi x hx=>?_,λi j x y c hx hy ab F=>?_,λi hi=>?_,λj=>?_⟩
    .rcases R i x hx with⟨M,e⟩ |⟨t,M,rfl,g,d,rfl,l,h4⟩
     .rw [f1 i M];exact(qC f1 (m5 ax i x e)).2 (hr.cells i x e)
     .rw [f2 t M,uz.kA K,(hB t M).2.2.2.1,h4,Hr ht l ae q]
    .rcases R i x hx with⟨M,e⟩ |⟨t,M,rfl,aw⟩
     .rw [f1 i M]at ab;rcases R j y hy with⟨l,h4⟩ |⟨u,l,rfl,al⟩
      .rw [f1 j l]at F;exact hr.inj i j x y c e h4 ab F
      .rw [f2 u l]at F;obtain⟨g,d,ak,_⟩:=al;rw[aa u l y ⟨g,d,ak⟩]at F;subst F;exact((hB u l).2.2.1 (z i x _ e ab)).elim
     .rw [f2 t M]at ab;obtain⟨g,d,am,_⟩:=aw;rw[aa t M x ⟨g,d,am⟩]at ab;subst ab;rcases R j y hy with⟨l,h4⟩ |⟨u,l,rfl,al⟩
      .rw [f1 j l]at F;exact((hB t M).2.2.1 (z j y _ h4 F)).elim
      .rw [f2 u l]at F;obtain⟨aD,d',ak,_⟩:=al;rw[aa u l y ⟨aD,d',ak⟩]at F;rw[h.inj t u M l ((hL _).2 O) ((hL _).2 O) F]
    .by_cases s:i<m.length
     .rw [f1 i s];exact hr.lt i s
     .have:=f2 (i-m.length) O;rw[(O:m.length+(i-m.length)=i)]at this;rw[this];exact(hB _ O).2.1
    .simp only[q,l1];rw[if_neg O,if_neg O];omega
  have aq:qE ae m w0 q mF w:=by
    refine⟨λi hi=>by rw[f1 i hi,h.ext.ln i hi],O,λb hb=>?_,ap,h.ext.iY⟩;have ac: ∀t,t<k->w0.heap.size<=S t:=λt ad=>(hB t ad).1
    rcases hb with⟨i,hi,rfl⟩ |⟨i,x,hx,ho⟩
    .by_cases s:i<m.length
     .rw [f1 i s];exact h.ext.new _ (.inl ⟨i,s,K⟩)
     .have:=f2 (i-m.length) O;rw[(O:m.length+(i-m.length)=i)]at this;rw[this];exact .inl (ac _ O)
    .rcases R i x hx with⟨M,e⟩ |⟨t,M,rfl,g,d,am,_⟩
     .rw [f1 i M]at ho;exact h.ext.new _ (z i x b e ho)
     .rw [f2 t M,aa t M x ⟨g,d,am⟩]at ho;subst ho;exact .inl (ac t M)
  refine⟨q,aq,λx v hv=>?_,h.size,h.defers⟩;rcases l4 x v hv with⟨j,o,H,hd,rfl⟩ |⟨af,hg⟩
  .obtain⟨ag,ho⟩:=aj j o H;rw[(hB j ag).2.2.2.2 o x ho hd];simp only[V.ee,oQ,pI,f2 j ag]
  .have trace: ∀{t:Nat}(i' k':Nat),i'<=k'->k'<=p->k'<=ops.length->(∀j o,i'<=j->j<k'->ops[j]?=E o->o.dst≠E t)->(T k').s.e.get t=(T i').s.e.get t:=by
     intro t i' k' aH
     induction k' with
     |zero=>
      intro _ _ _;have:i'=0:=O;subst this;rfl
     |succ k' ih=>
      intro hk aF af;by_cases h:i'=k'+1
      .subst h;rfl
      .have ah:ops[k']?=E (ops[k']'O):=jr O;obtain⟨v,hv⟩:=hT k' _ O ah;rw[l9 hv t,if_neg (af k' _ O O ah)];exact ih O O O (λj o M e=>af j o M O)
   by_cases hw: ∃(j:Nat)(o:Oper),j<p/\ops[j]?=E o/\o.dst=E x
   .obtain⟨j,o,an,H,hd⟩:=hw
    have r:=trace (t:=x) (j+1) p O (eT _) O (λj2 o2 M e l ao=>by
      have:=pH az H l hd ao;omega)
    rw[r]at hg;obtain⟨M,e⟩:=h.e1 j o x v H an ((hL _).2 O) hd hg;rw[M,gx f1 v e]
   .have r:=trace (t:=x) 0 p (qM _) (eT _) O (λj2 o2 _ e l ao=>hw ⟨j2,o2,e,l,ao⟩);rw[r]at hg
    have M:=h.e0 x v (λj o H aC hd=>by
      have aG:=(hL j).1 aC;by_cases an:j<p
      .exact hw ⟨j,o,an,H,hd⟩
      .refine af (j-p) o ?_ hd
       rw[nF,if_pos O,jY,<-H];congr 1;omega) hg
    rw[M,gx f1 v (nR ay x v hg)]
def Ii{C:fw}{n:Nat}{ops:List Oper}{d:Nat}{l:List Oper}{x y:Jy}(h:pQ C n ops d l (ig ops []) 0 x=E y):
    ∃T:Nat->Jy,T 0=x/\T l.length=y/\ ∀j o,l[j]?=E o-> ∃a,(ig ops [])[j]?=E a/\xI C n ops d j o a (T j)=E (T (j+1)):=by
  obtain⟨T,e,M,S⟩:=zh h;refine⟨T,e,M,λj o H=>?_⟩;obtain⟨a,c,u⟩:=S j o H;exact⟨a,c,by rw[ir]at u;exact u⟩
def Sj(bz:P.follows .mixedOrders=G)(ht:iq P C)(hf:ji P C){id:Nat}{M:Array Oper}{s':St}{Q:Exit->Act->ii->Prop}(hr:jA ρ s.m w)(he:ik ρ s.e a)(hg:Gl ρ C s.m.length)(hn:a.tmps.size=n)(h:yN C n M.toList s=E s')(ho:eb s'.ob=G)(hk: ∀r a' w',oz n ρ s.m a w s'.e s'.m r a' w'->Q .normal a' w'):(Code.region id M G).wp P Q a w:=by
  have ar:M=M.toList.toArray:=Y;unfold yN at h;generalize hp:lS C M.toList=p at h;generalize bb:tL C (M.toList.drop p)=k at h;cases aF:(my 0 M.toList&&zZ M.toList 0 M.toList (ig M.toList [])&&waits (p+k) 0 (ig M.toList [])&&(fZ s.m.length s.e&&ek s.m.length s.m))with
  |false=>rw[aF]at h;cases h
  |true=>
  rw[aF]at h;simp only[gq]at h;simp only[iv]at aF;obtain⟨⟨⟨aa,aj⟩,al⟩,bv,aP⟩:=aF;split at h
  case h_2=>cases h
  rename_i y hl;split at h
  case h_2=>cases h
  rename_i eF mF a0;have a7:p<=M.toList.length:=by rw[<-hp];exact EU _
  have aq:p+k<=M.toList.length:=by have:=Io (C:=C) (M.toList.drop p);rw[bb,jK]at this;omega
  obtain⟨T,bl,aL,aS⟩:=Ii hl;have aC:(T 0).s=s:=by rw[bl]
  have bk:(T 0).lens=[]:=by rw[bl]
  rw[gR,qk a7]at aL
  have L: ∀j o,j<p->M.toList[j]?=E o-> ∃F,(ig M.toList [])[j]?=E F/\xI C n M.toList s.m.length j o F (T j)=E (T (j+1)):=λj o hj h=>by exact aS j o (by rw[nF,if_pos hj];exact h)
  have hT: ∀j o,j<p->M.toList[j]?=E o-> ∃v,fA n (T j).s.e o.dst v=E (T (j+1)).s.e:=λj o hj h=>by obtain⟨F,_,h2⟩:=L j o hj h;exact(kx h2).put
  have ax: ∀j o,j<p->M.toList[j]?=E o->cls C o.op<=1:=λj o hj h=>CZ (by rw[hp];exact hj) h
  have a1: ∀j,j<=p->(T j).s.m=s.m:=by
    intro j
    induction j with
    |zero=>intro _;rw[aC]
    |succ j ih=>
     intro hj;have ac:M.toList[j]?=E (M.toList[j]'O):=jr O;obtain⟨F,_,h2⟩:=L j _ O ac;have:=ax j _ O ac;rw[(kx h2).mem O,ih O]
  have bJ: ∀j,j<=p->(T j).lens=[]:=by
    intro j
    induction j with
    |zero=>intro _;rw[bk]
    |succ j ih=>
     intro hj;have ac:M.toList[j]?=E (M.toList[j]'O):=jr O;obtain⟨F,_,h2⟩:=L j _ O ac;have:=ax j _ O ac;rw[(kx h2).lens,if_neg O,ih O]
  have bK:eb y.s.ob=G:=by have:=oJ h ho;exact this
  have hO: ∀d j,j+d=p->eb (T j).s.ob=G:=by
    intro d
    induction d with
    |zero=>intro j hj;rw[(O:j=p),aL];exact bK
    |succ d ih=>
     intro j hj;have ac:M.toList[j]?=E (M.toList[j]'O):=jr O;obtain⟨F,_,h2⟩:=L j _ O ac;exact(kx h2).ob (ih (j+1) O)
  have ao:fZ s.m.length (T 0).s.e=G:=by rw[aC];exact bv
  have a4: ∀(m:Nat)(c:Array Bool)(q:List Nat)(S r:Nat->Nat)(a':Act)(w':ii),Jv M.toList c q->q.length=m->(∀j,c.getD j A=G->j<p+k)->
   Bt P C n M.toList p k T s.m ρ a w (λj=>c.getD j A=G) S r a' w'->wpAny P .any M Q m c a' w':=by
    intro m
    induction m with
    |zero=>
     intro c q S r a' w' hU ap ae hA;have bi:q=[]:=Ka.1 ap
     have R: ∀j,c.getD j A=G↔j<p+k:=λj=>⟨ae j,λhj=>by
       cases hc:c.getD j A with
       |true=>rfl
       |false=>have:=(hU.iff j).2 ⟨O,hc⟩;rw[bi]at this;cases this⟩
     obtain⟨bn,hG⟩:=hA.last ht aj ao aP R aq hT (a1 p (eT _)) (by rw[aL];exact a0)
     have hq:p+k=M.toList.length:=by
       rcases ju (p+k) M.toList.length with ah|aZ
       .exfalso
        have:=(hU.iff (p+k)).2 ⟨ah,by cases hc:c.getD (p+k) A with
          |true=>have:=ae _ hc;omega
          |false=>rfl⟩
        rw[bi]at this;cases this
       .omega
     have hd:M.toList.drop (p+k)=[]:=sV O;rw[hd]at h;have:=G7 (P:=P) ht hf (Q:=Q) (ops:=M.toList) (q0:=p+k) aa al [] (p+k) c hd (eT _) aq hU.size R hG.ext.rel hG.env (hg.kg hG.ext.len hG.ext.ln) hG.size h ho λa2 bM bo g=>hk _ _ _ (hG.trans g)
     rw[<-ar]at this;exact this
    |succ m ih=>
     intro c q S r a' w' hU ap ae hA;by_cases an: ∀j,j<p+k->c.getD j A=G
     .
       have R: ∀j,c.getD j A=G↔j<p+k:=λj=>⟨ae j,an j⟩
       obtain⟨bn,hG⟩:=hA.last ht aj ao aP R aq hT (a1 p (eT _)) (by rw[aL];exact a0);have:=G7 (P:=P) ht hf (Q:=Q) (ops:=M.toList) (q0:=p+k) aa al _ (p+k) c K (eT _) aq hU.size R hG.ext.rel hG.env (hg.kg hG.ext.len hG.ext.ln) hG.size h ho λa2 bM bo g=>hk _ _ _ (hG.trans g)
       rw[<-ar]at this
       have aK:(M.toList.drop (p+k)).length=m+1:=by
         rw[<-ap,jK]
         have aT:q.Perm (List.range' (p+k) (M.toList.length-(p+k))):=by
           refine(List.perm_ext_iff_of_nodup hU.nodup List.nodup_range').2 λx=>?_
           rw[hU.iff x,List.mem_range'_1];constructor
           .rintro⟨h1,h2⟩;refine⟨?_,O⟩;rcases ju x (p+k)with ah|aZ
            .rw [an x ah]at h2;cases h2
            .exact aZ
           .rintro⟨h1,h2⟩;refine⟨O,?_⟩;cases hc:c.getD x A with
            |true=>have:=ae x hc;omega
            |false=>rfl
         have:=aT.length_eq;rw[List.length_range']at this;omega
       rw[aK]at this;exact this
     .
       have bC: ∃j,j<p+k/\c.getD j A=A:=by
         refine tA λhc=>an λj hj=>?_
         cases bE:c.getD j A with
         |true=>rfl
         |false=>exact(hc ⟨j,hj,bE⟩).elim
       obtain⟨j0,bP,az⟩:=bC
       have aW: ∀i o,i∈Region.ready .any M c->M.toList[i]?=E o->i<p+k:=by
         intro i o hi ad;obtain⟨h1,o',aG,R⟩:=sm.1 hi;have aO:M.toList[i]?=E o':=by simpa using aG
         rcases ju i (p+k)with ah|aZ
         .exact ah
         .exfalso;have aJ:i<M.toList.length:=(fQ.1 aO).1
          obtain⟨F,aA⟩: ∃F,(ig M.toList [])[i]?=E F:=by
            have ap:(ig M.toList []).length=M.toList.length:=by have:=(sG M.toList []).2;simpa using this
            exact⟨(ig M.toList [])[i]'O,jr O⟩
          have bh:=zd al i F aA O j0 O;have:=mR aa hA.closed (i+1) i o' F O aO aA R j0 bh;rw[az]at this;cases this
       refine⟨λa8=>?_,λi hi=>?_⟩
       .
         exfalso
         have bq: ∀d j,j<d->j<M.toList.length->c.getD j A=G:=by
           intro d
           induction d with
           |zero=>intro j hj;omega
           |succ d br=>
            intro j bO aH;cases bA:c.getD j A with
            |true=>rfl
            |false=>
             exfalso;have ac:M.toList[j]?=E (M.toList[j]'aH):=jr aH
             have:j∈Region.ready .any M c:=by refine sm.2 ⟨by rw[iJ (by rw[hU.size];exact aH) G A];exact bA,M.toList[j]'aH,by simpa using ac,λe he hb=>?_⟩;have ah:=mv aa j _ ac e he hb;exact br e.on O O
             rw[a8]at this;cases this
         rw[bq (j0+1) j0 O O]at az;cases az
       .obtain⟨h1,o,aG,R⟩:=sm.1 hi;have ad:M.toList[i]?=E o:=by simpa using aG
        have bc:=aW i o hi ad;have aJ:i<M.toList.length:=(fQ.1 ad).1;have ba:c.getD i A=A:=by rw[iJ (by rw[hU.size];exact aJ) A G];exact h1
        have aY: ¬c.getD i A=G:=by rw[ba];simp
        have af: ∀e∈o.after,Region.binds .any e=G->c.getD e.on A=G:=R;have be:i∈q:=(hU.iff i).2 ⟨aJ,ba⟩;have bj:=zM hU be;have ay:(q.erase i).length=m:=by rw[J0 be];omega
        have aw:(λj=>(c.getD j A=G∨j=i))=(λj=>(c.setIfInBounds i G).getD j A=G):=by
          funext j
          apply propext;by_cases aX:i=j
          .subst aX;have ah:i<c.size:=by rw[hU.size];exact aJ
           simp[ah]
          .rw [C9 A aX];simp[ra aX]
        have aD: ∀j,(c.setIfInBounds i G).getD j A=G->j<p+k:=λj hj=>by
          have:c.getD j A=G∨j=i:=by rw[<-congrFun aw j]at hj;exact hj
          rcases this with h2|rfl
          .exact ae j h2
          .exact bc
        unfold wpOp;rw[aG];simp only;by_cases aI:i<p
        .
          obtain⟨F,aA,l⟩:=L i o aI ad;have ag:=hA.SZ aa aj hT aI ad aY af;have bf:Gl r C s.m.length:=hg.kg (eT _) (λj hj=>hA.ext.ln j hj)
          have aE: ∀v av w2,fA n (T i).s.e o.dst v=E (T (i+1)).s.e->qE r s.m w' av s.m w2->v.wf s.m.length=G->
           wpAny P .any M Q m (c.setIfInBounds i G) (a'.put o.dst (v.ee av)) w2:=by intro v av w2 am hx ab;have:=hA.read aj ao aI ad aY af am hx ab;rw[aw]at this;exact ih _ _ _ _ _ _ bj ay aD this
          have aM:eb (T (i+1)).s.ob=G:=hO (p-(i+1)) (i+1) O;unfold xI at l;have bD:=ax i o aI ad;split at l
          .rename_i ak;have H:=gg ag ak;rw[<-ar]at H;rw[if_pos H];refine .inl ?_;cases hc:Nat.beq (cls C o.op) 0 with
           |true=>
            rw[hc]at l;have bH:=iB hc;simp only[gq]at l;split at l
            .rename_i v ob hv;generalize hd:(bif asked M.toList i then l6 v (T i).s.yS else(v,(T i).s.yS,[]))=dd at l;obtain⟨v',a3,bp⟩:=dd;simp only at l;split at l
             .rename_i e' am;cases ab:V.wf (reach F s.m.length (T i).lens) v' with
              |false=>rw[ab]at l;cases l
              |true=>
               rw[ab]at l;simp only[gq,eJ]at l;rw[<-l]at aM;obtain⟨aV,aU⟩:=gS.1 aM;obtain⟨_,rfl⟩:=nt aU
               have aQ:v'=v:=by
                 cases hb:asked M.toList i with
                 |true=>rw[hb]at hd;exact lG hd aV
                 |false=>rw[hb]at hd;simp only[gr,ef]at hd;exact hd.1.symm
               subst aQ;rw[bJ i O]at ab;unfold Oper.wp;rw[BZ ht hA.ext.rel ag bf (B6 C bH _ hv s.m),yA];exact aE v' r w' (by rw[<-l];exact am) (.refl hA.ext.rel) ab
             .cases l
            .cases l
           |false=>
            rw[hc]at l;simp only[gr]at l;split at l
            .rename_i v m' ob hv;generalize hd:(bif asked M.toList i then l6 v (T i).s.yS else(v,(T i).s.yS,[]))=dd at l;obtain⟨v',a3,bp⟩:=dd;simp only at l;split at l
             .rename_i e' am;cases ab:V.wf m'.length v' with
              |false=>rw[ab]at l;cases l
              |true=>
               rw[ab]at l;simp only[gq,eJ]at l;rw[<-l]at aM;obtain⟨aV,aU⟩:=gS.1 aM;obtain⟨_,rfl⟩:=nt aU
               have aQ:v'=v:=by
                 cases hb:asked M.toList i with
                 |true=>rw[hb]at hd;exact lG hd aV
                 |false=>rw[hb]at hd;simp only[gr,ef]at hd;exact hd.1.symm
               subst aQ
               have bG:cls C o.op=1:=by
                 have:cls C o.op≠0:=λe=>by rw[e]at hc;cases hc
                 omega
               have a9:=xB bG hv;rw[a1 i O]at hv a9;subst a9;refine Be ht hf hA.ext.rel ag bf hv _ Q λav w2 bu _=>?_
               exact aE v' av w2 (by rw[<-l];exact am) bu ab
             .cases l
            .cases l
          .rename_i ak;have H:=gg ag ak;rw[<-ar]at H;rw[if_neg (by rw[H];simp)];split at l
           .rename_i e' am;simp only[eJ]at l;have hv:undef=(V.t []).ee r:=by simp[V.ee,dZ,undef]
            rw[hv];exact aE (.t []) r w' (by rw[<-l];exact am) (.refl hA.ext.rel) K
           .cases l
          .cases l
        .
          obtain⟨t,rfl⟩: ∃t,i=p+t:=⟨i-p,O⟩
          have aR:t<k:=O;obtain⟨⟨el,d,x⟩,aB⟩:=EK (C:=C) (ops:=M.toList.drop p) (i:=t) (o:=o) (by rw[bb];exact aR) (by rw[jY];exact ad);obtain⟨bx,bB,bg,a5⟩:=rS aB
          have bt:x<n:=by obtain⟨_,_,l3,_⟩:=Ch a0;obtain⟨bQ,d',x',h2,h3,_⟩:=l3 t o (by rw[nF,if_pos aR,jY];exact ad);rw[aB]at h2;cases h2;exact h3
          obtain⟨av,bm⟩:=hA.make ht aj ao aP aR ad aY af aB bt;rw[aw]at bm;have H:Region.wanted o (yielded M a'.tmps)=G:=by simp[Region.wanted,bB]
          rw[if_pos H];refine .inl ?_;obtain⟨z,hz,bs⟩:=(ht _ _ a5).ru w'
          have a6:(execOp a'.eval o).run P w'= .ok (.value (.pointer (E ⟨w'.heap.size,0,N⟩))) {w' with heap:=w'.heap.push (dI.obj r ⟨.lit d.zero,el⟩)}:=by unfold execOp;rw[bx];simp only[fr,Instr.alloc,hz,gv,newVar,newRow,run_newObj,iV,bs r,dI.obj,eH.list]
          unfold Oper.wp;rw[a6,yA,bg];exact ih _ _ _ _ _ _ bj ay aD bm
  refine Kg bz ?_;refine a4 M.size _ (List.range M.size) (λ_=>0) ρ a {w with drawn:=w.drawn+1} (Cu _ _ Y) Y (λj hj=>by rw[qt]at hj;cases hj) ?_;refine⟨λi o hi hL=>?_,.draw hr _,hn,K,λj o d v hj _ hL=>?_,λt v _ hv=>?_,λt _ hL=>?_,λt u _ _ hL=>?_⟩
  .rw [qt]at hL;cases hL
  .rw [qt]at hL;cases hL
  .rw [aC]at hv;exact he t v hv
  .rw [qt]at hL;cases hL
  .rw [qt]at hL;cases hL
end
def vo(C:fw)(n:Nat)(i:Option (List Nat))(t:List Item)(s:St):Option (List Item×St):=
  match uL C n i t s with
  |some x=>E x
  |none=>match t with
   | .code (.region _ ops G)::k=>match yN C n ops.toList s with
     |some H=>E (k,H)
     |none=>N
   |_=>N
def fe(C:fw)(n:Nat)(i:Option (List Nat))(L:Option Nat):Nat->List Item->St->List Item×St
  |0,t,s=>(t,s)
  |k+1,t,s=>bif(match L with|some L=>BP L t|none=>A)then(t,s)else match vo C n i t s with
   |some (a,H)=>fe C n i L k a H
   |none=>(t,s)
section
variable{P:Program}{C:fw}{n:Nat}
def Kp{H:St}(h:yN C n ops s=E H)(F:eb H.ob=G):eb s.ob=G:=by
  unfold yN at h;generalize lS C ops=p at h;generalize tL C (ops.drop p)=k at h;cases v:(my 0 ops&&zZ ops 0 ops (ig ops [])&&waits (p+k) 0 (ig ops [])&&(fZ s.m.length s.e&&ek s.m.length s.m))with
  |false=>rw[v]at h;cases h
  |true=>
  rw[v]at h;simp only[gq]at h;split at h
  case h_2=>cases h
  rename_i y a;split at h
  case h_2=>cases h
  have M:=oJ h F;exact ze a M
def wN{a:List Item}{H:St}(h:vo C n i t s=E (a,H))(F:eb H.ob=G):eb s.ob=G:=by
  unfold vo at h;split at h
  .rename_i x L;cases h;exact DY L F
  .split at h
   .split at h
    .rename_i g M;cases h;exact Kp M F
    .cases h
   .cases h
def Fp{L:Option Nat}: ∀(fuel:Nat){t a:List Item}{s H:St},fe C n i L fuel t s=(a,H)->eb H.ob=G->eb s.ob=G
  |0,_,_,_,_,h,F=>by cases h;exact F
  |fuel+1,t,a,s,H,h,F=>by
   unfold fe at h;generalize(match L with|some L=>BP L t|none=>A)=q at h;cases q with
   |true=>cases h;exact F
   |false=>
    simp only[gr]at h;split at h
    .rename_i v g M;exact wN M (Fp fuel h F)
    .cases h;exact F
variable{f:FuncId}{b:Nat}{Q:V->dE->Prop}
def CS(c:RD P C){m:List Item}{d:St}(h:vo C n i t s=E (m,d))(F:eb d.ob=G)(u:Ev P C f n b [] m d.e d.m Q):Ev P C f n b [] t s.e s.m Q:=by
  unfold vo at h;split at h
  .rename_i x L;cases h;intro q a w R H y j e o z r;have M:et C n i 1 t s=(m,d):=by simp only[et,L]
   exact BL c 1 y j e o M F λ_ _ _ g=>u.Di H K e z r g
  .split at h
   .rename_i ops k _;split at h
    .rename_i S M;cases h;intro q a w R H y j e o z r;exact yL (Sj c.m c.t c.f y j e o M F λl a' v g=>⟨K,u.Di H K e z r g⟩)
    .cases h
   .cases h
def Bk(c:RD P C){L:Option Nat}: ∀(fuel:Nat){t a:List Item}{s H:St},fe C n i L fuel t s=(a,H)->eb H.ob=G->
    Ev P C f n b [] a H.e H.m Q->Ev P C f n b [] t s.e s.m Q
  |0,_,_,_,_,h,_,R=>by cases h;exact R
  |fuel+1,t,a,s,H,h,F,R=>by
   unfold fe at h;generalize(match L with|some L=>BP L t|none=>A)=q at h;cases q with
   |true=>cases h;exact R
   |false=>
    simp only[gr]at h;split at h
    .rename_i v g M;exact CS c M (Fp fuel h F) (Bk c fuel h F R)
    .cases h;exact R
def FA(c:RD P C){L:Option Nat}{l:List Nat}{a:List Item}{y:eZ}{o:Bool}(h:(si l (fe C n i L j t ⟨e,m,z,[]⟩))=(a,y,u,o))(F:o=G)(R:Ev P C f n b [] a y u Q):Ev P C f n b [] t e m Q:=by
  unfold si at h;subst F;generalize d:fe C n i L j t ⟨e,m,z,[]⟩=x at h;obtain⟨v,g⟩:=x;simp only[ef]at h;obtain⟨rfl,rfl,rfl,F⟩:=h;exact Bk (s:=⟨e,m,z,[]⟩) c j d F (Ev.fq l (vM R))
def mX{fn:Func}(c:RD P C){o L:Bool}(h:(runN C fn.results.toList (fe C n i N j t ⟨e,m,z,[]⟩))=(G,E (r,o),u,L))(F:L=G)(v:o=G)(hQ:Q r u)(d:P.funcs[f]?=E fn:=by kernel_rfl):Ev P C f n b [] t e m Q:=by
  unfold runN at h;subst F;subst v;generalize hx:fe C n i N j t ⟨e,m,z,[]⟩=x at h;obtain⟨y,H⟩:=x;simp only[ef]at h;obtain⟨h1,h2,rfl,F⟩:=h;refine Bk (s:=⟨e,m,z,[]⟩) c j hx F ?_;intro q a w R hb S he hg hn hd hR;have M:=vQ (P:=P) (w:=w) (fn:=fn) c.t S he h2;have l:a.defers=[]:=hd;have g:=hR (.returned (r.ee q)) w ⟨q,r,H.m,.refl hb S,K,hQ⟩
  match y,h1 with
  |[],_=>exact vk d M l g
  | .code .ret::_,_=>exact vl d M l g
def iP{R:Nat->Option Nat}{args:List V}(c:RD P C)(fn:Func){o a:Bool}(h:(GS C fn.results.toList (fe C fn.ntmps i N j [.code (dB fn)] ⟨fo 0 args,[],z,[]⟩))=(G,E (r,o),a))(F:a=G)(u:o=G)(y:r.wf 0=G)(s:C.mw=R:=by rfl)(d:P.funcs[f]?=E fn:=by kernel_rfl)(H:fn.body=E (dB fn):=by kernel_rfl)(e:Nat.ble args.length fn.ntmps=G:=by kernel_rfl):eM P R f args [] (λm q=>m=r/\q=[]):=by
  unfold GS at h;refine eV Y y ?_;refine eM.of s d H e ?_;generalize L:fe C fn.ntmps i N j [.code (dB fn)] ⟨fo 0 args,[],z,[]⟩=x at h;obtain⟨v,g⟩:=x;simp only[ef]at h;obtain⟨M,S,l⟩:=h;exact mX c (d:=d) (i:=i) (j:=j) (z:=z) (r:=r) (o:=o) (L:=a) (u:=g.m) (by rw[L];simp[M,S,l]) F u ⟨K,.take 0 Y Y K K⟩
def KX(c:RD P C){L:Option Nat}{l:List Nat}{d:List Bool}{a:List Item}{y:eZ}(h:(Av l (fe C n i L j t ⟨e,m,z,[]⟩))=(a,y,u,d))(F:eb d=G)(R:Ev P C f n b [] a y u Q):Ev P C f n b [] t e m Q:=by
  unfold Av at h;generalize o:fe C n i L j t ⟨e,m,z,[]⟩=x at h;obtain⟨v,g⟩:=x;simp only[ef]at h;obtain⟨rfl,rfl,rfl,rfl⟩:=h;exact Bk (s:=⟨e,m,z,[]⟩) c j o F (Ev.fq l (vM R))
def kF{fn:Func}(c:RD P C){s:List Bool}{o:Bool}(h:(runM C fn.results.toList (fe C n i N j t ⟨e,m,z,[]⟩))=(G,E (r,o),u,s))(F:eb s=G)(a:o=G)(l:Q r u)(d:P.funcs[f]?=E fn:=by kernel_rfl):Ev P C f n b [] t e m Q:=by
  unfold runM at h;generalize L:fe C n i N j t ⟨e,m,z,[]⟩=x at h;obtain⟨v,g⟩:=x;simp only[ef]at h;obtain⟨M,S,rfl,rfl⟩:=h;exact mX c (d:=d) (i:=i) (j:=j) (z:=z) (r:=r) (o:=o) (L:=G) (u:=g.m) (by rw[L];simp[M,S,F]) K a l
def pA(i:Nat){ty:es}{k:U}{l:List Int}(g:m[i]?=E ⟨.lit (l.map (V.i k)),ty⟩)(h:Ev P C f n b [] t e (m.set i ⟨.ws k l,ty⟩) Q):Ev P C f n b [] t e m Q:=by
  have hl:i<m.length:=(fQ.1 g).1
  have u: ∀j x,(m.set i ⟨.ws k l,ty⟩)[j]?=E x->(j=i/\x=⟨.ws k l,ty⟩)∨(j≠i/\m[j]?=E x):=λj x L=>by
    by_cases d:i=j
    .subst d;rw[qj hl]at L;cases L;exact .inl ⟨K,K⟩
    .rw [lI d]at L;exact .inr ⟨λe=>d e.symm,L⟩
  have v: ∀(w:ii)(c c':Nat),fp w c ⟨.ws k l,ty⟩ c'↔fp w c ⟨.lit (l.map (V.i k)),ty⟩ c':=λw c c'=>by rw[fp.kA K,fp.kA K]
  have H: ∀q w,jA q m w->jA q (m.set i ⟨.ws k l,ty⟩) w:=λq w o=>by
    refine⟨λj x L=>?_,λj z x x' c L F s r=>?_,λj hj=>o.lt j (by simpa using hj),λj=>by rw[gU];exact o.next j⟩
    .rcases u j x L with⟨rfl,rfl⟩ |⟨_,S⟩
     .have:=o.cells j _ g;rw[uz.kA K]at this⊢;rw[this];rfl
     .exact o.cells j x S
    .have a: ∃y,m[j]?=E y/\fp w (q j) y c:=by
       rcases u j x L with⟨rfl,rfl⟩ |⟨_,S⟩
       .exact⟨_,g,(v w _ _).1 s⟩
       .exact⟨x,S,s⟩
     have a': ∃y,m[z]?=E y/\fp w (q z) y c:=by
       rcases u z x' F with⟨rfl,rfl⟩ |⟨_,S⟩
       .exact⟨_,g,(v w _ _).1 r⟩
       .exact⟨x',S,r⟩
     obtain⟨y,a1,a2⟩:=a;obtain⟨y',b1,b2⟩:=a';exact o.inj j z y y' c a1 b1 a2 b2
  have M: ∀q w c,kW q (m.set i ⟨.ws k l,ty⟩) w c->kW q m w c:=λq w c s=>by
    rcases s with⟨j,hj,rfl⟩ |⟨j,x,L,ho⟩
    .exact .inl ⟨j,by simpa using hj,K⟩
    .rcases u j x L with⟨rfl,rfl⟩ |⟨_,S⟩
     .exact .inr ⟨j,_,g,(v w _ _).1 ho⟩
     .exact .inr ⟨j,x,S,ho⟩
  intro q a w R hb o he hg hn hd hR;have ht:qE q m w q (m.set i ⟨.ws k l,ty⟩) w:=⟨λ_ _=>rfl,Y,λc s=> .inr (M q w c s),H q w o,.refl _ _⟩
  exact h q a w R (by simpa using hb) (H q w o) he (by simpa using hg) hn hd λ_ _ hp=>hR _ _ (hp.after hb ht)
end
noncomputable abbrev LG:List (Nat×QF):=(58,F58)::(11,F11)::(59,F59)::LN
noncomputable def jD(a b:Nat):Nat:=fc (num (dg a)) (num (dg b))
noncomputable def wX(a b:Nat):Nat:=lQ (num (dg a)) (num (dg b))
noncomputable def tU(a b:Nat):Nat:=lF (num (dg a)) (num (dg b))
def we(x y z:Nat):List V:=dg x++(dg y++dg z)
abbrev nZ(w:List ResultVar)(S:Nat)(u:Func)(u3:List V)(u4:List Bool)(o:Bool×Option (V×Bool)×Bool):Prop:=(GS (ep gz [] LG) w (fe (ep gz [] LG) S N N 1000 [.code (dB u)] ⟨fo 0 u3,[],u4,[]⟩))=o
def aKy(x y z:Nat):nZ f34.results.toList f34.ntmps f34 [.g (we x y z)] [G,G] (G,E (.g (we 0 0 0),G),eb [G==G,D (num (dg z)=0)==G,iw (dg z)]):=dR
def aHa(x y z:Nat):nZ f34.results.toList f34.ntmps f34 [.g (we x y z)] [A,G] (G,E (.g (we 0 0 0),G),eb [D (num (dg y)=0)==G,iw (dg y),D (num (dg z)=0)==A,iw (dg z)]):=dR
def aNj(x y z:Nat):letI a:=dg pN;letI b:=iw (dg y);letI c:=iw (dg z);nZ f34.results.toList f34.ntmps f34 ((λS=>S) [.g (we x y z)]) ((λS=>S) [A,A]) (let u:=jD y y;let Q:=jD x u;let g:=wX Q Q;let s:=wX g g;let M:=jD z z;let d:=tU x M;let h:=wX x M;let l:=jD d h;let q:=wX l l;let m:=wX q l;let F:=jD m m;let i:=wX s s;let H:=tU F i;let P:=jD u u;let j:=wX P P;let f:=wX j j;let w:=wX f f;let R:=tU s H;let L:=jD m R;let o:=tU L w;let p:=jD y z;let T:=wX p p;(G,E (.g (we H o T),G),eb [wY (dg p) (dg p) a,ed b c,wY (dg L) (dg w) a,ed (iw (dg m)) (iw (dg R)),wY (dg s) (dg H) a,wY (dg f) (dg f) a,wY (dg j) (dg j) a,wY (dg P) (dg P) a,ed (iw (dg u)) (iw (dg u)),wY (dg F) (dg i) a,wY (dg s) (dg s) a,ed (iw (dg m)) (iw (dg m)),wY (dg q) (dg l) a,wY (dg l) (dg l) a,ed (iw (dg d)) (iw (dg h)),wY (dg x) (dg M) a,wY (dg x) (dg M) a,ed c c,wY (dg g) (dg g) a,wY (dg Q) (dg Q) a,ed (iw (dg x)) (iw (dg u)),ed b b,D (num (dg y)=0)==A,b,D (num (dg z)=0)==A,c])):=dR
def aGm(H j T w f z:Nat):letI a:V:= .g (we w f z);nZ f33.results.toList f33.ntmps f33 [.g (we H j T),a] [G] (G,E (a,G),eb [D (num (dg T)=0)==G,iw (dg T)]):=dR
def aFn(H j T w f z:Nat):letI a:V:= .g (we H j T);nZ f33.results.toList f33.ntmps f33 [a,.g (we w f z)] [A,G] (G,E (a,G),eb [D (num (dg z)=0)==G,iw (dg z),D (num (dg T)=0)==A,iw (dg T)]):=dR
def aNh(H j T w f z:Nat):letI a:=iw (dg T);letI b:=iw (dg z);nZ f33.results.toList f33.ntmps f33 [.g (we H j T),.g (we w f z)] [A,A,G,A] (let l:=jD T T;let Q:=jD z z;let S:=jD H Q;let u:=jD w l;let p:=jD Q z;let g:=jD j p;let x:=jD l T;let m:=jD f x;let h:=tU u S;let d:=tU m g;(G,E (.g (we 0 0 0),G),eb [D (num (dg d)=0)==A,iw (dg d),D (num (dg h)=0)==G,iw (dg h),wY (dg m) (dg g) (dg pN),wY (dg u) (dg S) (dg pN),ed (iw (dg f)) (iw (dg x)),ed (iw (dg l)) a,ed (iw (dg j)) (iw (dg p)),ed (iw (dg Q)) b,ed (iw (dg w)) (iw (dg l)),ed (iw (dg H)) (iw (dg Q)),ed b b,ed a a,D (num (dg z)=0)==A,b,D (num (dg T)=0)==A,a])):=dR
def aIi(H j T n f z:Nat):letI a:=dg pN;letI b:=iw (dg T);letI c:=iw (dg z);nZ f33.results.toList f33.ntmps f33 ((λS=> .g (we H j T)::S) [.g (we n f z)]) ((λS=>A::S) [A,A]) (let l:=jD T T;let Q:=jD z z;let e:=jD H Q;let u:=jD n l;let p:=jD Q z;let g:=jD j p;let x:=jD l T;let m:=jD f x;let h:=tU u e;let d:=tU m g;let k:=jD h h;let s:=jD k h;let w:=jD e k;let F:=jD d d;let i:=tU F s;let q:=wX w w;let P:=tU i q;let R:=tU w P;let L:=jD d R;let r:=jD g s;let o:=tU L r;let y:=jD T z;let v:=jD y h;(G,E (.g (we P o v),G),eb [ed (iw (dg y)) (iw (dg h)),ed b c,wY (dg L) (dg r) a,ed (iw (dg g)) (iw (dg s)),ed (iw (dg d)) (iw (dg R)),wY (dg w) (dg P) a,wY (dg i) (dg q) a,wY (dg w) (dg w) a,wY (dg F) (dg s) a,ed (iw (dg d)) (iw (dg d)),ed (iw (dg e)) (iw (dg k)),ed (iw (dg k)) (iw (dg h)),ed (iw (dg h)) (iw (dg h)),D (num (dg h)=0)==A,iw (dg h),wY (dg m) (dg g) a,wY (dg u) (dg e) a,ed (iw (dg f)) (iw (dg x)),ed (iw (dg l)) b,ed (iw (dg j)) (iw (dg p)),ed (iw (dg Q)) c,ed (iw (dg n)) (iw (dg l)),ed (iw (dg H)) (iw (dg Q)),ed c c,ed b b,D (num (dg z)=0)==A,c,D (num (dg T)=0)==A,b])):=dR
def jg(q:J3):List V:=we q.x q.y q.z
def Dx(q:J3):Prop:=q.x<pN/\q.y<pN/\q.z<pN
def qv(a b:Nat):fc a b<115792089237316195423570985008687907853269984665640564039457584007913129639936:=fI (kQ a b) gG
def I5(a b:Nat):lQ a b<115792089237316195423570985008687907853269984665640564039457584007913129639936:=fI (qZ a b) gG
def va(a b:Nat):lF a b<115792089237316195423570985008687907853269984665640564039457584007913129639936:=fI (rk a b) gG
def num_mul(a b:Nat):num (dg (fc a b))=fc a b:=fK (qv a b)
def num_add(a b:Nat):num (dg (lQ a b))=lQ a b:=fK (I5 a b)
def Ba(a b:Nat):num (dg (lF a b))=lF a b:=fK (va a b)
def Ue(R:Nat->Option Nat):gf R LG:=⟨⟨SX,ain R⟩,⟨ga f11,abx R⟩,⟨ga f59,agn R⟩,wb R⟩
def QB:ji B (ep gz [] LG):=gy dD (Ue gz)
def QQ:Dx ⟨0,0,0⟩:=⟨J,J,J⟩
def qV(q:J3):Dx (jj q):=by
  unfold jj;cases Nat.beq q.z 0 with
  |true=>exact QQ
  |false=>
   cases Nat.beq q.y 0 with
   |true=>exact QQ
   |false=>exact⟨rk _ _,rk _ _,qZ _ _⟩
def aHl(q:J3):J3:=
  let u:=fc q.y q.y;let Q:=fc q.x u;let g:=lQ Q Q;let s:=lQ g g;let M:=fc q.z q.z;let l:=fc (lF q.x M) (lQ q.x M);let m:=lQ (lQ l l) l;let x:=lF (fc m m) (lQ s s);let P:=fc u u;let j:=lQ P P;let f:=lQ j j;let w:=lQ f f;let y:=lF (fc m (lF s x)) w;let z:=fc q.y q.z
  ⟨x,y,lQ z z⟩
def amx{x y z:Nat}(L:x<pN)(Q:y<pN)(o:z<pN):eM B gz 34 [.g (we x y z)] [] (λr m=>r= .g (jg (jj ⟨x,y,z⟩))/\m=[]):=by
  have n:=fK (fI L gG);have l:=fK (fI Q gG);have nz:=fK (fI o gG);have R:=fT (fI L gG);have u:=fT (fI Q gG);have j:=fT (fI o gG);by_cases p:z=0
  .subst p;refine iP (C:=ep gz [] LG) (eB QB) f34 (i:=N) (j:=1000) (z:=[G,G]) (a:=G) ((aKy x y 0).trans ?_) K K I;simp only[nz,j,dX,fM];rfl
  have a:Nat.beq z 0=A:=by cases h:Nat.beq z 0 with|true=>exact(p (iB h)).elim|false=>rfl
  by_cases P:y=0
  .subst P;have e:jj ⟨x,0,z⟩=⟨0,0,0⟩:=by unfold jj;simp only[a];rfl
   rw[e];refine iP (C:=ep gz [] LG) (eB QB) f34 (i:=N) (j:=1000) (z:=[A,G]) (a:=G) ((aHa x 0 z).trans ?_) K K I;simp only[l,nz,u,j,p,xd];rfl
  have i:Nat.beq y 0=A:=by cases h:Nat.beq y 0 with|true=>exact(P (iB h)).elim|false=>rfl
  refine iP (C:=ep gz [] LG) (eB QB) f34 (i:=N) (j:=1000) (z:=[A,A]) (a:=G) ((aNj x y z).trans ?_) K K I;have b:=qp L (kQ z z);have e:jg (jj ⟨x,y,z⟩)=jg (aHl ⟨x,y,z⟩):=by unfold jj;simp only[a,i,gr];rfl
  rw[e];simp only[jD,wX,tU,n,l,nz,num_mul,num_add,Ba];simp only[fT (qv _ _),fT (I5 _ _),fT (va _ _),R,u,j,qp (kQ _ _) (kQ _ _),qp (qZ _ _) (qZ _ _),qp (qZ _ _) (kQ _ _),qp (qZ _ _) (rk _ _),qp (kQ _ _) (qZ _ _),b,p,P,xd];rfl
instance:Nonempty J3:=⟨⟨0,0,0⟩⟩
noncomputable def HM(l:List V):J3:=Classical.epsilon λq=>Dx q/\l=jg q
noncomputable def Jr(l:List V):Bool:= @decide (∃q,Dx q/\l=jg q) (Classical.propDecidable _)
def aah{r:J3}(m:Dx q)(j:Dx r)(h:jg q=jg r):q=r:=by
  obtain⟨g,d,P⟩:=m;obtain⟨k,c,i⟩:=j;obtain⟨x,y,z⟩:=q;obtain⟨n,L,Q⟩:=r;simp only[jg,we]at h;have f: ∀v,(dg v).length=8:=λ_=>rfl
  obtain⟨M,S⟩:=JV h K;obtain⟨l,u⟩:=JV S K
  have e: ∀{a b:Nat},a<pN->b<pN->dg a=dg b->a=b:=λ{a b}t H w=>by have:=fK (fI t gG);rw[w,fK (fI H gG)]at this;exact this.symm
  simp only[J3.mk.injEq];exact⟨e g k M,e d c l,e P i u⟩
def ng(z:Dx q):HM (jg q)=q:=by have:=K6 (p:=λu=>Dx u/\jg q=jg u) ⟨q,z,K⟩;exact(aah z this.1 this.2).symm
def zN(z:Dx q):Jr (jg q)=G:=by unfold Jr;exact@fG _ (Classical.propDecidable _) ⟨q,z,K⟩
def Fv{l:List V}(h:Jr l=G): ∃q,Dx q/\l=jg q:=by unfold Jr at h;exact@fU _ (Classical.propDecidable _) h
noncomputable def F34:QF:=λargs m=>match args with
  |[.g l]=>E (.g (jg (jj (HM l))),ed (Jr l) (ek m.length m))
  |_=>N
def Tv(R:Nat->Option Nat):oR B R 34 F34:=by
  refine gD λargs m r h=>?_
  unfold F34 at h;split at h
  .simp only[eJ,ef]at h;obtain⟨rfl,d⟩:=h;obtain⟨M,i⟩:=dN d;obtain⟨q,z,rfl⟩:=Fv M;rw[ng z];exact gZ (amx z.1 z.2.1 z.2.2) i K K
  .cases h
def IJ:eo B 34:=ga f34
noncomputable abbrev LG2:List (Nat×QF):=(34,F34)::LG
def aPl(H j T w f z:Nat):letI a:=we H j T;letI b:=iw (dg T);letI c:=iw (dg z);(GS (ep gz [] LG2) f33.results.toList (fe (ep gz [] LG2) f33.ntmps N N 1000 [.code (dB f33)] ⟨fo 0 [.g a,.g (we w f z)],[],[A,A,G,G],[]⟩))=(let l:=jD T T;let Q:=jD z z;let S:=jD H Q;let u:=jD w l;let p:=jD Q z;let g:=jD j p;let x:=jD l T;let m:=jD f x;let h:=tU u S;let d:=tU m g;(G,E (.g (jg (jj (HM a))),G),eb [Jr a,D (num (dg d)=0)==G,iw (dg d),D (num (dg h)=0)==G,iw (dg h),wY (dg m) (dg g) (dg pN),wY (dg u) (dg S) (dg pN),ed (iw (dg f)) (iw (dg x)),ed (iw (dg l)) b,ed (iw (dg j)) (iw (dg p)),ed (iw (dg Q)) c,ed (iw (dg w)) (iw (dg l)),ed (iw (dg H)) (iw (dg Q)),ed c c,ed b b,D (num (dg z)=0)==A,c,D (num (dg T)=0)==A,b])):=I
def aee(R:Nat->Option Nat):gf R LG2:=⟨⟨IJ,Tv R⟩,Ue R⟩
def aPs:ji B (ep gz [] LG2):=gy dD (aee gz)
def GZ{x:Nat}(h:x≠0):Nat.beq x 0=A:=by cases F:Nat.beq x 0 with|true=>exact(h (iB F)).elim|false=>rfl
def Lc(q r:J3):Nat:=lF (fc r.x (fc q.z q.z)) (fc q.x (fc r.z r.z))
def Lv(q r:J3):Nat:=lF (fc r.y (fc (fc q.z q.z) q.z)) (fc q.y (fc (fc r.z r.z) r.z))
def aLl(q r:J3):J3:=
  let Q:=fc r.z r.z;let S:=fc q.x Q;let g:=fc q.y (fc Q r.z);let h:=Lc q r;let d:=Lv q r;let P:=fc h h;let s:=fc P h;let v:=fc S P;let x:=lF (lF (fc d d) s) (lQ v v);let y:=lF (fc d (lF v x)) (fc g s)
  ⟨x,y,fc (fc q.z r.z) h⟩
def NK(q r:J3):qH q r=if q.z=0 then r else if r.z=0 then q else if Lc q r=0 then(if Lv q r=0 then jj q else⟨0,0,0⟩)else aLl q r:=by
  by_cases M:q.z=0
  .rw [if_pos M];unfold qH;simp only[M];rfl
  rw[if_neg M];by_cases S:r.z=0
  .rw [if_pos S];unfold qH;simp only[GZ M,S];rfl
  rw[if_neg S];by_cases l:Lc q r=0
  .rw [if_pos l];have h:Nat.beq (Lc q r) 0=G:=by rw[l];rfl
   unfold Lc at h;by_cases u:Lv q r=0
   .rw [if_pos u];have m:Nat.beq (Lv q r) 0=G:=by rw[u];rfl
    unfold Lv at m;unfold qH;simp only[GZ M,GZ S,h,m,gq,gr]
   .rw [if_neg u];have m:=GZ u;unfold Lv at m;unfold qH;simp only[GZ M,GZ S,h,m,gq,gr]
  .rw [if_neg l];have h:=GZ l;unfold Lc at h;unfold qH;simp only[GZ M,GZ S,h,gr];rfl
def MH{r:J3}(z:Dx q)(y:Dx r):Dx (qH q r):=by
  rw[NK];split
  .exact y
  split
  .exact z
  split
  .split
   .exact qV q
   .exact QQ
  .exact⟨rk _ _,rk _ _,kQ _ _⟩
def axh:iw (dg 0)=G:=fT J
def aAh(q:J3):(V.g (jg q)).wf 0=G:=I
def avt{r:J3}(hq:Dx q)(hr:Dx r):eM B gz 33 [.g (jg q),.g (jg r)] [] (λv m=>v= .g (jg (qH q r))/\m=[]):=by
  have oq:=ng hq;have oo:=zN hq;obtain⟨H,j,T⟩:=q;obtain⟨w,f,z⟩:=r;show eM B gz 33 [.g (we H j T),.g (we w f z)] [] (λv m=>v= .g (jg (qH ⟨H,j,T⟩ ⟨w,f,z⟩))/\m=[]);obtain⟨p,g,o⟩:=hq;obtain⟨M,F,R⟩:=hr;simp only at p g o M F R;have c:=fK (fI p gG);have y:=fK (fI g gG);have n:=fK (fI o gG);have P:=fK (fI M gG);have Q:=fK (fI F gG);have d:=fK (fI R gG);have e:=fT (fI p gG);have L:=fT (fI g gG);have u:=fT (fI o gG);have h:=fT (fI M gG);have S:=fT (fI F gG);have l:=fT (fI R gG);rw[NK];by_cases i:T=0
  .subst i;rw[if_pos K];refine iP (C:=ep gz [] LG) (eB QB) f33 (i:=N) (j:=1000) (z:=[G]) (a:=G) ((aGm H j 0 w f z).trans ?_) K K I;simp only[n,u];rfl
  rw[if_neg i];by_cases x:z=0
  .subst x;rw[if_pos K];refine iP (C:=ep gz [] LG) (eB QB) f33 (i:=N) (j:=1000) (z:=[A,G]) (a:=G) ((aFn H j T w f 0).trans ?_) K K I;simp only[n,d,u,l,i,xd];rfl
  rw[if_neg x];by_cases a:Lc ⟨H,j,T⟩ ⟨w,f,z⟩=0
  .rw [if_pos a];have s:lF (fc w (fc T T)) (fc H (fc z z))=0:=a;by_cases b:Lv ⟨H,j,T⟩ ⟨w,f,z⟩=0
   .rw [if_pos b];have k:lF (fc f (fc (fc T T) T)) (fc j (fc (fc z z) z))=0:=b;refine iP (C:=ep gz [] LG2) (eB aPs) f33 (i:=N) (j:=1000) (z:=[A,A,G,G]) (a:=G) ((aPl H j T w f z).trans ?_) K K (aAh _);have t:HM (we H j T)=⟨H,j,T⟩:=oq;have aa:Jr (we H j T)=G:=oo;simp only[jD,wX,tU,c,y,n,P,Q,d,num_mul,num_add,Ba,t,aa];simp only[fT (qv _ _),fT (va _ _),e,L,u,h,S,l,qp (kQ _ _) (kQ _ _),i,x,s,k,axh,xd,decide_true];rfl
   .rw [if_neg b];have k: ¬lF (fc f (fc (fc T T) T)) (fc j (fc (fc z z) z))=0:=b;refine iP (C:=ep gz [] LG) (eB QB) f33 (i:=N) (j:=1000) (z:=[A,A,G,A]) (a:=G) ((aNh H j T w f z).trans ?_) K K I;simp only[jD,wX,tU,c,y,n,P,Q,d,num_mul,num_add,Ba];simp only[fT (qv _ _),fT (va _ _),e,L,u,h,S,l,qp (kQ _ _) (kQ _ _),i,x,s,k,axh,xd,decide_true];rfl
  .rw [if_neg a];have s: ¬lF (fc w (fc T T)) (fc H (fc z z))=0:=a;refine iP (C:=ep gz [] LG) (eB QB) f33 (i:=N) (j:=1000) (z:=[A,A,A]) (a:=G) ((aIi H j T w f z).trans ?_) K K I;simp only[jD,wX,tU,c,y,n,P,Q,d,num_mul,num_add,Ba];simp only[fT (qv _ _),fT (va _ _),e,L,u,h,S,l,qp (kQ _ _) (kQ _ _),qp (rk _ _) (qZ _ _),qp (kQ _ _) (rk _ _),i,x,s,xd];rfl
noncomputable def F33:QF:=λargs m=>match args with
  |[.g l,.g i]=>E (.g (jg (qH (HM l) (HM i))),ed (ed (Jr l) (Jr i)) (ek m.length m))
  |_=>N
def agw(R:Nat->Option Nat):oR B R 33 F33:=by
  refine gD λargs m r h=>?_
  unfold F33 at h;split at h
  .simp only[eJ,ef]at h;obtain⟨rfl,d⟩:=h;obtain⟨M,i⟩:=dN d;obtain⟨S,l⟩:=dN M;obtain⟨q,z,rfl⟩:=Fv S;obtain⟨s,w,rfl⟩:=Fv l;rw[ng z,ng w];exact gZ (avt z w) i K K
  .cases h
def RF:eo B 33:=ga f33
section
noncomputable abbrev TPw:List Item:=gQ (dB f87) 0 []
abbrev PwE(i:Int):eZ:=[(2,.p (E (0,0))),(3,.p (E (1,0))),(4,.p (E (2,0))),(5,.p (E (3,0))),(6,.i .i64 i)]
def aRu(a e:Nat):(si [2,3,4,5,6] (fe (ep gz [] LG) f87.ntmps N (E 0) 200 [.code (dB f87)] ⟨fo 0 [.g (dg a),.g (dg e)],[],[],[]⟩))=(TPw,PwE 255,[⟨.lit (dg a),28⟩,⟨.lit (dg e),28⟩,⟨.lit ql.zero,28⟩,⟨.lit (dg 1),28⟩],G):=I
abbrev DX(a c i:Nat)(q:List Int)(w:Bool)(S u:Nat)(u3:(List Bool->List Bool)):Prop:=letI g:=(i:Int);letI b:Int:=U.i64.wrap (g.tdiv 32);letI d:V:= .i .u32 0;letI e:dI:=⟨.lit (dg a),28⟩;letI f:dI:=⟨.ws .u32 q,28⟩;(Av [2,3,4,5,6] (fe (ep gz [] LG) f87.ntmps N (E 0) 200 TPw ⟨PwE (i:Int),[e,f,⟨.lit ql.zero,28⟩,⟨.lit (dg c),28⟩],[G,w],[]⟩))=(TPw,[(2,.p (E (0,0))),(3,.p (E (1,0))),(4,.p (E (2,0))),(5,.p (E (3,0))),(6,.i .i64 (U.i64.wrap (g-1)))],[e,f,⟨.lit [d,d,d,d,d,d,d,d],28⟩,⟨.lit (dg (fc (num (dg S)) (num (dg u)))),28⟩],(u3 [(eA BinOp.and .u32 ((q.getD b.toNat 0).fdiv (2^min (g.tmod 32).toNat 32)) (1:Int)==1)==w,G,G,D (b.toNat<q.length),D (0<=b/\b<8),G,D (8=8/\0+8<=8),ed (iw (dg c)) (iw (dg c)),G,G,G]))
def aEi(a c i:Nat)(q:List Int):letI b:=num (dg c);DX a c i q G (fc b b) a (λS=>D (8=8/\0+8<=8)::ed (iw (dg (fc b b))) (iw (dg a))::G::D (8<=8)::S):=dR
def aOr(a c i:Nat)(q:List Int):DX a c i q A c c (λS=>S):=dR
def aKn(c:Nat)(q:List Int)(R:dI):letI a:dI:=⟨.lit (dg c),28⟩;letI b:dI:=⟨.ws .u32 q,28⟩;(runM (ep gz [] LG) f87.results.toList (fe (ep gz [] LG) f87.ntmps N N 200 TPw ⟨PwE (-1),[R,b,⟨.lit ql.zero,28⟩,a],[],[]⟩))=(G,E (.g (dg c),G),[R,b,a,a],[G,G]):=I
def aIf{y:Nat}(h:y<4294967296):eA .and .u32 (y:Int) 1=((y%2:Nat):Int):=pT .u32 32 1 y K K J h
def Tz(v:Nat): ∀k,sh v k=v/2^(32*k)
  |0=>by simp[sh]
  |k+1=>by show sh v k/4294967296=_;rw[Tz v k,CK,oZ,nu]
def H3(v:Nat){k:Nat}(h:k<8):(fY v).getD k 0=fL v k:=by
  match k,h with
  |0,_=>rfl
  |1,_=>rfl
  |2,_=>rfl
  |3,_=>rfl
  |4,_=>rfl
  |5,_=>rfl
  |6,_=>rfl
  |7,_=>rfl
def ajf(e i:Nat)(g:i<256):eA .and .u32 (((fY e).getD (U.i64.wrap ((i:Int).tdiv 32)).toNat 0).fdiv (2^min ((i:Int).tmod 32).toNat 32)) 1=((e/2^i%2:Nat):Int):=by
  have M:(i:Int).tdiv 32=((i/32:Nat):Int):=by rw[FE O];rfl
  have S:(i:Int).tmod 32=((i%32:Nat):Int):=by rw[Kl O];rfl
  have l:U.i64.wrap ((i/32:Nat):Int)=((i/32:Nat):Int):=iy O;rw[M,S,l,dU,dU,H3 e O];have d:min (i%32) 32=i%32:=O;rw[d];unfold fL
  have t:(((sh e (i/32)%4294967296:Nat):Int)).fdiv (2^(i%32))=((sh e (i/32)%4294967296/2^(i%32):Nat):Int):=by
    have:(2:Int)^(i%32)=((2^(i%32):Nat):Int):=by push_cast;rfl
    rw[this,kB _ (Int.natCast_nonneg _)];rfl
  rw[t,aIf (KY (zg _ _) (iD _ J)),Tz]
  congr 1
  have v:=Dn (e/2^(32*(i/32))) 32 (i%32)
  have k:(e/2^(32*(i/32))).testBit (i%32)=e.testBit i:=by rw[JU];congr 1;omega
  rw[k]at v;have z:D (i%32<32)=G:=gp;rw[z,Dd,T3,T3]at v;have F:=zi ((e/2^(32*(i/32)))%2^32/2^(i%32));have y:=zi (e/2^i);rw[rH]at v;show(e/2^(32*(i/32)))%2^32/2^(i%32)%2=e/2^i%2;omega
def xY(e k:Nat):e/2^k=2*(e/2^(k+1))+e/2^k%2:=by rw[rz,<-CK];omega
def Vw(a q:Nat):a^q%pN<pN:=iD _ J
def Zz(a q:Nat):fc (a^q%pN) (a^q%pN)=a^(2*q)%pN:=by unfold fc;rw[<-nr,<-nu];congr 2;omega
def amz(a q:Nat):fc (fc (a^q%pN) (a^q%pN)) a=a^(2*q+1)%pN:=by rw[Zz];unfold fc;rw[Nat.mod_mul_mod,<-rz]
variable{Q:V->dE->Prop}
def NG{a e:Nat}(t:a<115792089237316195423570985008687907853269984665640564039457584007913129639936)(o:Q (.g (dg (a^e%pN))) [⟨.lit (dg a),28⟩,⟨.ws .u32 (fY e),28⟩,⟨.lit (dg (a^e%pN)),28⟩,⟨.lit (dg (a^e%pN)),28⟩]): ∀(k:Nat),k<=256->
    Ev B (ep gz [] LG) 87 f87.ntmps 0 [] TPw (PwE ((k:Int)-1)) [⟨.lit (dg a),28⟩,⟨.ws .u32 (fY e),28⟩,⟨.lit ql.zero,28⟩,⟨.lit (dg (a^(e/2^k)%pN)),28⟩] Q
  |0,_=>by rw[xq,Cj];have b:=aKn (a^e%pN) (fY e) ⟨.lit (dg a),28⟩;exact kF (eB QB) b K K o
  |k+1,R=>by
   have s:=fI (Vw a (e/2^(k+1))) gG;have i:=fT s;have n:=fK s;have q:=fT t;have x:=fK t;have m:((k+1:Nat):Int)-1=(k:Int):=O;rw[m];have d:U.i64.wrap ((k:Int)-1)=(k:Int)-1:=iy O;have H:=ajf e k O;have v:=NG t o k O;have M:(k:Int).tdiv 32=((k/32:Nat):Int):=by rw[FE O];rfl
   have l:U.i64.wrap ((k/32:Nat):Int)=((k/32:Nat):Int):=iy O;have w:(fY e).length=8:=K;rcases zi (e/2^k)with C|C
   .have b:=aOr a (a^(e/2^(k+1))%pN) k (fY e);unfold DX at b;refine KX (eB QB) b ?_ ?_
    .rw [H,C];simp only[M,l,w,i,iO,dX,fM,bT,bF,eG];simp;omega
    .rw [n,Zz,d];rw[xY e k,C,j3]at v;exact v
   .have b:=aEi a (a^(e/2^(k+1))%pN) k (fY e);unfold DX at b;refine KX (eB QB) b ?_ ?_
    .rw [H,C,n];simp only[M,l,w,i,q,fT (qv _ _),iO,dX,fM,bT,bF,eG];simp;omega
    .rw [n,num_mul,x,amz,d];rw[xY e k,C]at v;exact v
end
def awz{a e:Nat}:letI b:Nat:=115792089237316195423570985008687907853269984665640564039457584007913129639936;∀(t:a<b)(j:e<b),eM B gz 87 [.g (dg a),.g (dg e)] [] (λr m=>r= .g (dg (a^e%pN))/\m=[]):=by intro t j;refine eV Y K ?_;refine dL _ f87 (FA (eB QB) (aRu a e) K ?_);refine pA 1 (k:= .u32) (l:=fY e) K ?_;have h:=NG (e:=e) (Q:=λr u=>r= .g (dg (a^e%pN))/\fs 0 u []) t ⟨K,.take 0 Y Y K K⟩ 256 (eT _);have C:e/2^256=0:=zC j;rw[C]at h;exact h
noncomputable def F87:QF:=λargs m=>match args with
  |[.g a,.g b]=>E (.g (dg (num a^num b%pN)),ed (ed (iw a) (iw b)) (ek m.length m))
  |_=>N
def Z2(R:Nat->Option Nat):oR B R 87 F87:=by
  refine gD λargs m r h=>?_
  unfold F87 at h;split at h
  .simp only[eJ,ef]at h;obtain⟨rfl,d⟩:=h;obtain⟨M,i⟩:=dN d;obtain⟨S,l⟩:=dN M;obtain⟨a,rfl,t,ea⟩:=mI S;obtain⟨b,rfl,H,x⟩:=mI l;rw[ea,x];exact gZ (awz t H) i K K
  .cases h
def Ux:eo B 87:=ga f87
def vZ(a:Nat):Nat:=a^(pN-2)%pN
noncomputable abbrev LP:List (Nat×QF):=(87,F87)::LG
noncomputable abbrev iE:Nat:=(num (dg pN)+(gM-num (dg 2)))%gM
def YT(R:Nat->Option Nat):gf R LP:=⟨⟨Ux,Z2 R⟩,Ue R⟩
def OKP:ji B (ep gz [] LP):=gy dD (YT gz)
def aog(a:Nat):(GS (ep gz [] LP) f60.results.toList (fe (ep gz [] LP) f60.ntmps N N 200 [.code (dB f60)] ⟨fo 0 [.g (dg a)],[],[],[]⟩))=(G,E (.g (dg (num (dg a)^num (dg iE)%pN)),G),eb [ed (iw (dg a)) (iw (dg iE)),ed (iw (dg pN)) (iw (dg 2))]):=I
def ZI:iE=pN-2:=by have S:=fK (v:=2) J;unfold iE;rw[fK gG,S];unfold pN gM;omega
def ayk{a:Nat}(t:a<115792089237316195423570985008687907853269984665640564039457584007913129639936):eM B gz 60 [.g (dg a)] [] (λr m=>r= .g (dg (vZ a))/\m=[]):=by
  have g:iE<115792089237316195423570985008687907853269984665640564039457584007913129639936:=by rw[ZI];decide
  have e:num (dg a)^num (dg iE)%pN=vZ a:=by rw[fK t,fK g,ZI];rfl
  have b:=aog a;rw[e]at b;refine iP (C:=ep gz [] LP) (eB OKP) f60 (i:=N) (j:=200) (z:=[]) b ?_ K K;rw[fT t,fT g,fT gG,fT (v:=2) J];rfl
noncomputable def F60:QF:=λargs m=>match args with
  |[.g a]=>E (.g (dg (vZ (num a))),ed (iw a) (ek m.length m))
  |_=>N
def adq(R:Nat->Option Nat):oR B R 60 F60:=by
  refine gD λargs m r h=>?_
  unfold F60 at h;split at h
  .simp only[eJ,ef]at h;obtain⟨rfl,d⟩:=h;obtain⟨M,i⟩:=dN d;obtain⟨a,rfl,t,ea⟩:=mI M;rw[ea];exact gZ (ayk t) i K K
  .cases h
def P6:eo B 60:=ga f60
noncomputable abbrev GP:List (Nat×QF):=(60,F60)::LP
noncomputable def avr(a:Nat):Nat:=vZ (num (dg a))
def oB(x y:Nat):List V:=dg x++(dg y++[.b A])
def NL(R:Nat->Option Nat):gf R GP:=⟨⟨P6,adq R⟩,YT R⟩
def apv:ji B (ep gz [] GP):=gy dD (NL gz)
def ayg(x y z:Nat):(GS (ep gz [] GP) f35.results.toList (fe (ep gz [] GP) f35.ntmps N N 200 [.code (dB f35)] ⟨fo 0 [.g (we x y z)],[],[A],[]⟩))=(let i:=avr z;let s:=jD i i;let H:=jD x s;let P:=jD s i;let j:=jD y P;(G,E (.g (oB H j),G),eb [ed (iw (dg y)) (iw (dg P)),ed (iw (dg s)) (iw (dg i)),ed (iw (dg x)) (iw (dg s)),ed (iw (dg i)) (iw (dg i)),iw (dg z),D (num (dg z)=0)==A,iw (dg z)])):=I
def aAc(x y:Nat):(GS (ep gz [] GP) f32.results.toList (fe (ep gz [] GP) f32.ntmps N N 200 [.code (dB f32)] ⟨fo 0 [.g (oB x y)],[],[],[]⟩))=(G,E (.g (we x y 1),G),G):=I
def NR(a:Nat):vZ a<pN:=iD _ J
def tC(q:J3):Nat:=fc q.x (fc (vZ q.z) (vZ q.z))
def aar(q:J3):Nat:=fc q.y (fc (fc (vZ q.z) (vZ q.z)) (vZ q.z))
def azv(b:Dx q)(o:q.z≠0):eM B gz 35 [.g (jg q)] [] (λr m=>r= .g (oB (tC q) (aar q))/\m=[]):=by obtain⟨x,y,z⟩:=q;show eM B gz 35 [.g (we x y z)] [] (λr m=>r= .g (oB (fc x (fc (vZ z) (vZ z))) (fc y (fc (fc (vZ z) (vZ z)) (vZ z))))/\m=[]);obtain⟨L,Q,a⟩:=b;simp only at L Q a o;have n:=fK (fI L gG);have l:=fK (fI Q gG);have nz:=fK (fI a gG);have R:=fT (fI L gG);have u:=fT (fI Q gG);have j:=fT (fI a gG);have i:=fK (fI (NR z) gG);have s:=fT (fI (NR z) gG);refine iP (C:=ep gz [] GP) (eB apv) f35 (i:=N) (j:=200) (z:=[A]) (a:=G) ((ayg x y z).trans ?_) K K I;simp only[jD,avr,n,l,nz,i,num_mul];simp only[fT (qv _ _),R,u,j,s,o,xd];rfl
def azz(x y:Nat):eM B gz 32 [.g (oB x y)] [] (λr m=>r= .g (we x y 1)/\m=[]):=
  iP (C:=ep gz [] GP) (eB apv) f32 (i:=N) (j:=200) (z:=[]) (aAc x y) K K I
noncomputable def okB(l:List V):Bool:= @decide (l=oB zQ zW) (Classical.propDecidable _)
noncomputable def F32:QF:=λargs m=>match args with
  |[.g l]=>E (.g (jg ⟨zQ,zW,1⟩),ed (okB l) (ek m.length m))
  |_=>N
def Z4(R:Nat->Option Nat):oR B R 32 F32:=by
  refine gD λargs m r h=>?_
  unfold F32 at h;split at h
  .simp only[eJ,ef]at h;obtain⟨rfl,d⟩:=h;obtain⟨M,i⟩:=dN d;have f:= @fU _ (Classical.propDecidable _) M;subst f;exact gZ (azz _ _) i K K
  .cases h
def abl:okB (oB zQ zW)=G:=by unfold okB;exact@fG _ (Classical.propDecidable _) K
def Tq:eo B 32:=ga f32
noncomputable abbrev PE:List (Nat×QF):=(32,F32)::(33,F33)::(34,F34)::GP
noncomputable abbrev YL:List Item:=gQ (dB f15) 1 []
abbrev Y5(i:Int):eZ:=[(2,.p (E (0,0))),(4,.p (E (2,0))),(5,.p (E (3,0))),(7,.p (E (4,0))),(8,.i .i64 i)]
noncomputable def HT:Nat->J3
  |0=>⟨0,0,0⟩
  |1=>⟨zQ,zW,1⟩
  |n+2=>qH (HM (jg (HT (n+1)))) (HM (jg ⟨zQ,zW,1⟩))
noncomputable def BQ:Nat->List V
  |0=>[]
  |n+1=>BQ n++jg (HT n)
noncomputable def RN:Nat->List Bool
  |0=>[]
  |n+1=>ed (Jr (jg (HT (n+1)))) (Jr (jg ⟨zQ,zW,1⟩))::RN n
def aGs(k:Nat):letI a:=oB zQ zW;(si [2,4,5,7,8] (fe (ep gz [] PE) f15.ntmps (E [2,3,4,5,6]) (E 2) 3000 [.code (dB f15)] ⟨fo 0 [.g (dg k),.g a],[],[],[]⟩))=(YL,Y5 63,[⟨.lit (dg k),28⟩,⟨.lit a,36⟩,⟨.lit IK.zero,36⟩,⟨.lit (BQ 16),67⟩,⟨.lit (we 0 0 0),66⟩],eb (RN 14++[okB a])):=I
section
def aOi(q:J3)(i:Nat)(p:List Int)(F:List V)(R H:dI):letI m:=(i:Int);letI h:Int:=U.i64.wrap (m.tdiv 8);letI v:=h.toNat;letI o:Int:=U.i64.wrap (4*m.tmod 8);letI a:Int:=(p.getD v 0).fdiv (2^min o.toNat 32);letI w:=jg q;letI n:List V:=jp 24 (kw 0 w);letI e:=jg (jj (HM n));letI s:=jg (jj (HM e));letI k:=jg (jj (HM s));letI c:List V:=jp 0 w++jg (jj (HM k))++kw (0+24) w;letI S:dI:=⟨.ws .u32 p,28⟩;letI d:dE:=[S,R,H,⟨.lit F,67⟩,⟨.lit w,66⟩];letI l:Int:=eA BinOp.and .u32 a 15;letI t:Nat:=dH 0 l.toNat 24;letI f:List V:=jp 24 (kw t F);letI j:List V:=jp 24 (kw 0 c);letI r:=qH (HM j) (HM f);letI u:Bool:=ek 5 d;letI C:Prop:=24=24/\0+24<=24;letI b:V:= .i .i64 m;(Av [2,4,5,7,8] (fe (ep gz [] PE) f15.ntmps N (E 2) 300 YL ⟨Y5 (i:Int),d,[G],[]⟩))=(YL,[(2,.p (E (0,0))),(4,.p (E (2,0))),(5,.p (E (3,0))),(7,.p (E (4,0))),(8,.i .i64 (U.i64.wrap (m-1)))],[S,R,H,⟨.lit F,67⟩,⟨.lit (dg r.x++(dg r.y++dg r.z)),66⟩],[decide C,ed (ed (ed (Jr j) (Jr f)) (ek 5 (d.set 4 ⟨.lit c,66⟩))) (fZ 5 ((46,.g f)::(45,.p (E (3,t)))::(44,.i .u32 l)::(43,.i .u32 a)::(42,.i .i64 o)::(41,.i .i64 (m.tmod 8))::(40,b)::(39,.i .u32 (p.getD v 0))::(38,.p (E (0,v)))::(37,.i .i64 h)::(36,b)::(35,.g j)::(34,.g (jg (jj (HM k))))::(33,.g k)::(32,.g s)::(31,.g e)::(30,.g n)::(27,.b (D (m≥0)))::(26,b)::Y5 m)),D (t+24<=F.length),D (0<=l/\eA BinOp.and .u32 a (15:Int)<16),D (0<=o),G,D (v<p.length),D (0<=h/\h<8),G,D (24<=24),decide C,ed (Jr k) u,ed (Jr s) u,ed (Jr e) u,ed (Jr n) u,G,G]):=I
def afr(R:Nat->Option Nat):gf R PE:=⟨⟨Tq,Z4 R⟩,⟨RF,agw R⟩,⟨IJ,Tv R⟩,NL R⟩
def OKT:ji B (ep gz [] PE):=gy dD (afr gz)
def Vx:Dx ⟨zQ,zW,1⟩:=⟨J,J,J⟩
def OT(n:Nat):Bq (n+2)=qH (Bq (n+1)) ⟨zQ,zW,1⟩:=rfl
def xK: ∀n,HT n=Bq n/\Dx (Bq n)
  |0=>⟨K,QQ⟩
  |1=>⟨K,Vx⟩
  |n+2=>by
   obtain⟨M,S⟩:=xK (n+1);have e:HT (n+2)=qH (HM (jg (HT (n+1)))) (HM (jg ⟨zQ,zW,1⟩)):=by rw[HT]
   rw[e,M,ng S,ng Vx,OT];exact⟨K,MH S Vx⟩
def adx(q:J3):(jg q).length=24:=rfl
def CJ: ∀n,(BQ n).length=24*n
  |0=>rfl
  |n+1=>by rw[BQ,gw,CJ n,adx];omega
def Is: ∀(n d:Nat),d<n->((BQ n).drop (d*24)).take 24=jg (HT d)
  |0,d,h=>O
  |n+1,d,h=>by
   have f:=CJ n;rw[BQ];by_cases z:d<n
   .rw [S3 O,Km (by rw[jK];omega)];exact Is n d z
   .obtain rfl:d=n:=O;rw[s6,sV O,f,(O:d*24-24*d=0)];rfl
def Nx: ∀n,eb (RN n++[okB (oB zQ zW)])=G
  |0=>by rw[RN,abl];rfl
  |n+1=>by rw[RN,ym,dX];refine⟨?_,Nx n⟩;rw[(xK (n+1)).1,zN (xK (n+1)).2,zN Vx];rfl
def aoy{y:Nat}(h:y<4294967296):eA .and .u32 (y:Int) 15=((y%16:Nat):Int):=pT .u32 32 4 y K K J h
def Xg(x j:Nat)(h:j+4<=32):x%2^32/2^j%2^4=x/2^j%2^4:=by
  apply Nat.eq_of_testBit_eq;intro b;rw[Dn,Dn,JU,JU,Dn];by_cases H:b<4
  .have:D (b+j<32)=G:=gp;rw[this,Dd]
  .simp [H]
def ach(k i:Nat)(g:i<64):eA .and .u32 (((fY k).getD (U.i64.wrap ((i:Int).tdiv 8)).toNat 0).fdiv (2^min (U.i64.wrap (4*(i:Int).tmod 8)).toNat 32)) 15=((k/16^i%16:Nat):Int):=by
  have M:(i:Int).tdiv 8=((i/8:Nat):Int):=by rw[FE O];rfl
  have S:(i:Int).tmod 8=((i%8:Nat):Int):=by rw[Kl O];rfl
  have l:U.i64.wrap ((i/8:Nat):Int)=((i/8:Nat):Int):=iy O;have u:U.i64.wrap (4*((i%8:Nat):Int))=((4*(i%8):Nat):Int):=jw;rw[M,S,l,u,dU,dU,H3 k O];have d:min (4*(i%8)) 32=4*(i%8):=O;rw[d];unfold fL
  have t:(((sh k (i/8)%4294967296:Nat):Int)).fdiv (2^(4*(i%8)))=((sh k (i/8)%4294967296/2^(4*(i%8)):Nat):Int):=by
    have:(2:Int)^(4*(i%8))=((2^(4*(i%8)):Nat):Int):=by push_cast;rfl
    rw[this,kB _ (Int.natCast_nonneg _)];rfl
  rw[t,aoy (KY (zg _ _) (iD _ J)),Tz]
  congr 1
  have:=Xg (k/2^(32*(i/8))) (4*(i%8)) O;have c:2^(4*i)=16^i:=by rw[Fx]
  rw[CK,<-nu,(O:32*(i/8)+4*(i%8)=4*i),c]at this;exact this
noncomputable abbrev TmM(k:Nat)(q:J3):dE:=[⟨.ws .u32 (fY k),28⟩,⟨.lit (oB zQ zW),36⟩,⟨.lit IK.zero,36⟩,⟨.lit (BQ 16),67⟩,⟨.lit (jg q),66⟩]
variable{Q:V->dE->Prop}
def Rz(a:Dx q){k i:Nat}(g:i<64)(next:Ev B (ep gz [] PE) 15 f15.ntmps 0 [] YL (Y5 ((i:Int)-1)) (TmM k (jI q (k/16^i%16))) Q):
    Ev B (ep gz [] PE) 15 f15.ntmps 0 [] YL (Y5 (i:Int)) (TmM k q) Q:=by
  have z:k/16^i%16<16:=iD _ J;obtain⟨o,j⟩:=xK (k/16^i%16);have m:=ach k i g;have b:=aOi q i (fY k) (BQ 16) ⟨.lit (oB zQ zW),36⟩ ⟨.lit IK.zero,36⟩;have e0:jp 24 (kw 0 (jg q))=jg q:=K;have T: ∀f:J3,jp 24 (kw 0 (jp 0 (jg q)++jg f++kw (0+24) (jg q)))=jg f:=λ_=>rfl
  have e:dH 0 (k/16^i%16) 24=(k/16^i%16)*24:=aLq;have s:=Is 16 (k/16^i%16) z;refine KX (eB OKT) b ?_ ?_
  .have M:(i:Int).tdiv 8=((i/8:Nat):Int):=by rw[FE O];rfl
   have l:U.i64.wrap ((i/8:Nat):Int)=((i/8:Nat):Int):=iy O;have S:(i:Int).tmod 8=((i%8:Nat):Int):=by rw[Kl O];rfl
   have u:U.i64.wrap (4*((i%8:Nat):Int))=((4*(i%8):Nat):Int):=jw;have w:(fY k).length=8:=K;have c:(BQ 16).length=384:=CJ 16;simp only[m,dU,e,s,o,e0,T,ng a,ng (qV _),zN a,zN (qV _),zN j];simp only[M,S,l,u,dU,w,c,dX];refine⟨?_,?_,?_,?_,?_,?_,?_,?_,?_,?_,?_,?_,?_,?_,?_,?_⟩
   all_goals first|exact dD|exact⟨dD,dD,K⟩ |(rw[eG];omega) |kernel_rfl
  .rw [m,dU,e,s,o,e0,ng a,ng (qV _),ng (qV _),ng (qV _),T,ng (qV _),ng j,iy O];exact next
def aId(x y z:Nat)(R S F:dI):letI a:V:= .i .u32 0;letI c:=dg x++(dg y++dg z);(mW (ep gz [] PE) (eC (ep gz [] PE) f15.ntmps 100 [4,48] YL ⟨Y5 (-1),[R,S,⟨.lit IK.zero,36⟩,F,⟨.lit (we x y z),66⟩],[],[]⟩))=(E (35,([.g c],E 49)),dF 13 2 (dB f15) [],[(4,.p (E (2,0))),(48,.g c)],[R,S,⟨.lit [a,a,a,a,a,a,a,a,a,a,a,a,a,a,a,a,.b A],36⟩,F,⟨.lit c,66⟩],[G]):=I
def aEb(v:List V)(x y:Nat)(R S F H:dI):letI a:List V:=dg x++(dg y++[.b A]);(runM (ep gz [] PE) f15.results.toList (fe (ep gz [] PE) f15.ntmps N N 200 (dF 13 2 (dB f15) []) ⟨[(49,.g (oB x y)),(4,.p (E (2,0)))],[R,S,⟨.lit IK.zero,36⟩,F,H],[],[]⟩))=(G,E (.g a,G),[R,S,⟨.lit a,36⟩,F,H],[G]):=I
noncomputable def qi(k:Nat):Nat->J3->J3
  |0,q=>q
  |i+1,q=>qi k i (jI q (k/16^i%16))
def Sm{d:Nat}(z:d<16):Dx (jI q d):=MH (qV _) (xK d).2
def NO{k:Nat}: ∀(i:Nat)(q:J3),i<=64->Dx q->(Dx (qi k i q)->Ev B (ep gz [] PE) 15 f15.ntmps 0 [] YL (Y5 (-1)) (TmM k (qi k i q)) Q)->
    Ev B (ep gz [] PE) 15 f15.ntmps 0 [] YL (Y5 ((i:Int)-1)) (TmM k q) Q
  |0,q,_,z,h=>h z
  |i+1,q,g,z,h=>by rw[(O:((i+1:Nat):Int)-1=(i:Int))];exact Rz z O (NO i _ O (Sm (iD _ J)) h)
def Sv:eo B 35:=ga f35
def aAi{k:Nat}:letI a:J3:=qi k 64 ⟨0,0,0⟩;∀(o:a.z≠0),eM B gz 15 [.g (dg k),.g (oB zQ zW)] [] (λr m=>r= .g (oB (tC a) (aar a))/\m=[]):=by
  intro o;refine eV Y K ?_;refine dL _ f15 (FA (eB OKT) (aGs k) (Nx 14) ?_);refine pA 0 (k:= .u32) (l:=fY k) K ?_;refine NO (k:=k) 64 ⟨0,0,0⟩ (eT _) QQ λx=>?_
  have b:=aId (qi k 64 ⟨0,0,0⟩).x (qi k 64 ⟨0,0,0⟩).y (qi k 64 ⟨0,0,0⟩).z ⟨.ws .u32 (fY k),28⟩ ⟨.lit (oB zQ zW),36⟩ ⟨.lit (BQ 16),67⟩
  refine dY (eB OKT) b K K K Sv
    (Q1:=λr u=>r= .g (oB (tC (qi k 64 ⟨0,0,0⟩)) (aar (qi k 64 ⟨0,0,0⟩)))/\u=[⟨.ws .u32 (fY k),28⟩,⟨.lit (oB zQ zW),36⟩,⟨.lit IK.zero,36⟩,⟨.lit (BQ 16),67⟩,⟨.lit (we (qi k 64 ⟨0,0,0⟩).x (qi k 64 ⟨0,0,0⟩).y (qi k 64 ⟨0,0,0⟩).z),66⟩]) ?_ K ?_
  .exact gZ (azv x o) I K K
  rintro r u⟨rfl,rfl⟩_;refine⟨_,K,?_⟩;refine Ev.fq [49,4] ?_;exact kF (eB OKT) (aEb [] _ _ _ _ _ _) K K ⟨K,.take 0 Y Y K K⟩
end
abbrev BD:Nat:=115792089210356248756420345214020892766061623724957744567843809356293439045923
def I0:ByteArray:=⟨#[70,70,70,70,70,70,70,69,70,70,70,70,70,70,70,70,70,70,70,70,70,70,70,70,70,70,70,70,70,70,70,70,55,50,48,51,68,70,54,66,50,49,67,54,48,53,50,66,53,51,66,66,70,52,48,57,51,57,68,53,52,49,50,51]⟩
def VT:ByteArray:=⟨#[51,50,67,52,65,69,50,67,49,70,49,57,56,49,49,57,53,70,57,57,48,52,52,54,54,65,51,57,67,57,57,52,56,70,69,51,48,66,66,70,70,50,54,54,48,66,69,49,55,49,53,65,52,53,56,57,51,51,52,67,55,52,67,55]⟩
def YP:ByteArray:=⟨#[66,67,51,55,51,54,65,50,70,52,70,54,55,55,57,67,53,57,66,68,67,69,69,51,54,66,54,57,50,49,53,51,68,48,65,57,56,55,55,67,67,54,50,65,52,55,52,48,48,50,68,70,51,50,69,53,50,49,51,57,70,48,65,48]⟩
def OK0:ji B (ep gz [] []):=gy dD dD
def Vs:eM B gz 31 [.r (.string I0)] [] (λr m=>r= .g (dg BD)/\m=[]):=
  iP (C:=ep gz [] []) (eB OK0) f31 (i:=(E [0,1,2,3,4,5,6,7,9,10])) (j:=9000) (z:=[]) (o:=G) (a:=G) I K K I
def XD:eM B gz 31 [.r (.string VT)] [] (λr m=>r= .g (dg zQ)/\m=[]):=
  iP (C:=ep gz [] []) (eB OK0) f31 (i:=(E [0,1,2,3,4,5,6,7,9,10])) (j:=9000) (z:=[]) (o:=G) (a:=G) I K K I
def XS:eM B gz 31 [.r (.string YP)] [] (λr m=>r= .g (dg zW)/\m=[]):=
  iP (C:=ep gz [] []) (eB OK0) f31 (i:=(E [0,1,2,3,4,5,6,7,9,10])) (j:=9000) (z:=[]) (o:=G) (a:=G) I K K I
noncomputable def GV(s:ByteArray):Nat:= @ite _ (s=I0) (Classical.propDecidable _) BD (@ite _ (s=VT) (Classical.propDecidable _) zQ zW)
noncomputable def okH(s:ByteArray):Bool:= @decide (s=I0∨s=VT∨s=YP) (Classical.propDecidable _)
noncomputable def F31:QF:=λargs m=>match args with
  |[.r (.string s)]=>E (.g (dg (GV s)),ed (okH s) (ek m.length m))
  |_=>N
def JH{s t:ByteArray}(h:s.data.toList≠t.data.toList):s≠t:=λe=>h (by rw[e])
def aGg:VT≠I0:=JH J
def aCj:YP≠I0:=JH J
def aNm:YP≠VT:=JH J
def Rv:GV I0=BD:=by unfold GV;rw[if_pos K]
def Sg:GV VT=zQ:=by unfold GV;rw[if_neg aGg,if_pos K]
def SA:GV YP=zW:=by unfold GV;rw[if_neg aCj,if_neg aNm]
def KI{s:ByteArray}(h:s=I0∨s=VT∨s=YP):okH s=G:=by unfold okH;exact@fG _ (Classical.propDecidable _) h
def aey(R:Nat->Option Nat):oR B R 31 F31:=by
  refine gD λargs m r h=>?_
  unfold F31 at h;split at h
  .simp only[eJ,ef]at h;obtain⟨rfl,d⟩:=h;obtain⟨M,i⟩:=dN d;rcases@fU _ (Classical.propDecidable _) M with rfl|rfl|rfl
   .rw [Rv];exact gZ Vs i K K
   .rw [Sg];exact gZ XD i K K
   .rw [SA];exact gZ XS i K K
  .cases h
def Sf:eo B 31:=ga f31
noncomputable abbrev L31:List (Nat×QF):=[(31,F31)]
def att:ji B (ep gz [] L31):=gy dD ⟨⟨Sf,aey gz⟩,dD⟩
def amn:eM B gz 13 [] [] (λr m=>r= .g (dg BD)/\m=[]):=by rw[<-Rv];exact iP (C:=ep gz [] L31) (eB att) f13 (i:=N) (j:=100) (z:=[]) (o:=G) (a:=eb [okH I0]) I (by rw[KI (.inl K)];rfl) K I
def aug:eM B gz 16 [] [] (λr m=>r= .g (oB zQ zW)/\m=[]):=by
  have e:oB zQ zW=oB (GV VT) (GV YP):=by rw[Sg,SA]
  rw[e];exact iP (C:=ep gz [] L31) (eB att) f16 (i:=N) (j:=100) (z:=[]) (o:=G) (a:=eb [okH YP,okH VT]) I (by rw[KI (.inr (.inr K)),KI (.inr (.inl K))];rfl) K I
def iI(v j r:Nat):Int:=fL v j/256^r%256
def bL(v:Nat):List Int:=[iI v 7 3,iI v 7 2,iI v 7 1,iI v 7 0,iI v 6 3,iI v 6 2,iI v 6 1,iI v 6 0,iI v 5 3,iI v 5 2,iI v 5 1,iI v 5 0,iI v 4 3,iI v 4 2,iI v 4 1,iI v 4 0,iI v 3 3,iI v 3 2,iI v 3 1,iI v 3 0,iI v 2 3,iI v 2 2,iI v 2 1,iI v 2 0,iI v 1 3,iI v 1 2,iI v 1 1,iI v 1 0,iI v 0 3,iI v 0 2,iI v 0 1,iI v 0 0]
def S1(a b c d:Int):Int:=eA .or .u32 (eA .or .u32 (eA .or .u32 (eA .or .u32 0 (U.u32.wrap (U.u32.wrap a*16777216))) (U.u32.wrap (U.u32.wrap b*65536))) (U.u32.wrap (U.u32.wrap c*256))) (U.u32.wrap (U.u32.wrap d*1))
def Ft(v j:Nat):Int:=S1 (iI v j 3) (iI v j 2) (iI v j 1) (iI v j 0)
def Jh(a b:Nat)(t:a<2^32)(H:b<2^32):eA .or .u32 (a:Int) (b:Int)=((a|||b:Nat):Int):=by have h:=JT t H;show U.u32.wrap ((BitVec.ofInt 32 a|||BitVec.ofInt 32 b).toNat:Int)=_;rw[KU,jG _ _ t,jG _ _ H,wa];omega
def ajn(a b c d:Nat)(t:a<256)(H:b<256)(s:c<256)(g:d<256):S1 a b c d=((a*16777216+b*65536+c*256+d:Nat):Int):=by
  unfold S1
  have e: ∀(x m:Nat),x*m<4294967296->x<256->U.u32.wrap (U.u32.wrap (x:Int)*(m:Int))=((x*m:Nat):Int):=λx m h S=>by
    have M:U.u32.wrap (x:Int)=x:=by rw[wa];omega
    rw[M,<-lJ,wa];exact og O O
  have T:U.u32.wrap (U.u32.wrap (a:Int)*16777216)=((a*16777216:Nat):Int):=e a 16777216 O t;have f:U.u32.wrap (U.u32.wrap (b:Int)*65536)=((b*65536:Nat):Int):=e b 65536 O H;have Q:U.u32.wrap (U.u32.wrap (c:Int)*256)=((c*256:Nat):Int):=e c 256 O s;have F:U.u32.wrap (U.u32.wrap (d:Int)*1)=((d*1:Nat):Int):=e d 1 O g;rw[T,f,Q,F]
  have z:eA .or .u32 0 ((a*16777216:Nat):Int)=((a*16777216:Nat):Int):=by have:=Jh 0 (a*16777216) O O;rw[Nat.zero_or]at this;exact this
  rw[z,Jh _ _ O O]
  have R:a*16777216|||b*65536=a*16777216+b*65536:=by have:=ud (i:=24) (b:=b*65536) O a;rw[(O:2^24*a=a*16777216)]at this;exact this.symm
  rw[R,Jh _ _ O O]
  have L:(a*16777216+b*65536) |||c*256=a*16777216+b*65536+c*256:=by have:=ud (i:=16) (b:=c*256) O (a*256+b);rw[(O:2^16*(a*256+b)=a*16777216+b*65536)]at this;exact this.symm
  rw[L,Jh _ _ O O]
  have o:(a*16777216+b*65536+c*256) |||(d*1)=a*16777216+b*65536+c*256+d:=by have:=ud (i:=8) (b:=d) O (a*65536+b*256+c);rw[(O:2^8*(a*65536+b*256+c)=a*16777216+b*65536+c*256)]at this;rw[jq];exact this.symm
  rw[o]
def FJ(v j:Nat):Ft v j=fL v j:=by
  have z:=nO v j;obtain⟨x,L⟩:=fy z.1;unfold Ft iI;rw[L]
  have f: ∀r:Nat,((x:Int)/256^r%256)=((x/256^r%256:Nat):Int):=λr=>by
    have:(256:Int)^r=((256^r:Nat):Int):=by push_cast;rfl
    rw[this];omega
  rw[f,f,f,f,ajn _ _ _ _ O O O O];simp only[xq,Cj,Nat.pow_one,(J:256^2=65536),(J:256^3=16777216)];omega
def kG{P:Program}{C:fw}{R:Nat->Option Nat}{f:FuncId}{args:List V}{H M:dE}(c:RD P C)(fn:Func)(i:Option (List Nat))(j:Nat)(z:List Bool){o b:Bool}(h:(match fe C fn.ntmps i N j [.code (dB fn)] ⟨fo 0 args,H,z,[]⟩with|(v,g)=>(atEnd v,sI C g.e g.m fn.results.toList,g.m.take H.length,eb g.ob))=(G,E (r,o),M,b))(F:b=G)(m:o=G)(s:M.length=H.length)(d:ek H.length M=G)(y:r.wf H.length=G)(T:C.mw=R:=by rfl)(a:P.funcs[f]?=E fn:=by kernel_rfl)(n:fn.body=E (dB fn):=by kernel_rfl)(e:Nat.ble args.length fn.ntmps=G:=by kernel_rfl):eM P R f args H (λk q=>k=r/\q=M):=by
  refine eV O y ?_;refine eM.of T a n e ?_;generalize L:fe C fn.ntmps i N j [.code (dB fn)] ⟨fo 0 args,H,z,[]⟩=x at h;obtain⟨v,g⟩:=x;simp only[ef]at h;obtain⟨p,S,l,u⟩:=h
  have w:H.length<=g.m.length:=by have:=kC List.length l;rw[gR]at this;omega
  refine mX c (d:=a) (i:=i) (j:=j) (z:=z) (o:=o) (L:=b) (u:=g.m) ?_ F m ⟨K,.take H.length (eT _) w l d⟩;rw[L];show(atEnd v,sI C g.e g.m fn.results.toList,g.m,eb g.ob)=_;rw[p,S,u]
def arv{v F:Nat}{y:List Int}{ty:es}:letI a:dE:=[⟨.ws .u8 (bL v++y),ty⟩];eM B gz 27 [.s (E (0,0)) 32 F] a (λr m=>r= .g (dg v)/\m=a):=by
  have e:dg v=[.i .u32 (Ft v 0),.i .u32 (Ft v 1),.i .u32 (Ft v 2),.i .u32 (Ft v 3),.i .u32 (Ft v 4),.i .u32 (Ft v 5),.i .u32 (Ft v 6),.i .u32 (Ft v 7)]:=by simp only[FJ];rfl
  rw[e];exact kG (C:=ep gz [] []) (eB OK0) f27 (E [0,2,3,4,5,7,8]) 9000 [] (o:=G) (b:=G) I K K K K I
end Go.Proofs.YtiggidfngfkanaaGreatDoor
