/- FnPacked, part 3. No condition. -/
import Derived.Test.YtiggidfngfkanaaGreatDoorW2
namespace Go.Proofs.YtiggidfngfkanaaGreatDoor
open Go
set_option maxRecDepth 100000
set_option maxHeartbeats 4000000
set_option linter.all false
open Bool renaming false->A, true->G
open Go renaming IntKind->U, TypeId->es, Value->ip, World->ii
open List renaming replicate->lc
open Option renaming none->N, some->E
variable{fn:Func}{f g:FuncId}{v:Int}{z:List Bool}{t:List Item}{T:List Oper}{args:List V}{b i j n:Nat}{l q s:Nat->Nat}{R:Nat->Option Nat}{d:Option Tmp}{P:Program}{r:V}{Q Q1:V->dE->Prop}{M m u:dE}{x:dI}{e:eZ}{ty:es}{C:fw}{S w:ii}
def fo:Nat->List V->eZ
  |_,[]=>[]
  |i,v::r=>(i,v)::fo (i+1) r
def zE(e:eZ):List ResultVar->Option (List V)
  |[]=>E []
  | .tmp t::r=>match e.get t,zE e r with
    |some v,E L=>E (v::L)
    |_,_=>N
  |_=>N
def Fq(e:eZ)(p:List ResultVar):Option V:=
  match zE e p with
  |some [v]=>E v
  |some l=>E (.t l)
  |none=>N
def atEnd:List Item->Bool
  |[]=>G
  | .code .ret::_=>G
  |_=>A
def qW(C:fw)(n:Nat)(i:Option (List Nat))(j:Nat)(b:Code)(res:List ResultVar)(args:List V)(m:dE)(z:List Bool):Option (V×dE×List Bool):=
  match et C n i j [.code b] ⟨fo 0 args,m,z,[]⟩with
  |(t,s)=>bif atEnd t&&Nat.ble args.length n then(match Fq s.e res with
   |some r=>E (r,s.m,s.ob)
   |none=>N)else N
def HW: ∀(l:List V)(i t:Nat)(v:V),(fo i l).get t=E v->i<=t/\l[t-i]?=E v
  |[],_,_,_,h=>by cases h
  |x::r,i,t,v,h=>by
   simp only[fo,eZ.get]at h;cases H:Nat.beq i t with
   |true=>
    rw[H]at h;cases h;have:=iB H;subst this;simp
   |false=>
    rw[H]at h;have a:i≠t:=λe=>by subst e;simp at H
    obtain⟨M,S⟩:=HW r (i+1) t v h;refine⟨O,?_⟩;rw[(O:t-i=(t-(i+1))+1),kz];exact S
def ME(q:Nat->Nat)(args:List V)(k:Nat)(d:List Deferred):ik q (fo 0 args) {tmps:=(dZ q args).toArray++Array.replicate k undef,defers:=d}:=by intro t v h;obtain⟨_,S⟩:=HW args 0 t v h;simp only[jo]at S;have r:t<args.length:=(fQ.1 S).1;rw[Array.getElem?_append_left (by simpa[gC]using r)];simp[vV S]
def FC(tmps:Array ip):ResultVar->Sem ip
  | .tmp t=>pure (tmps.getD t undef)
  | .cell a t=>do loadVar t (<-asAddr (tmps.getD a undef))
def CC(fn:Func)(tmps:Array ip):
    results fn tmps=(do let L<-fn.results.mapM (FC tmps);pure (if h:L.size=1 then L[0]else .tuple L):Sem ip):=by
  unfold results
  have:(λ(x:ResultVar)=>(match x with
    | .tmp t=>pure (tmps.getD t undef)
    | .cell a t=>do loadVar t (<-asAddr (tmps.getD a undef)):Sem ip))=FC tmps:=by
    funext x;cases x<;>rfl
  rw[<-this];rfl
def EJ{a:Act}(j:ik q e a): ∀{p:List ResultVar}{L:List V},zE e p=E L->
    (p.mapM (FC a.tmps)).run P w= .ok (dZ q L) w
  |[],L,h=>by cases h;rfl
  | .tmp t::r,L,h=>by
    simp only[zE]at h;split at h
    .rename_i v x M S;cases h;have:=j t v M;simp only[Mq,FC,fr,iV,gv,EJ j S,dZ];simp[Rd,this]
    .cases h
  | .cell _ _::r,L,h=>by simp[zE]at h
def Ci{a:Act}{v:V}(j:ik q e a)(h:Fq e fn.results.toList=E v):
    (results fn a.tmps).run P w= .ok (v.ee q) w:=by
  have b: ∀L,zE e fn.results.toList=E L->(results fn a.tmps).run P w= .ok (if h:(dZ q L).toArray.size=1 then(dZ q L).toArray[0]else .tuple (dZ q L).toArray) w:=by
    intro L c;have M:=EJ (P:=P) (w:=w) j c
    have S:(fn.results.mapM (FC a.tmps)).run P w= .ok (dZ q L).toArray w:=by have T:fn.results=fn.results.toList.toArray:=Y;rw[T,Uv,Sem.run_map,M];rfl
    rw[CC,fr,S];rfl
  unfold Fq at h;split at h
  .rename_i u F;cases h;rw[b _ F];simp[dZ]
  .rename_i l i f;cases h;rw[b _ f]
   have: ¬(dZ q l).toArray.size=1:=by
     simp only[tN,gC];intro M
     match l,M,i with
     |[x],_,i=>exact i x K
   rw[dif_neg this];rfl
  .cases h
def JK{c:Code}{i:Option (List Nat)}{b:List Bool}{k:List Bool}(L:RD P C)(d:P.funcs[f]?=E fn)(H:fn.body=E c)(y:jA q m w)(p:Gl q C m.length)(h:qW C fn.ntmps i j c fn.results.toList args m b=E (r,u,k))(F:eb k=G):
    Calls P f (dZ q args).toArray w λe S=> ∃l:Nat->Nat,qE q m w l u S/\e= .returned (r.ee l):=by
  unfold qW at h;split at h;rename_i t s n;cases a:(atEnd t&&Nat.ble args.length fn.ntmps)with
  |false=>rw[a]at h;cases h
  |true=>
   rw[a]at h;simp only[iv]at a;obtain⟨a,x⟩:=a;have x:=mi x;simp only[gq]at h;split at h
   .rename_i v Q;simp only[eJ,ef]at h;obtain⟨rfl,rfl,rfl⟩:=h;refine rC d H ?_;refine BL L j (s:=⟨fo 0 args,m,b,[]⟩) y ?_ p ?_ n F ?_
    .have:=ME q args (fn.ntmps-(dZ q args).toArray.size) [];exact this
    .simp only[Mb,tN,gC,M3];omega
    .intro l o S g;have M:=Ci (P:=P) (w:=S) (fn:=fn) g.env Q;have z:o.defers=[]:=g.defers
     match t,a with
     |[],_=>exact vk d M z ⟨l,g.ext,K⟩
     | .code .ret::_,_=>exact vl d M z ⟨l,g.ext,K⟩
   .cases h
def j5(Q:Nat)(d:TypeDesc)(s:List ip):TD:=⟨Q,Gd d,d,s.map ofConst⟩
def DR(q:Nat->Nat)(l:List ip):dZ q (l.map ofConst)=l:=by
  induction l with
  |nil=>rfl
  |cons x r v=>simp only[nA,dZ,yJ,v]
def fz.of{t Q:Nat}{d:TypeDesc}{s:List ip}(a: ∃k,P.depth=k+2)(F:P.underlying t=E d)(g:(P.info? t).map (λi=>(i.size,Nat.ble i.bytes 65536,i.zero.map (λz=>z.cells.toList)))=E (Q,G,E s)):fz P t (j5 Q d s):=by
  refine⟨a,F,?_,K⟩;cases h:P.info? t with
  |none=>rw[h]at g;cases g
  |some i=>
   rw[h]at g;simp only[oQ,eJ,ef]at g;obtain⟨M,H,S⟩:=g;cases o:i.zero with
   |none=>rw[o]at S;cases S
   |some z=>
    rw[o]at S;simp only[oQ,eJ]at S;refine⟨i,K,M,mi H,z,o,λq=>?_⟩;simp only[j5,DR];rw[<-S]
def Hc:List (Nat×TD)->Nat->Option TD
  |[],_=>N
  |x::r,t=>bif Nat.beq x.1 t then E x.2 else Hc r t
def TH(P:Program):List (Nat×TD)->Prop
  |[]=>True
  |x::r=>fz P x.1 x.2/\TH P r
def EW: ∀{l:List (Nat×TD)},TH P l-> ∀t d,Hc l t=E d->fz P t d
  |[],_,_,_,h=>by cases h
  |x::r,a,t,d,h=>by
   simp only[Hc]at h;cases H:Nat.beq x.1 t with
   |true=>
    rw[H]at h;cases h;have:=iB H;subst this;exact a.1
   |false=>rw[H]at h;exact EW a.2 t d h
structure Kt(b:Nat)(ρ:Nat->Nat)(m:dE)(w:ii)(ρ':Nat->Nat)(m':dE)(w':ii):Prop where
  ln: ∀i,i<b->ρ' i=ρ i
  len:b<=m'.length
  new: ∀x,kW ρ' m' w' x->w.heap.size<=x∨kW ρ m w x
  rel:jA ρ' m' w'
  iY:nG (kW ρ m w) w w'
def Kt.whole{m':dE}(h:Kt m.length q m w l m' S):qE q m w l m' S:=⟨h.ln,h.len,h.new,h.rel,h.iY⟩
def qE.Zf{d:Nat->Nat}{m' j:dE}{z:ii}(H:b<=m.length)(h:qE q m w l m' S)(F:Kt b l m' S d j z):Kt b q m w d j z:=by
  refine⟨λi g=>by rw[F.ln i g,h.ln i O],F.len,λx L=>?_,F.rel,ur h.iY F.iY h.new⟩;rcases F.new x L with M|M
  .exact .inl (mh h.iY.size M)
  .exact h.new x M
def Kt.refl(H:b<=m.length)(y:jA q m w):Kt b q m w q m w:=
  ⟨λ_ _=>rfl,H,λ_ L=> .inr L,y,.refl _ _⟩
def yd(b:Nat)(q:Nat->Nat)(m:dE)(w:ii)(Q:V->dE->Prop)(i:Ending)(S:ii):Prop:=
  ∃l r m',Kt b q m w l m' S/\i= .returned (r.ee l)/\Q r m'
def yd.after{d:Nat->Nat}{a:dE}{y:ii}{i:Ending}(H:b<=m.length)(h:qE q m w d a y)(g:yd b d a y Q i S):yd b q m w Q i S:=
  let⟨l,r,m',L,j,z⟩:=g;⟨l,r,m',h.Zf H L,j,z⟩
def yd.mono{Q':V->dE->Prop}{i:Ending}(z: ∀r m',Q r m'->Q' r m')(g:yd b q m w Q i S):yd b q m w Q' i S:=
  let⟨l,r,m',L,j,h⟩:=g;⟨l,r,m',L,j,z _ _ h⟩
def eM(P:Program)(R:Nat->Option Nat)(f:FuncId)(args:List V)(m:dE)(Q:V->dE->Prop):Prop:=
  ∀q w,jA q m w->OQ q R m.length->Calls P f (dZ q args).toArray w (yd m.length q m w Q)
def eM.mono{Q':V->dE->Prop}(h:eM P R f args m Q)(z: ∀r m',Q r m'->Q' r m'):eM P R f args m Q':=
  λq w y p=>(h q w y p).mono λ_ _ g=>g.mono z
abbrev Ds:=List (FuncId×List V)
variable{H ds:Ds}
def UO(f:FuncId)(l:List ip):Deferred:=bif Nat.blt f 100000 then⟨.fn (.func f) #[],l.toArray⟩else⟨.fn (.func (f-100000)) l.toArray,#[]⟩
def qo(q:Nat->Nat)(ds:Ds):List Deferred:=ds.map λd=>UO d.1 (dZ q d.2)
def jv(m:Nat):Ds->Bool
  |[]=>G
  |d::r=>nd m d.2&&jv m r
def jE{m:Nat}(h: ∀i,i<m->l i=q i): ∀{ds:Ds},jv m ds=G->qo l ds=qo q ds
  |[],_=>rfl
  |d::r,a=>by
   have s:nd m d.2=G/\jv m r=G:=by simpa[jv]using a
   have:=jE h s.2;simp only[qo,nA]at this⊢;rw[this,lU h d.2 s.1]
section
variable(P:Program)(C:fw)(f:FuncId)(n b:Nat)
def Ev(ds:Ds)(t:List Item)(e:eZ)(m:dE)(Q:V->dE->Prop):Prop:=
  ∀q a w R,b<=m.length->jA q m w->ik q e a->Gl q C m.length->a.tmps.size=n->a.defers=qo q ds->(∀i S,yd b q m w Q i S->R i S)->nH P f t a w R
def PF(ds:Ds)(T F:List Oper)(k:List Item)(e:eZ)(m:dE)(Q:V->dE->Prop):Prop:=
  ∀
   q a w R,b<=m.length->jA q m w->ik q e a->Gl q C m.length->a.tmps.size=n->a.defers=qo q ds->(∀i S,yd b q m w Q i S->R i S)->
   wpList P T.toArray (λc o S=>c= .normal/\nH P f k o S R) F a w
end
section
variable{P:Program}{C:fw}{f:FuncId}{n b:Nat}{ds:Ds}{t t' k:List Item}{e e':eZ}{m m':dE}{Q Q':V->dE->Prop}
def Ev.mono(h:Ev P C f n b ds t e m Q)(c: ∀r m',Q r m'->Q' r m'):Ev P C f n b ds t e m Q':=
  λq a w R H y j p x z L=>h q a w R H y j p x z λ_ _ g=>L _ _ (g.mono c)
def Ev.eq(r:t=t')(j:e=e')(d:m=m')(h:Ev P C f n b ds t' e' m' Q):Ev P C f n b ds t e m Q:=by subst r;subst j;subst d;exact h
def Ev.fq(l:List Nat)(h:Ev P C f n b ds t (gN e l) m Q):Ev P C f n b ds t e m Q:=
  λq a w R H y j p x z L=>h q a w R H y (λt v c=>j t v (lT c)) p x z L
def Ev.Di{a o:Act}{R:Ending->ii->Prop}(h:Ev P C f n b ds t' e' m' Q)(H:b<=m.length)(d:jv m.length ds=G)(p:Gl q C m.length)(z:a.defers=qo q ds)(L: ∀i S,yd b q m w Q i S->R i S)(g:oz n q m a w e' m' l o S):nH P f t' o S R:=
  h l o S R (mh H g.len) g.rel g.env (p.kg g.len g.ln) g.size (by rw[g.defers,z,jE g.ln d]) λ_ _ c=>L _ _ (c.after H g.ext)
def Ev.run(c:RD P C)(j:Nat)(a:List Bool){i:List Bool}{q:List Bool}
    (h:et C n N j t ⟨e,m,a,[]⟩=(t',⟨e',m',q,i⟩))(F:eb i=G)(d:jv m.length ds=G)(R:Ev P C f n b ds t' e' m' Q):Ev P C f n b ds t e m Q:=
  λ_ _ _ _ H y l p x z L=>BL c j (s:=⟨e,m,a,[]⟩) y l p x h F λ_ _ _ g=>R.Di H d p z L g
def eC(C:fw)(n j:Nat)(l:List Nat)(t:List Item)(s:St):List Item×eZ×dE×List Bool:=
  match et C n N j t s with
  |(t',H)=>(t',gN H.e l,H.m,H.ob)
def Ev.go(c:RD P C)(j:Nat)(z:List Bool)(l:List Nat):letI a:List Item×eZ×dE×List Bool:=eC C n j l t ⟨e,m,z,[]⟩;∀(M:a.1=t')(S:a.2.1=e')(g:a.2.2.1=m'){s:List Bool}(u:a.2.2.2=s)(F:eb s=G)(d:jv m.length ds=G)(R:Ev P C f n b ds t' e' m' Q),Ev P C f n b ds t e m Q:=by intro M S g s u F d R;subst M;subst S;subst g;subst u;unfold eC at F R;generalize L:et C n N j t ⟨e,m,z,[]⟩=x at F R;obtain⟨v,⟨T,q,p,ob1⟩⟩:=x;exact Ev.run c j z L F d (Ev.fq l R)
def Ev.enter{x:Code}(h:Ev P C f n b ds (.code x:: .inLoop x::k) e m Q):Ev P C f n b ds (.inLoop x::k) e m Q:=
  λq a w R H y j p c z L=>ou (λ_ _=>step_inLoop) (h q a w R H y j p c z L)
def Ev.loop{x:Code}(h:Ev P C f n b ds (.code x:: .inLoop x::k) e m Q):Ev P C f n b ds (.code (.loop x)::k) e m Q:=
  λq a w R H y j p c z L=>ou (λ_ _=>step_loop) (h q a w R H y j p c z L)
def Ev.ret(c:P.funcs[f]?=E fn)(d:atEnd t=G)(y:Fq e fn.results.toList=E r)(o:Q r m):Ev P C f n b [] t e m Q:=by
  intro q a w R H S j p x z L;have M:=Ci (P:=P) (w:=w) (fn:=fn) j y;have T:a.defers=[]:=z;have g:=L (.returned (r.ee q)) w ⟨q,r,m,.refl H S,K,o⟩
  match t,d with
  |[],_=>exact vk c M T g
  | .code .ret::_,_=>exact vl c M T g
def eM.of{c:Code}(T:C.mw=R)(d:P.funcs[f]?=E fn)(H:fn.body=E c)(a:Nat.ble args.length fn.ntmps=G)(h:Ev P C f fn.ntmps m.length [] [.code c] (fo 0 args) m Q):eM P R f args m Q:=by
  subst T;intro q w y p;have s:args.length<=fn.ntmps:=mi a;refine rC d H (h q _ w _ (eT _) y ?_ p ?_ K λ_ _ g=>g)
  .have:=ME q args (fn.ntmps-(dZ q args).toArray.size) [];exact this
  .simp only[Mb,tN,gC,M3];omega
def PF.nil(h:Ev P C f n b ds k e m Q):PF P C f n b ds T [] k e m Q:=
  λq a w R H y j p x z L=>⟨K,h q a w R H y j p x z L⟩
def Ev.region{id:Nat}{T:Array Oper}(h:PF P C f n b ds T.toList T.toList k e m Q):Ev P C f n b ds (.code (.region id T A)::k) e m Q:=by intro q a w R H y j p x z L;refine yL (wp_region_list ?_);have:=h q a w R H y j p x z L;simpa using this
def Me(ht:iq P C)(hf:ji P C){R:Exit->Act->ii->Prop}(F:List Oper): ∀(l:List Oper){i:Nat}{q:Nat->Nat}{a:Act}{w:ii}{s H:St},
    jA q s.m w->ik q s.e a->Gl q C s.m.length->a.tmps.size=n->qO C n T l i s=E H->eb H.ob=G->
    (∀c L u,oz n q s.m a w H.e H.m c L u->wpList P T.toArray R F L u)->wpList P T.toArray R (l++F) a w
  |[],i,q,a,w,s,H,y,j,p,x,h,v,z=>by cases h;exact z _ _ _ (.refl y j x)
  |o::r,i,q,a,w,s,H,y,j,p,x,h,v,z=>by
   simp only[qO]at h;split at h
   .rename_i s1 h1;rw[ym];unfold wpList
    rcases NJ ht hf y j p x h1 (oJ h v) (wpList P T.toArray R (r++F)) R (λc L u g=>
      Me ht hf F r g.rel g.env (p.kg g.len g.ln) g.size h v λM ab aa g'=>z _ _ _ (g.trans g'))with⟨d,S⟩ |⟨d,S⟩
    .rw [if_pos d];exact .inl S
    .rw [if_neg (by rw[d];simp)];exact S
   .cases h
def PF.ops(r:iq P C)(v:ji P C){l F:List Oper}{c:St}(M:qO C n T l i ⟨e,m,[],[]⟩=E c)(u:eb c.ob=G)(d:jv m.length ds=G)(h:PF P C f n b ds T F k c.e c.m Q):PF P C f n b ds T (l++F) k e m Q:=by
  intro ρ a w R H y j p x z L;refine Me r v F l (s:=⟨e,m,[],[]⟩) y j p x M u λo a' S g=>?_
  exact h o a' S R (mh H g.len) g.rel g.env (p.kg g.len g.ln) g.size (by rw[g.defers,z,jE g.ln d]) λ_ _ q=>L _ _ (q.after H g.ext)
def ve(o:Op):Option (FuncId×List Operand):=
  match o with
  | .call {callee:= .value (.func g),args:=H,.. }=>E (g,H.toList)
  |_=>N
def PF.call{F:List Oper}{o:Oper}{H:List Operand}{v:List V}(p:ve o.op=E (g,H))(u:ia T e o=E G)(M:eo P g)(c:nX C e H=E v)(x:eM P C.mw g v m Q1)(s:fZ m.length e=G)(i:jv m.length ds=G)(h: ∀r m',Q1 r m'->m.length<=m'.length-> ∃e',fA n e o.dst r=E e'/\PF P C f n b ds T F k e' m' Q):PF P C f n b ds T (o::F) k e m Q:=by
  intro ρ a w R hb hr he S hn hd hR;unfold wpList;rw[if_pos (gg he u)];refine .inl ?_
  have j: ∃y,o.op= .call {callee:= .value (.func g),args:=H.toArray,argTypes:=y}:=by
    unfold ve at p;split at p
    .rename_i g' aa y L;simp only[eJ,ef]at p;obtain⟨rfl,rfl⟩:=p;exact⟨y,by rw[L]⟩
    .cases p
  obtain⟨y,L⟩:=j;unfold Oper.wp
  have q:(execOp a.eval o).run P w= .ok (.enter g (dZ ρ v).toArray) w:=by
    have h1:execOp a.eval o=callFunc g (#[]++H.toArray.map a.eval++ #[]):=by unfold execOp;rw[L];rfl
    rw[h1,gT M]
    congr 2
    apply nh;simp[<-jH he S c]
  rw[q,Am];refine(x ρ w hr S).mono ?_;rintro en w'⟨l,r,m',d,rfl,hq⟩;have L:=d.whole;obtain⟨e',z,hk⟩:=h r m' hq L.len;refine hk l _ w' R (mh hb L.len) L.rel ((he.kg s L.ln).put hn z) (S.kg L.len L.ln) (by rw[iH,hn]) (by rw[put_defers,hd,jE L.ln i]) λ_ _ z=>hR _ _ (z.after hb L)
def A5(o:Op):Option (FuncId×List Operand):=
  match o with
  | .defer {callee:= .value (.func g),args:=H,.. }=>bif Nat.blt g 100000 then E (g,H.toList)else N
  |_=>N
def B8{o:Op}{H:List Operand}(p:A5 o=E (g,H)):Nat.blt g 100000=G/\ ∃y,o= .defer {callee:= .value (.func g),args:=H.toArray,argTypes:=y}:=by
  unfold A5 at p;split at p
  .rename_i L a y;cases z:Nat.blt L 100000 with
   |false=>rw[z]at p;cases p
   |true=>
    rw[z]at p;simp only[gq,eJ,ef]at p;obtain⟨rfl,rfl⟩:=p;exact⟨z,y,Y⟩
  .cases p
def PF.defer{F:List Oper}{o:Oper}{H:List Operand}{i:List V}(l:A5 o.op=E (g,H))(u:ia T e o=E G)(c:nX C e H=E i)(s:fA n e o.dst (.t [])=E e')(h:PF P C f n b ((g,i)::ds) T F k e' m Q):PF P C f n b ds T (o::F) k e m Q:=by
  intro q a w R S y j p x M hR;unfold wpList;rw[if_pos (gg j u)];refine .inl ?_;obtain⟨z,aa,L⟩:=B8 l;unfold Oper.wp
  have v:H.toArray.map a.eval=(dZ q i).toArray:=by apply nh;simp[<-jH j p c]
  have d:(execOp a.eval o).run P w= .ok (.defer ⟨.fn (.func g) #[],(dZ q i).toArray⟩) w:=by unfold execOp;rw[L];simp[resolve,v,Act.eval,Deferred.ofValue]
  rw[d,UL];have r:undef=(V.t []).ee q:=by simp[V.ee,dZ,undef]
  rw[r];refine h q _ w R S y ?_ p ?_ ?_ hR
  .exact ik.put (a:={a with defers:=_::a.defers}) j x s
  .rw [iH];exact x
  .rw [put_defers];simp[qo,UO,z,M]
end
mutual
def V.iU(s:Nat->Nat):V->V
  | .i k n=> .i k n
  | .b x=> .b x
  | .p N=> .p N
  | .p (E a)=> .p (E (s a.1,a.2))
  | .s N l c=> .s N l c
  | .s (E a) l c=> .s (E (s a.1,a.2)) l c
  | .g l=> .g (ml s l)
  | .t l=> .t (ml s l)
  | .y t v=> .y t (V.iU s v)
  | .f g l=> .f g (ml s l)
  | .r v=> .r v
def ml(s:Nat->Nat):List V->List V
  |[]=>[]
  |x::H=>V.iU s x::ml s H
end
mutual
def sj(q s:Nat->Nat): ∀v:V,(v.iU s).ee q=v.ee (λk=>q (s k))
  | .i _ _=>rfl
  | .b _=>rfl
  | .p N=>rfl
  | .p (E _)=>rfl
  | .s N _ _=>rfl
  | .s (E _) _ _=>rfl
  | .g l=>by simp only[V.iU,V.ee,oe q s l]
  | .t l=>by simp only[V.iU,V.ee,oe q s l]
  | .y t v=>by simp only[V.iU,V.ee,sj q s v]
  | .f _ l=>by simp only[V.iU,V.ee,oe q s l]
  | .r _=>rfl
def oe(q s:Nat->Nat): ∀l:List V,dZ q (ml s l)=dZ (λk=>q (s k)) l
  |[]=>rfl
  |x::H=>by simp only[ml,dZ,sj q s x,oe q s H]
end
def eH.iU(s:Nat->Nat):eH->eH
  | .lit l=> .lit (ml s l)
  | .ws k l=> .ws k l
  | .int v=> .int v
  | .dead=> .dead
def dI.iU(s:Nat->Nat)(x:dI):dI:=⟨x.c.iU s,x.ty⟩
def Mj(q s:Nat->Nat)(x:dI):(x.iU s).obj q=x.obj (λk=>q (s k)):=by
  obtain⟨c,j⟩:=x;cases c with
  |lit l=>simp only[dI.obj,dI.iU,eH.iU,eH.list,oe]
  |ws k l=>simp only[dI.obj,dI.iU,eH.iU,kN]
  |int v=>rfl
  |dead=>rfl
def oA(s:Nat->Nat)(w:ii)(b c:Nat)(x:dI):fp w b (x.iU s) c↔fp w b x c:=by obtain⟨k,j⟩:=x;cases k<;>exact xN
def GY(q s:Nat->Nat)(w:ii)(b:Nat)(x:dI):uz q w b (x.iU s)↔uz (λk=>q (s k)) w b x:=by
  obtain⟨k,j⟩:=x;cases k with
  |lit l=>show w.heap[b]?=_↔w.heap[b]?=_;rw[Mj]
  |ws k l=>show w.heap[b]?=_↔w.heap[b]?=_;rw[Mj]
  |int v=>exact xN
  |dead=>exact xN
def mZ(n:Nat):eH->Bool
  | .lit l=>nd n l
  |_=>G
def ek(n:Nat):dE->Bool
  |[]=>G
  |x::r=>mZ n x.c&&ek n r
def Pw{a:Nat->Nat}(h: ∀i,i<n->a i=q i)(d:mZ n x.c=G):x.obj a=x.obj q:=by
  obtain⟨c,j⟩:=x;cases c with
  |lit l=>simp only[dI.obj,eH.list];rw[lU h l d]
  |ws k l=>simp only[dI.obj,kN]
  |int v=>rfl
  |dead=>rfl
def qC(h: ∀i,i<n->l i=q i)(d:mZ n x.c=G):uz l w b x↔uz q w b x:=by
  have e:=Pw h d;unfold uz;split
  .exact xN
  .exact xN
  .rw [e]
def m5: ∀{m:dE},ek n m=G-> ∀(i:Nat)(x:dI),m[i]?=E x->mZ n x.c=G
  |[],_,i,x,h=>by simp at h
  |y::r,d,i,x,h=>by
   have s:mZ n y.c=G/\ek n r=G:=by simpa[ek]using d
   cases i with
   |zero=>simp only[ph,eJ]at h;subst h;exact s.1
   |succ i=>simp only[kz]at h;exact m5 s.2 i x h
def sg(o:List Nat)(M:Nat)(k:Nat):Nat:=
  match o[k]? with
  |some i=>i
  |none=>M+(k-o.length)
def uv{o:List Nat}{M k:Nat}(h:o[k]?=E i):sg o M k=i:=by simp[sg,h]
def CH{o:List Nat}{M:Nat}(j:Nat):sg o M (o.length+j)=M+j:=by simp[sg]
def ft:dE->List Nat->dE->dE
  |m,i::c,x::H=>ft (m.set i x) c H
  |m,_,_=>m
def mz: ∀(m:dE)(c:List Nat)(H:dE),(ft m c H).length=m.length
  |m,[],_=>by cases‹dE› <;>rfl
  |m,_::_,[]=>rfl
  |m,i::c,x::H=>by rw[ft,mz,gU]
def sS: ∀(m:dE)(c:List Nat)(H:dE)(j:Nat),j∉c->(ft m c H)[j]?=m[j]?
  |m,[],H,j,_=>by cases H<;>rfl
  |m,_::_,[],j,_=>rfl
  |m,i::c,x::H,j,h=>by simp only[kh,not_or]at h;rw[ft,sS _ c H j h.2,lI (ra h.1)]
def Et: ∀(m:dE)(c:List Nat)(H:dE)(k i:Nat),c.Nodup->c.length<=H.length->c[k]?=E i->i<m.length->(ft m c H)[i]?=H[k]?
  |m,[],_,k,i,_,_,h,_=>by simp at h
  |m,_::_,[],k,i,_,f,_,_=>by simp at f
  |m,j::c,x::H,k,i,a,f,h,g=>by
   rw[ft];have d:=Aa.1 a;cases k with
   |zero=>
    simp only[ph,eJ]at h;subst h;rw[sS _ c H j d.1,qj g];rfl
   |succ k=>
    simp only[kz]at h⊢;exact Et _ c H k i d.2 (by simpa using f) h (by simpa using g)
def iC(s:Nat->Nat):dE->dE
  |[]=>[]
  |x::r=>x.iU s::iC s r
def uW(s:Nat->Nat)(m:dE):iC s m=m.map (dI.iU s):=by
  induction m with
  |nil=>rfl
  |cons x r v=>simp only[iC,v,nA]
def fW(m:dE)(o:List Nat)(e:dE):dE:=
  ft m o (iC (sg o m.length) e)++iC (sg o m.length) (e.drop o.length)
def sJ(m:dE)(s:Nat->Nat):List Nat->dE->Prop
  |[],[]=>True
  |i::c,x::H=>m[i]?=E (x.iU s)/\x.c.iQ=G/\sJ m s c H
  |_,_=>False
def uy: ∀{c:List Nat}{H:dE},sJ m s c H->c.length=H.length
  |[],[],_=>rfl
  |[],_::_,h=>h.elim
  |_::_,[],h=>h.elim
  |_::c,_::H,h=>by simp[uy h.2.2]
def uo: ∀{c:List Nat}{H:dE},sJ m s c H-> ∀(k i:Nat),c[k]?=E i-> ∃x,H[k]?=E x/\m[i]?=E (x.iU s)/\x.c.iQ=G
  |[],[],_,k,i,h=>by simp at h
  |[],_::_,h,_,_,_=>h.elim
  |_::_,[],h,_,_,_=>h.elim
  |j::c,x::H,g,k,i,h=>by
   cases k with
   |zero=>simp only[ph,eJ]at h;subst h;exact⟨x,K,g.1,g.2.1⟩
   |succ k=>simp only[kz]at h⊢;exact uo g.2.2 k i h
def EB{ax gl:Nat->Option Nat}{H:dE}(o:List Nat)(hx:sJ m (sg o m.length) o H)(hn:o.Nodup)(aJ: ∀g i,ax g=E i-> ∃j,o[i]?=E j/\gl g=E j)(hw:ek m.length m=G)(q:Nat->Nat)(w:ii)(hr:jA q m w)(hg:OQ q gl m.length):
    ∃
     v,jA v H w/\OQ v ax H.length/\dZ q (ml (sg o m.length) args)=dZ v args/\
     ∀en w',yd H.length v H w Q en w'->yd m.length q m w (λr m'=> ∃r0 f,Q r0 f/\H.length<=f.length/\r=r0.iU (sg o m.length)/\m'=fW m o f) en w':=by
  have am:=uy hx
  have aE: ∀k i,o[k]?=E i->i<m.length:=λk i R=>by obtain⟨x,_,P,_⟩:=uo hx k i R;exact(fQ.1 P).1
  let v:Nat->Nat:=λk=>q (sg o m.length k)
  have ap: ∀k,k<H.length-> ∃i,o[k]?=E i/\v k=q i/\i<m.length:=λk R=>by have h1:k<o.length:=O;exact⟨o[k],by simp[h1],by simp[v,sg,h1],aE k _ (by simp[h1])⟩
  have aD: ∀j,v (H.length+j)=w.heap.size+j:=λj=>by simp only[v];rw[<-am,CH,hr.next]
  have ay: ∀k z i:Nat,o[k]?=E i->o[z]?=E i->k=z:=λk z i h1 h2=>by
    obtain⟨h1,e1⟩:=fQ.1 h1;obtain⟨h2,e2⟩:=fQ.1 h2;have aB:=Qz.1 hn;rcases nf k z with h3|h3|h3
    .exact(aB k z h1 h2 h3 (by rw[e1,e2])).elim
    .exact h3
    .exact(aB z k h2 h1 h3 (by rw[e1,e2])).elim
  have ag: ∀k x,H[k]?=E x-> ∃i,o[k]?=E i/\v k=q i/\i<m.length/\m[i]?=E (x.iU (sg o m.length))/\x.c.iQ=G:=λk x R=>by obtain⟨i,a,e,ar⟩:=ap k (fQ.1 R).1;obtain⟨x',aA,d,ao⟩:=uo hx k i a;rw[R]at aA;cases aA;exact⟨i,a,e,ar,d,ao⟩
  have aG:jA v H w:=by
    refine⟨λk x R=>?_,λk z x x' c R t hl aC=>?_,λk R=>?_,aD⟩
    .obtain⟨i,a,e,_,d,_⟩:=ag k x R;rw[e];exact(GY q _ w _ x).1 (hr.cells i _ d)
    .obtain⟨i,a,e,_,d,_⟩:=ag k x R;obtain⟨i',av,e',_,an,_⟩:=ag z x' t;rw[e]at hl;rw[e']at aC;have:=hr.inj i i' _ _ c d an ((oA _ w _ c x).2 hl) ((oA _ w _ c x').2 aC);subst this;exact ay k z i a av
    .obtain⟨i,_,e,a⟩:=ap k R;rw[e];exact hr.lt i a
  have ah: ∀c,kW v H w c-> ∃i y,i∈o/\m[i]?=E y/\fp w (q i) y c:=λc hc=>by
    have go: ∀k x,H[k]?=E x->fp w (v k) x c-> ∃i y,i∈o/\m[i]?=E y/\fp w (q i) y c:=λk x R F=>by obtain⟨i,a,e,_,d,_⟩:=ag k x R;rw[e]at F;exact⟨i,_,BC a,d,(oA _ w _ c x).2 F⟩
    rcases hc with⟨k,R,rfl⟩ |⟨k,x,R,F⟩
    .have t:H[k]?=E H[k]:=by simp[R]
     obtain⟨_,_,_,_,_,hs⟩:=ag k _ t;exact go k _ t (fp.self hs)
    .exact go k x R F
  have M: ∀c,kW v H w c->kW q m w c:=λc hc=>by obtain⟨i,y,_,d,F⟩:=ah c hc;exact .inr ⟨i,y,d,F⟩
  have al: ∀i x c,i∉o->m[i]?=E x->fp w (q i) x c-> ¬kW v H w c:=λi x c a d F hF=>by obtain⟨i',y,av,an,aH⟩:=ah c hF;have:=hr.inj i i' x y c d an F aH;subst this;exact a av
  have aI:OQ v ax H.length:=by intro g i a;obtain⟨j,hj,aK⟩:=aJ g i a;have:=hg g j aK;refine⟨by rw[<-am];exact(fQ.1 hj).1,?_⟩;simp only[v,uv hj];exact this.2
  refine⟨v,aG,aI,oe q _ args,?_⟩;rintro en w'⟨C,r0,f,aw,rfl,hq⟩;have h:=aw.whole;let l:Nat->Nat:=λi=>if i<m.length then q i else C (o.length+(i-m.length))
  have ao:=h.len
  have aj: ∀k,l (sg o m.length k)=C k:=by
    intro k;by_cases R:k<H.length
    .obtain⟨i,a,e,ar⟩:=ap k R;rw[uv a];simp only[l,ar,oH];rw[h.ln k R,e]
    .obtain⟨j,rfl⟩: ∃j,k=o.length+j:=⟨k-o.length,O⟩
     rw[CH];simp only[l];rw[if_neg O]
     congr 1;omega
  have aa:(λk=>l (sg o m.length k))=C:=funext aj
  have T:(fW m o f).length=m.length+(f.length-o.length):=by simp[fW,mz,uW]
  have n: ∀i x,(fW m o f)[i]?=E x->(i<m.length/\i∉o/\m[i]?=E x)∨(∃k y,f[k]?=E y/\sg o m.length k=i/\x=y.iU (sg o m.length)):=by
    intro i x S;unfold fW at S;by_cases s:i<m.length
    .rw [oF (by rw[mz];exact s)]at S;by_cases a:i∈o
     .obtain⟨k,R⟩:=Zy.1 a;rw[Et m o _ k i hn (by rw[uW,pc];omega) R s]at S;rw[uW,uf,PO]at S;obtain⟨y,hy,rfl⟩:=S;exact .inr ⟨k,y,hy,uv R,K⟩
     .rw [sS m o _ i a]at S;exact .inl ⟨s,a,S⟩
    .rw [pP (by rw[mz];omega),mz]at S;rw[uW,uf,PO]at S;obtain⟨y,hy,rfl⟩:=S;rw[jY]at hy;refine .inr ⟨o.length+(i-m.length),y,hy,?_,K⟩;rw[CH];omega
  have L: ∀i x,i∉o->m[i]?=E x->uz q w' (q i) x/\ ∀c,fp w' (q i) x c↔fp w (q i) x c:=λi x a d=>(hr.cells i x d).fq λc hc=>h.iY.fq c ((hr.cells i x d).lt hc) (al i x c a d hc)
  have p: ∀i,i<m.length->l i=q i:=λi a=>by simp only[l,a,oH]
  have t: ∀k y c,f[k]?=E y->fp w' (l (sg o m.length k)) (y.iU (sg o m.length)) c->fp w' (C k) y c:=λk y c _ F=>by rw[oA,aj]at F;exact F
  have ae: ∀c,kW C f w' c->w.heap.size<=c∨kW q m w c:=λc hc=>(h.new c hc).imp id (M c)
  refine⟨l,r0.iU (sg o m.length),fW m o f,⟨p,by rw[T];omega,λc hc=>?_,⟨λi x S=>?_,λi j x y c aF az af ab=>?_,λi a=>?_,λj=>?_⟩,h.iY.mono λb _ hb=>M b hb⟩,by rw[sj,aa],r0,f,hq,ao,K,K⟩
  .rcases hc with⟨i,a,rfl⟩ |⟨i,x,S,F⟩
   .by_cases s:i<m.length
    .rw [p i s];exact .inr (.inl ⟨i,s,K⟩)
    .refine ae _ (.inl ⟨o.length+(i-m.length),?_,?_⟩)
     .rw [T]at a;omega
     .simp only[l,s,kT]
   .rcases n i x S with⟨s,a,P⟩ |⟨k,y,hy,rfl,rfl⟩
    .rw [p i s]at F;exact .inr (.inr ⟨i,x,P,((L i x a P).2 c).1 F⟩)
    .exact ae c (.inr ⟨k,y,hy,t k y c hy F⟩)
  .rcases n i x S with⟨s,a,P⟩ |⟨k,y,hy,rfl,rfl⟩
   .rw [p i s];exact(qC p (m5 hw i x P)).2 (L i x a P).1
   .rw [aj,GY,aa];exact h.rel.cells k y hy
  .have ac: ∀i x c,i∉o->m[i]?=E x->fp w' (q i) x c-> ¬kW C f w' c:=λi x c a d F hF=>by
     rw[(L i x a d).2]at F;rcases h.new c hF with h1|h1
     .have:=(hr.cells i x d).lt F;omega
     .exact al i x c a d F h1
   rcases n i x aF with⟨s,a,P⟩ |⟨k,u,hu,rfl,rfl⟩
   .rw [p i s]at af;rcases n j y az with⟨aq,hj,ak⟩ |⟨z,u',ad,rfl,rfl⟩
    .rw [p j aq]at ab;exact hr.inj i j x y c P ak (((L i x a P).2 c).1 af) (((L j y hj ak).2 c).1 ab)
    .exact(ac i x c a P af (.inr ⟨z,u',ad,t z u' c ad ab⟩)).elim
   .rcases n j y az with⟨aq,hj,ak⟩ |⟨z,u',ad,rfl,rfl⟩
    .rw [p j aq]at ab;exact(ac j y c hj ak ab (.inr ⟨k,u,hu,t k u c hu af⟩)).elim
    .rw [h.rel.inj k z u u' c hu ad (t k u c hu af) (t z u' c ad ab)]
  .rw [T]at a;by_cases s:i<m.length
   .simp only[l,s,oH];exact pY (hr.lt i s) h.iY.size
   .simp only[l,s,kT];exact h.rel.lt _ O
  .rw [T];simp only[l];rw[if_neg O];have:=h.rel.next j;rw[<-this];congr 1;omega
def eM.lift{c gl:Nat->Option Nat}{H:dE}(s:eM P c f args H Q)(o:List Nat)(L:sJ m (sg o m.length) o H)(x:o.Nodup)(z: ∀g i,c g=E i-> ∃j,o[i]?=E j/\gl g=E j)(d:ek m.length m=G):
    eM P gl f (ml (sg o m.length) args) m (λr u=> ∃C e,Q C e/\H.length<=e.length/\r=C.iU (sg o m.length)/\u=fW m o e):=by
  intro q w y p;obtain⟨v,M,S,l,a⟩:=EB (args:=args) (Q:=Q) o L x z d q w y p;rw[l];exact(s v w M S).mono a
def views(m:dE)(s:Nat->Nat):List Nat->dE->Prop
  |[],[]=>True
  |i::c,x::H=>(x.c.iQ=G->m[i]?=E (x.iU s))/\views m s c H
  |_,_=>False
def mH:List Nat->dE->List Nat
  |i::c,x::H=>bif x.c.iQ then i::mH c H else mH c H
  |_,_=>[]
def Ie(n:Nat):List Nat->Bool
  |[]=>G
  |i::c=>Nat.blt i n&&Ie n c
def XN(s:Nat->Nat):eZ->eZ
  |[]=>[]
  |x::r=>(x.1,x.2.iU s)::XN s r
def ML(s:Nat->Nat):Ds->Ds
  |[]=>[]
  |x::r=>(x.1,ml s x.2)::ML s r
def E9: ∀{c:List Nat}{H:dE},views m s c H->c.length=H.length
  |[],[],_=>rfl
  |[],_::_,h=>h.elim
  |_::_,[],h=>h.elim
  |_::c,_::H,h=>by simp[E9 h.2]
def rY: ∀{c:List Nat}{H:dE},views m s c H-> ∀(k:Nat)(x:dI),H[k]?=E x->x.c.iQ=G-> ∃i,c[k]?=E i/\m[i]?=E (x.iU s)
  |[],[],_,k,x,h,_=>by simp at h
  |[],_::_,h,_,_,_,_=>h.elim
  |_::_,[],h,_,_,_,_=>h.elim
  |j::c,y::H,g,k,x,h,f=>by
   cases k with
   |zero=>simp only[ph,eJ]at h;subst h;exact⟨j,K,g.1 f⟩
   |succ k=>simp only[kz]at h⊢;exact rY g.2 k x h f
def uV: ∀{c:List Nat}{H:dE}{k i:Nat}{x:dI},c[k]?=E i->H[k]?=E x->x.c.iQ=G->i∈mH c H
  |[],_,k,i,x,h,_,_=>by simp at h
  |_::_,[],k,i,x,_,h,_=>by simp at h
  |j::c,y::H,k,i,x,h,F,f=>by
   unfold mH;cases k with
   |zero=>
    simp only[ph,eJ]at h F;subst h;subst F;simp[f]
   |succ k=>
    simp only[kz]at h F;have:=uV h F f;cases y.c.iQ<;>simp[this]
def Ah: ∀{c:List Nat}{H:dE}{k z i:Nat}{x v:dI},(mH c H).Nodup->c[k]?=E i->c[z]?=E i->H[k]?=E x->H[z]?=E v->x.c.iQ=G->v.c.iQ=G->k=z
  |[],_,k,z,i,x,v,_,h,_,_,_,_,_=>by simp at h
  |_::_,[],k,z,i,x,v,_,_,_,h,_,_,_=>by simp at h
  |j::c,y::H,k,z,i,x,v,a,M,S,l,u,R,g=>by
   unfold mH at a
   have d:(mH c H).Nodup:=by
     cases Q:y.c.iQ with
     |false=>rw[Q]at a;exact a
     |true=>rw[Q]at a;exact(Aa.1 a).2
   cases k with
   |zero=>
    cases z with
    |zero=>rfl
    |succ z=>
     simp only[ph,kz,eJ]at M S l u;subst M;subst l;rw[R]at a;exact((Aa.1 a).1 (uV S u g)).elim
   |succ k=>
    cases z with
    |zero=>
     simp only[ph,kz,eJ]at M S l u;subst S;subst u;rw[g]at a;exact((Aa.1 a).1 (uV M l R)).elim
    |succ z=>
     simp only[kz]at M S l u;rw[Ah d M S l u R g]
def Ed: ∀{c:List Nat},Ie n c=G-> ∀(k i:Nat),c[k]?=E i->i<n
  |[],_,k,i,h=>by simp at h
  |j::c,t,k,i,h=>by
   have s:Nat.blt j n=G/\Ie n c=G:=by simpa[Ie]using t
   cases k with
   |zero=>simp only[ph,eJ]at h;subst h;exact nD▸s.1
   |succ k=>simp only[kz]at h;exact Ed s.2 k i h
def Ir(s:Nat->Nat): ∀{e:eZ}{t:Nat}{v:V},e.get t=E v->(XN s e).get t=E (v.iU s)
  |[],_,_,h=>by cases h
  |x::r,t,v,h=>by
   simp only[eZ.get,XN]at h⊢;cases H:Nat.beq x.1 t with
   |true=>rw[H]at h;cases h;rfl
   |false=>rw[H]at h;exact Ir s h
def Fs(q s:Nat->Nat): ∀H:Ds,qo q (ML s H)=qo (λk=>q (s k)) H
  |[]=>rfl
  |d::r=>by have:=Fs q s r;simp only[qo,ML,nA]at this⊢;rw[this,oe]
def take_range{o:List Nat}(h:o.take b=List.range b){k:Nat}(R:k<b):o[k]?=E k:=by
  have:(o.take b)[k]?=E k:=by rw[h];simp[R]
  rw[nF]at this;simpa[R]using this
def kL(o:List Nat)(ae:Ds)(e2:eZ)(M:dE)(ak: ∀g i,C.mw g=E i->i<b)(h1:o.take b=List.range b)(F:views m (sg o m.length) o M)(aj:Ie m.length o=G)(hn:(mH o M).Nodup)(al:XN (sg o m.length) e2=e)(am:ML (sg o m.length) ae=ds)(h:Ev P C f n b ae t e2 M Q):Ev P C f n b ds t e m Q:=by
  subst al;subst am;intro q a w R hb hr he hg ag hd hR;have aa:=E9 F
  have an:b<=M.length:=by
    rcases np b with h0|h0
    .omega
    .have:=take_range h1 (O:b-1<b);have:=(fQ.1 this).1;omega
  let l:Nat->Nat:=λk=>q (sg o m.length k)
  have ab: ∀k,k<M.length-> ∃i,o[k]?=E i/\l k=q i/\i<m.length:=λk z=>by have h3:k<o.length:=O;exact⟨o[k],by simp[h3],by simp[l,sg,h3],Ed aj k _ (by simp[h3])⟩
  have H: ∀k,k<b->l k=q k:=λk z=>by simp only[l,uv (take_range h1 z)]
  have S:jA l M w:=by
    refine⟨λk x z=>?_,λk k' x x' c z ac hl p=>?_,λk z=>?_,λj=>?_⟩
    .by_cases hl:x.c.iQ=G
     .obtain⟨i,y,hm⟩:=rY F k x z hl;have T:l k=q i:=by simp only[l,uv y]
      rw[T];exact(GY q _ w _ x).1 (hr.cells i _ hm)
     .unfold uz;cases hc:x.c<;>simp_all [eH.iQ]
    .have sl:=hl.iQ;have s:=p.iQ;obtain⟨i,y,hm⟩:=rY F k x z sl;obtain⟨i',ad,ah⟩:=rY F k' x' ac s;have T:l k=q i:=by simp only[l,uv y]
     have e2:l k'=q i':=by simp only[l,uv ad]
     rw[T]at hl;rw[e2]at p;have:=hr.inj i i' _ _ c hm ah ((oA _ w _ c x).2 hl) ((oA _ w _ c x').2 p);subst this;exact Ah hn y ad z ac sl s
    .obtain⟨i,_,T,y⟩:=ab k z;rw[T];exact hr.lt i y
    .simp only[l];rw[<-aa,CH,hr.next]
  have d: ∀c,kW l M w c->kW q m w c:=by
    rintro c(⟨k,z,rfl⟩ |⟨k,x,z,ho⟩)
    .obtain⟨i,_,T,y⟩:=ab k z;exact .inl ⟨i,y,T.symm⟩
    .obtain⟨i,y,hm⟩:=rY F k x z ho.iQ;have T:l k=q i:=by simp only[l,uv y]
     rw[T]at ho;exact .inr ⟨i,_,hm,(oA _ w _ c x).2 ho⟩
  refine h l a w R an S (λu v hu=>?_) (λg i y=>?_) ag (by rw[hd,Fs]) λen w' hp=>hR en w' ?_
  .have:=he u _ (Ir (sg o m.length) hu);rw[sj]at this;exact this
  .have h3:=ak g i y;exact⟨O,by rw[H i h3];exact(hg g i y).2⟩
  .obtain⟨af,r,m',L,he,hq⟩:=hp;exact⟨af,r,m',⟨λi y=>by rw[L.ln i y,H i y],L.len,λi y=>(L.new i y).imp id (d _),L.rel,L.iY.mono λb _ hb=>d b hb⟩,he,hq⟩
def Gn{P:Program}{fn:Func}{tmps:Array ip}{R:Ending->ii->Prop}: ∀(H:List Deferred)(u:FrameMode)(w:ii)(x:Frame)(o:List Frame),
    x.mode=u->x.defers=H->x.tmps=tmps->P.funcs[x.fn]?=E fn->Leaves P fn tmps R H u w->
    ∃e a p,R e a/\Comes P (lone x o w) (lone p o a) e/\p.fn=x.fn/\p.kind=x.kind/\p.going P a e
  |[],.run,_,_,_,_,_,_,_,h=>h.elim
  |[],.returning,w,x,_,F,z,r,t,⟨v,hr,L⟩=>⟨.returned v,w,x,L,Steps.refl P _,K,K,F,z,fn,t,r▸hr⟩
  |[],.panicking s,w,x,_,F,z,_,t,h=>⟨.panicked s,w,x,h,Steps.refl P _,K,K,F,z,fn,t⟩
  |d::H,u,w,x,o,F,z,r,t,⟨q,fv,aa,f,args,C,T,l⟩=>by
   have first:=step_defer (cs:=o) (F▸q) z C T;obtain⟨e,S,y,fx,L,b,k,n⟩:=l {x with defers:=H} o F;cases e with
   |returned v=>
    have g:=step_going_returned (c:={{x with defers:=H}with mode:=S}) (cs:=o) k n;obtain⟨M,i,Q,j,m,a1,a2,a3⟩:=Gn H (settle S) y {{{x with defers:=H}with mode:=S}with mode:=settle S} o K K r t L;exact⟨M,i,Q,j,uK (.head first (Steps.trans b (.one g))) m,a1,a2,a3⟩
   |panicked s=>
    have g:=step_going_panicked (c:={{x with defers:=H}with mode:=S}) (cs:=o) n;obtain⟨M,i,Q,j,m,a1,a2,a3⟩:=Gn H (raised S s) y {{{x with defers:=H}with mode:=S}with mode:=raised S s} o K K r t L;exact⟨M,i,Q,j,uK (.head first (Steps.trans b (.one g))) m,a1,a2,a3⟩
   |outgrown=>exact⟨.outgrown,y,x,L,Outgrown.of_steps (.one first) b,K,K,dD⟩
def Nn(hf:P.funcs[f]?=E fn)(F:atEnd t=G)(h: ∀q a w R,b<=m.length->jA q m w->ik q e a->Gl q C m.length->a.defers=qo q H->(∀i S,yd b q m w Q i S->R i S)->Leaves P fn a.tmps R (qo q H) .returning w):
    Ev P C f n b H t e m Q:=by
  intro q a w R hb T he hg hn z hR L o M h2;have hl:=h q a w R hb T he hg z hR
  have g: ∀j,∃i S x,R i S/\Comes P (lone {L.at a j with mode:= .returning} o w) (lone x o S) i/\x.fn=f/\x.kind=L.kind/\x.going P S i:=λj=>by obtain⟨i,S,p,v,s,d,c,r⟩:=Gn (P:=P) (qo q H) .returning w {L.at a j with mode:= .returning} o K (by simpa[Frame.at]using z) K (by simpa[Frame.at,M]using hf) hl;exact⟨i,S,p,v,s,by rw[d];simpa[Frame.at]using M,by rw[c];simp[Frame.at],r⟩
  match t,F with
  |[],_=>
   obtain⟨i,S,x,v,s,l,u,y⟩:=g [];exact⟨i,S,x,v,uK (.one step_end) s,l,u,y⟩
  | .code .ret::k,_=>
    obtain⟨i,S,x,v,s,l,u,y⟩:=g (.code .ret::k);exact⟨i,S,x,v,uK (.one step_ret) s,l,u,y⟩
def sF(P:Program)(R:Nat->Option Nat)(f:FuncId)(args:List V)(m:dE)(Q:V->dE->Prop):Prop:=
  ∀q w u,jA q m w->OQ q R m.length->CallsD P f (dZ q args).toArray u w λi T S=>T=u/\yd m.length q m w Q i S
def sF.of{c:Code}(T:C.mw=R)(t:P.funcs[f]?=E fn)(H:fn.body=E c)(e:Nat.ble args.length fn.ntmps=G)(h:Ev P C f fn.ntmps m.length [] [.code c] (fo 0 args) m Q):sF P R f args m Q:=by
  subst T;intro q w u y p;have s:args.length<=fn.ntmps:=mi e;refine Dk t H (h q _ w _ (eT _) y ?_ p ?_ K λ_ _ g=>g)
  .have:=ME q args (fn.ntmps-(dZ q args).toArray.size) [];exact this
  .simp only[Mb,tN,gC,M3];omega
def F2{c:List V}(u:P.funcs[f]?=E fn)(s:atEnd t=G)(M:eo P g)(y:Fq e fn.results.toList=E r)(H:r.wf m.length=G)(x:sF P C.mw g c m Q1)(hQ: ∀k h,Q1 k h->Q r h)(o:Nat.blt g 100000=G:=by rfl):Ev P C f n b [(g,c)] t e m Q:=by
  refine Nn u s λq a w R v d j p hd T=>?_
  show Leaves P fn a.tmps R [UO g (dZ q c)] .returning w;have F:UO g (dZ q c)=⟨.fn (.func g) #[],(dZ q c).toArray⟩:=by unfold UO;rw[o];rfl
  rw[F];refine leaves_cons (f:=g) (args:=(dZ q c).toArray) Y ?_ ?_
  .have:=gT (P:=P) M (dZ q c).toArray w;simpa[invoke,callFunc]using this
  .refine(x q w .returning d p).mono ?_;rintro en u' S⟨rfl,l,k,h,L,rfl,z⟩;refine⟨r.ee q,Ci (P:=P) (w:=S) (fn:=fn) j y,?_⟩;exact T _ _ ⟨l,r,h,⟨λi hi=>L.ln i O,mh v L.len,L.new,L.rel,L.iY⟩,by rw[gx L.ln r H],hQ _ _ z⟩
def rr:Code->Nat
  | .seq a b=>rr a+rr b
  | .cond _ a b=>rr a+rr b
  | .block _ a=>rr a
  | .loop a=>rr a+1
  |_=>0
def gQ:Code->Nat->List Item->List Item
  | .seq a b,i,k=>bif Nat.blt i (rr a)then gQ a i (.code b::k)else gQ b (i-rr a) k
  | .cond _ a b,i,k=>bif Nat.blt i (rr a)then gQ a i k else gQ b (i-rr a) k
  | .block id a,i,k=>gQ a i (.inBlock id::k)
  | .loop a,i,k=>bif Nat.beq i 0 then .code a:: .inLoop a::k else gQ a (i-1) (.inLoop a::k)
  |_,_,k=>k
def BU:List Item->List Item
  | .code (.loop x)::k=> .code x:: .inLoop x::k
  | .inLoop x::k=> .code x:: .inLoop x::k
  |t=>t
@[simp,reducible]def oS(x:List Item×eZ×dE×List Bool):List Item×eZ×dE×List Bool:=match x with|(v,T,q,R)=>(BU v,T,q,R)
@[simp,reducible]def nJ(l:List Nat)(x:List Item×St):List Item×eZ×dE×Bool:=match x with|(v,g)=>(v,gN g.e l,g.m,eb g.ob)
@[simp,reducible]def si(l:List Nat)(x:List Item×St):List Item×eZ×dE×Bool:=match x with|(v,g)=>(BU v,gN g.e l,g.m,eb g.ob)
@[simp,reducible]def Av(l:List Nat)(x:List Item×St):List Item×eZ×dE×List Bool:=match x with|(v,g)=>(BU v,gN g.e l,g.m,g.ob)
@[simp,reducible]def gi(p:List ResultVar)(x:List Item×St):Bool×Option V×dE×List Bool:=match x with|(v,g)=>(atEnd v,Fq g.e p,g.m,g.ob)
def vM(h:Ev P C f n b H (BU t) e m Q):Ev P C f n b H t e m Q:=by
  unfold BU at h;split at h
  .exact Ev.loop h
  .exact Ev.enter h
  .exact h
def fa(c:RD P C){l:List Nat}{s:List Bool}{a:List Item}{y:eZ}(h:(oS (eC C n j l t ⟨e,m,z,[]⟩))=(a,y,u,s))(F:eb s=G)(d:jv m.length H=G)(R:Ev P C f n b H a y u Q):Ev P C f n b H t e m Q:=by
  unfold oS at h;generalize L:eC C n j l t ⟨e,m,z,[]⟩=x at h;obtain⟨v,T,q,g⟩:=x;simp only[ef]at h;obtain⟨rfl,rfl,rfl,rfl⟩:=h;exact Ev.go c j z l (by rw[L]) (by rw[L]) (by rw[L]) (by rw[L]) F d (vM R)
def Ev.done(c:RD P C){s:List Bool}(h:(gi fn.results.toList (et C n N j t ⟨e,m,z,[]⟩))=(G,E r,u,s))(F:eb s=G)(o:Q r u)(d:P.funcs[f]?=E fn:=by kernel_rfl):Ev P C f n b [] t e m Q:=by
  unfold gi at h;generalize L:et C n N j t ⟨e,m,z,[]⟩=x at h;obtain⟨v,⟨T,q,p,R⟩⟩:=x;simp only[ef]at h;obtain⟨M,S,rfl,rfl⟩:=h;exact Ev.run c j z L F K (Ev.ret d M S o)
def rv(C:fw)(t:List Item)(e:eZ):Option (FuncId×List V×Option Tmp):=
  match t with
  | .inRegion T (i::_)::_=>match T.toList[i]? with
    |some o=>match ve o.op with
     |some (g,H)=>match ia T.toList e o,nX C e H with
      |some G,E L=>E (g,L,o.dst)
      |_,_=>N
     |none=>N
    |none=>N
  |_=>N
def iF:List Item->List Item
  | .inRegion T (_::F)::k=> .inRegion T F::k
  |t=>t
@[simp,reducible]def mW(C:fw)(x:List Item×eZ×dE×List Bool):Option (FuncId×List V×Option Tmp)×List Item×eZ×dE×List Bool:=match x with|(v,T,q,R)=>(rv C v T,iF v,T,q,R)
@[simp,reducible]def Nb(C:fw)(x:List Item×eZ×dE×List Bool):Option (FuncId×List V×Option Tmp)×List Item×eZ×dE×Bool:=match x with|(v,T,q,R)=>(rv C v T,iF v,T,q,eb R)
def Ev.call(an:RD P C)(j:Nat)(z:List Bool)(l:List Nat)(s:List Bool){vs:List V}{T:eZ}{q:dE}(h:(match eC C n j l t ⟨e,m,z,[]⟩with|(t1,T,q,o1)=>(rv C t1 T,T,q,o1))=(E (g,vs,d),T,q,s))(ho:eb s=G)(al:jv m.length ds=G)(S:jv q.length ds=G)(ae:eo P g)(ad:eM P C.mw g vs q Q1)(ak:fZ q.length T=G)(hk: ∀r F,Q1 r F->q.length<=F.length-> ∃e',fA n T d r=E e'/\Ev P C f n b ds (iF (eC C n j l t ⟨e,m,z,[]⟩).1) e' F Q):Ev P C f n b ds t e m Q:=by
  generalize hx:eC C n j l t ⟨e,m,z,[]⟩=x at h hk;obtain⟨t1,e2,m2,o1⟩:=x;simp only[ef]at h;obtain⟨M,rfl,rfl,rfl⟩:=h;refine Ev.go an j z l (by rw[hx]) (by rw[hx]) (by rw[hx]) (by rw[hx]) ho al ?_;unfold rv at M;split at M
  .rename_i c i aq k;split at M
   .rename_i o ao;split at M
    .rename_i g' xs p;split at M
     .rename_i ah u am;simp only[eJ,ef]at M;obtain⟨rfl,rfl,rfl⟩:=M;intro ρ a w R hb hr he hg hn hd hR;have ac:c[i]?=E o:=by simpa using ao
      have H:=gg he u;have af:c=c.toList.toArray:=Y;rw[<-af]at H;refine po ac H ?_
      have ab: ∃y,o.op= .call {callee:= .value (.func g'),args:=xs.toArray,argTypes:=y}:=by
        unfold ve at p;split at p
        .rename_i g2 ar y v;simp only[eJ,ef]at p;obtain⟨rfl,rfl⟩:=p;exact⟨y,by rw[v]⟩
        .cases p
      obtain⟨y,v⟩:=ab;unfold Oper.wp
      have aa:(execOp a.eval o).run P w= .ok (.enter g' (dZ ρ ah).toArray) w:=by
        have M:execOp a.eval o=callFunc g' (#[]++xs.toArray.map a.eval++ #[]):=by unfold execOp;rw[v];rfl
        rw[M,gT ae]
        congr 2
        apply nh;simp[<-jH he hg am]
      rw[aa,Am];refine(ad ρ w hr hg).mono ?_;rintro en w'⟨ag,r,F,aj,rfl,hq⟩;have L:=aj.whole;obtain⟨e',hp,ap⟩:=hk r F hq L.len;exact ap ag _ w' R (mh hb L.len) L.rel ((he.kg ak L.ln).put hn hp) (hg.kg L.len L.ln) (by rw[iH,hn]) (by rw[put_defers,hd,jE L.ln S]) λ_ _ hp=>hR _ _ (hp.after hb L)
     .cases M
    .cases M
   .cases M
  .cases M
def qI.Zb{F:List V->dE->Option (V×dE×Bool)}(h:qI P R f F)(T:F args m=E (r,u,G)):
    eM P R f args m (λv M=>v=r/\M=u):=by
  intro q w y p;refine(h q m w args r u T y p).mono ?_;rintro i S⟨l,L,rfl⟩;exact⟨l,r,u,⟨L.ln,L.len,L.new,L.rel,L.iY⟩,K,K,K⟩
def jR{F:List V->dE->Option (V×dE×Bool)}(h: ∀args m r u,F args m=E (r,u,G)->eM P R f args m (λv M=>v=r/\M=u)):qI P R f F:=by intro q m w args r u T y p;refine(h args m r u T q w y p).mono ?_;rintro i S⟨l,k,a,L,rfl,rfl,rfl⟩;exact⟨l,L.whole,K⟩
structure vX(ρ:Nat->Nat)(m:dE)(w:ii)(ρ':Nat->Nat)(m':dE):Prop where
  ln: ∀i,i<m.length->ρ' i=ρ i
  len:m.length<=m'.length
  K3: ∀c,kW ρ' m' w c->kW ρ m w c
  rel:jA ρ' m' w
def vX.ext(h:vX q m w l u):qE q m w l u w:=⟨h.ln,h.len,λc s=> .inr (h.K3 c s),h.rel,.refl _ _⟩
def Ev.Ke{d:Ds}(j:fZ m.length e=G)(z:jv m.length d=G)(h: ∀q w,jA q m w-> ∃l u,vX q m w l u/\Ev P C f n b d t e u Q):Ev P C f n b d t e m Q:=by
  intro q a w R H y T p x c L;obtain⟨l,u,r,h⟩:=h q w y;exact h l a w R (mh H r.len) r.rel (T.kg j r.ln) (p.kg r.len r.ln) x (by rw[c,jE r.ln z]) λi S g=>L i S (g.after H r.ext)
def eM.Ke(t:nd m.length args=G)(h: ∀q w,jA q m w-> ∃l u,vX q m w l u/\eM P R f args u Q):eM P R f args m Q:=by
  intro q w y p;obtain⟨l,u,a,h⟩:=h q w y;have:=h l w a.rel (λg i b=>⟨pY (p g i b).1 a.len,by rw[a.ln i (p g i b).1];exact(p g i b).2⟩);rw[lU a.ln args t]at this;refine this.mono λe S d=>?_
  obtain⟨c,r,M,L,j,z⟩:=d;exact⟨c,r,M,a.ext.Zf (eT _) ⟨λi b=>L.ln i (pY b a.len),mh a.len L.len,L.new,L.rel,L.iY⟩,j,z⟩
def qU{y:dI}(h:(m.set i x)[j]?=E y):(j=i/\y=x)∨(j≠i/\m[j]?=E y):=by
  by_cases d:i=j
  .subst d;by_cases g:i<m.length
   .rw [qj g]at h;cases h;exact .inl ⟨K,K⟩
   .rw [EF (by simpa using Nat.le_of_not_lt g)]at h;cases h
  .rw [lI d]at h;exact .inr ⟨λe=>d e.symm,h⟩
def jA.seen(h:jA q m w){y:dI}(g:m[i]?=E x)(Q:uz q w (q i) y)(F: ∀c,fp w (q i) y c->fp w (q i) x c):vX q m w q (m.set i y):=by
  have C: ∀j z c,(m.set i y)[j]?=E z->fp w (q j) z c-> ∃b,m[j]?=E b/\fp w (q j) b c:=λj z c o s=>by
    rcases qU o with⟨rfl,rfl⟩ |⟨_,o⟩
    .exact⟨x,g,F c s⟩
    .exact⟨z,o,s⟩
  refine⟨λ_ _=>rfl,Y,λc s=>?_,⟨λj z o=>?_,λj k z b c o a s r=>?_,λj H=>h.lt j (by simpa using H),λj=>by rw[gU];exact h.next j⟩⟩
  .rcases s with⟨j,H,rfl⟩ |⟨j,z,o,s⟩
   .exact .inl ⟨j,by simpa using H,K⟩
   .obtain⟨b,a,r⟩:=C j z c o s;exact .inr ⟨j,b,a,r⟩
  .rcases qU o with⟨rfl,rfl⟩ |⟨_,o⟩
   .exact Q
   .exact h.cells j z o
  .obtain⟨u,e,d⟩:=C j z c o s;obtain⟨T,l,P⟩:=C k b c a r;exact h.inj j k u T c e l d P
def jA.drop(h:jA q m w)(g:m[i]?=E x)(ty:es):vX q m w q (m.set i ⟨.dead,ty⟩):=
  h.seen g dD λ_ s=>s.elim
def jA.nU(h:jA q m w)(g:m[i]?=E ⟨.lit [.b A,.s N 0 0],ty⟩):vX q m w q (m.set i ⟨.int 0,ty⟩):=by
  have H:=h.obj i _ g K;refine h.seen g ⟨A,N,0,0,H,.inl ⟨K,K,K,K,K⟩⟩ λc s=>?_
  rcases s with rfl|s
  .exact K
  .have P:JA w (q i)=N:=by have z:w.heap[q i]?=E (.cells #[.bool A,.slice N 0 0] ty (0,0)):=H;simp[JA,z]
   rw[P]at s;cases s
def Tc(q:Nat->Nat)(n:Bool)(j T F:Nat):dZ q [.b n,.s (E (j,0)) T F]=[.bool n,.slice (E ⟨q j,0,N⟩) T F]:=rfl
def jA.close(h:jA q m w){L:es}{n:Bool}{T:Nat}{p:List Int}(aa:i≠j)(g:m[i]?=E ⟨.lit [.b n,.s (E (j,0)) T p.length],ty⟩)(H:m[j]?=E ⟨.ws .u64 p,L⟩)(hv:fX n p T v):
    vX q m w q ((m.set i ⟨.int v,ty⟩).set j ⟨.dead,L⟩):=by
  have M:=h.obj i _ g K;have t:=h.obj j _ H K;have P:w.heap[q i]?=E (.cells #[.bool n,.slice (E ⟨q j,0,N⟩) T p.length] ty (0,0)):=M
  have S:w.heap[q j]?=E (.cells (p.map (ip.int .u64)).toArray L (0,0)):=by rw[t];simp only[dI.obj,kN]
  have hh:JA w (q i)=E (q j):=by simp[JA,P]
  have il:i<m.length:=(fQ.1 g).1;have jl:j<m.length:=(fQ.1 H).1
  have C: ∀k z c,((m.set i ⟨.int v,ty⟩).set j ⟨.dead,L⟩)[k]?=E z->fp w (q k) z c->(k=i/\(c=q i∨c=q j))∨(k≠i/\k≠j/\m[k]?=E z):=λk z c o s=>by
    rcases qU o with⟨rfl,rfl⟩ |⟨d,o⟩
    .exact s.elim
    .rcases qU o with⟨rfl,rfl⟩ |⟨x,o⟩
     .refine .inl ⟨K,?_⟩;rcases s with rfl|s
      .exact .inl K
      .rw [hh]at s;cases s;exact .inr K
     .exact .inr ⟨x,d,o⟩
  have oi:fp w (q i) ⟨.lit [.b n,.s (E (j,0)) T p.length],ty⟩ (q i):=K;have oj:fp w (q j) ⟨.ws .u64 p,L⟩ (q j):=K;refine⟨λ_ _=>rfl,Y,λc s=>?_,⟨λk z o=>?_,λk e z Q c o a s r=>?_,λk R=>h.lt k (by simpa using R),λk=>by rw[gU,gU];exact h.next k⟩⟩
  .rcases s with⟨k,R,rfl⟩ |⟨k,z,o,s⟩
   .exact .inl ⟨k,by simpa using R,K⟩
   .rcases C k z c o s with⟨rfl,rfl|rfl⟩ |⟨_,_,o⟩
    .exact .inl ⟨_,il,K⟩
    .exact .inl ⟨_,jl,K⟩
    .exact .inr ⟨k,z,o,s⟩
  .rcases qU o with⟨rfl,rfl⟩ |⟨d,o⟩
   .trivial
   .rcases qU o with⟨rfl,rfl⟩ |⟨x,o⟩
    .exact⟨n,_,T,p.length,P,.inr ⟨q j,p,L,K,S,K,hv⟩⟩
    .exact h.cells k z o
  .have b: ∀(k:Nat)(u:dI)(c:Nat),k≠i->k≠j->m[k]?=E u->fp w (q k) u c->(c=q i∨c=q j)->False:=λk u c x d F s f=>by
     rcases f with rfl|rfl
     .exact x (h.inj k i u _ _ F g s oi)
     .exact d (h.inj k j u _ _ F H s oj)
   rcases C k z c o s with⟨rfl,f⟩ |⟨a1,a2,F⟩
   .rcases C e Q c a r with⟨rfl,y⟩ |⟨b1,b2,l⟩
    .rfl
    .exact(b e Q c b1 b2 l r f).elim
   .rcases C e Q c a r with⟨rfl,y⟩ |⟨b1,b2,l⟩
    .exact(b k z c a1 a2 F s y).elim
    .exact h.inj k e z Q c F l s r
def Iq(q:Nat->Nat)(n P:Nat):Nat->Nat:=λk=>if k<n then q k else if k=n then P else q (k-1)
def jA.open(h:jA q m w)(hw:ek m.length m=G)(g:m[i]?=E ⟨.int v,ty⟩):
    (v=0/\vX q m w q (m.set i ⟨.lit [.b A,.s N 0 0],ty⟩))∨
    ∃n p T L ab,fX n p T v/\vX q m w ab (m.set i ⟨.lit [.b n,.s (E (m.length,0)) T p.length],ty⟩++[⟨.ws .u64 p,L⟩]):=by
  obtain⟨n,sl,T,ad,hb,hs⟩:=h.cells i _ g;have il:i<m.length:=(fQ.1 g).1;rcases hs with⟨rfl,rfl,rfl,rfl,rfl⟩ |⟨P,p,L,rfl,F,rfl,hv⟩
  .refine .inl ⟨K,h.seen g ?_ λc s=> .inl s⟩;exact hb
  .refine .inr ⟨n,p,T,L,Iq q m.length P,hv,?_⟩;have aa:JA w (q i)=E P:=by simp[JA,hb]
   have y:P≠q i:=by
     intro e;rw[e,hb]at F;simp only[eJ,Obj.cells.injEq]at F;have M:=kC Array.toList F.1;simp only at M;cases p with
     |nil=>simp at M
     |cons x xs=>simp at M
   have il:i<m.length:=(fQ.1 g).1;have j: ∀k,k<m.length->Iq q m.length P k=q k:=λk R=>by simp only[Iq,R,oH]
   have H:Iq q m.length P m.length=P:=by simp[Iq]
   have get: ∀k z,(m.set i ⟨.lit [.b n,.s (E (m.length,0)) T p.length],ty⟩++[⟨.ws .u64 p,L⟩])[k]?=E z->
    (k=i/\z=⟨.lit [.b n,.s (E (m.length,0)) T p.length],ty⟩)∨(k≠i/\k<m.length/\m[k]?=E z)∨(k=m.length/\z=⟨.ws .u64 p,L⟩):=λk z o=>by
     by_cases R:k<m.length
     .rw [oF (by simpa using R)]at o;rcases qU o with M|⟨M,S⟩
      .exact .inl M
      .exact .inr (.inl ⟨M,R,S⟩)
     .have t:k=m.length:=by have:=(fQ.1 o).1;simp at this;omega
      subst t;rw[pP Y]at o;simp at o;exact .inr (.inr ⟨K,o.symm⟩)
   have oi: ∀c,(c=q i∨c=P)->fp w (q i) ⟨.int v,ty⟩ c:=λc s=>s.imp id λe=>by rw[e];exact aa
   refine⟨j,Y,λc s=>?_,⟨λk z o=>?_,λk d z Q c o a s r=>?_,λk R=>?_,λk=>?_⟩⟩
   .rcases s with⟨k,R,rfl⟩ |⟨k,z,o,s⟩
    .by_cases t:k<m.length
     .exact .inl ⟨k,t,(j k t).symm⟩
     .have:k=m.length:=by simp at R;omega
      subst this;exact .inr ⟨i,_,g,oi _ (.inr H)⟩
    .rcases get k z o with⟨rfl,rfl⟩ |⟨M,S,l⟩ |⟨rfl,rfl⟩
     .rw [j k il]at s;exact .inr ⟨k,_,g,oi _ (.inl s)⟩
     .rw [j k S]at s;exact .inr ⟨k,z,l,s⟩
     .exact .inr ⟨i,_,g,oi _ (.inr (Eq.trans s H))⟩
   .rcases get k z o with⟨rfl,rfl⟩ |⟨M,S,l⟩ |⟨rfl,rfl⟩
    .show w.heap[Iq q m.length P k]?=_;rw[j k il,hb];show _=E (Obj.cells (dZ (Iq q m.length P) [.b n,.s (E (m.length,0)) T p.length]).toArray ty (0,0));rw[Tc,H]
    .rw [j k S];exact(qC j (m5 hw k z l)).2 (h.cells k z l)
    .show w.heap[Iq q m.length P m.length]?=_;rw[H,F];simp only[dI.obj,kN]
   .have b: ∀k u c,k≠i->m[k]?=E u->fp w (q k) u c->(c=q i∨c=P)->False:=λk u c ac hu s he=>ac (h.inj k i u _ c hu g s (oi c he))
    have C: ∀k z,(m.set i ⟨.lit [.b n,.s (E (m.length,0)) T p.length],ty⟩++[⟨.ws .u64 p,L⟩])[k]?=E z->fp w (Iq q m.length P k) z c->
     (k=i/\c=q i)∨(k≠i/\m[k]?=E z/\fp w (q k) z c)∨(k=m.length/\c=P):=λk z o s=>by
      rcases get k z o with⟨rfl,rfl⟩ |⟨M,S,l⟩ |⟨rfl,rfl⟩
      .rw [j k il]at s;exact .inl ⟨K,s⟩
      .rw [j k S]at s;exact .inr (.inl ⟨M,l,s⟩)
      .exact .inr (.inr ⟨K,Eq.trans s H⟩)
    rcases C k z o s with⟨rfl,e1⟩ |⟨a1,a2,a3⟩ |⟨rfl,e1⟩
    .rcases C d Q a r with⟨rfl,f⟩ |⟨b1,b2,b3⟩ |⟨rfl,f⟩
     .rfl
     .exact(b d Q c b1 b2 b3 (.inl e1)).elim
     .exact(y (by rw[<-e1,<-f])).elim
    .rcases C d Q a r with⟨rfl,f⟩ |⟨b1,b2,b3⟩ |⟨rfl,f⟩
     .exact(b k z c a1 a2 a3 (.inl f)).elim
     .exact h.inj k d z Q c a2 b2 a3 b3
     .exact(b k z c a1 a2 a3 (.inr f)).elim
    .rcases C d Q a r with⟨rfl,f⟩ |⟨b1,b2,b3⟩ |⟨rfl,f⟩
     .exact(y (by rw[<-e1,<-f])).elim
     .exact(b d Q c b1 b2 b3 (.inr e1)).elim
     .rfl
   .show Iq q m.length P k<_;by_cases t:k<m.length
    .rw [j k t];exact h.lt k t
    .have:k=m.length:=by simp at R;omega
     subst this;rw[H];exact(Co.1 F).1
   .simp only[gw,gU,eI,fb];unfold Iq;rw[if_neg O,if_neg O,(O:m.length+(0+1)+k-1=m.length+k)];exact h.next k
def pe(C:fw)(t:List Item)(e:eZ):Option (FuncId×List V):=
  match t with
  | .inRegion T (i::_)::_=>match T.toList[i]? with
    |some o=>match A5 o.op,o.dst with
     |some (g,H),N=>match ia T.toList e o,nX C e H with
      |some G,E L=>E (g,L)
      |_,_=>N
     |_,_=>N
    |none=>N
  |_=>N
def Ev.afs(ad:RD P C)(j:Nat)(z:List Bool)(l:List Nat)(s:List Bool){vs:List V}{T:eZ}{q:dE}(h:(match eC C n j l t ⟨e,m,z,[]⟩with|(t1,T,q,o1)=>(pe C t1 T,T,q,o1))=(E (g,vs),T,q,s))(ho:eb s=G)(ab:jv m.length ds=G)(hk:Ev P C f n b ((g,vs)::ds) (iF (eC C n j l t ⟨e,m,z,[]⟩).1) T q Q):Ev P C f n b ds t e m Q:=by
  generalize y:eC C n j l t ⟨e,m,z,[]⟩=x at h hk;obtain⟨t1,e2,m2,o1⟩:=x;simp only[ef]at h;obtain⟨M,rfl,rfl,rfl⟩:=h;refine Ev.go ad j z l (by rw[y]) (by rw[y]) (by rw[y]) (by rw[y]) ho ab ?_;unfold pe at M;split at M
  .rename_i c i ah k;split at M
   .rename_i o af;split at M
    .rename_i g' xs ae r;split at M
     .rename_i S u ac;simp only[eJ,ef]at M;obtain⟨rfl,rfl⟩:=M;intro L a w R hb hr he hg hn hd hR;have F:c[i]?=E o:=by simpa using af
      have H:=gg he u;have d:c=c.toList.toArray:=Y;rw[<-d]at H;refine po F H ?_;obtain⟨ag,aj,aa⟩:=B8 ae;unfold Oper.wp
      have v:xs.toArray.map a.eval=(dZ L S).toArray:=by apply nh;simp[<-jH he hg ac]
      have p:(execOp a.eval o).run P w= .ok (.defer ⟨.fn (.func g') #[],(dZ L S).toArray⟩) w:=by unfold execOp;rw[aa];simp[resolve,v,Act.eval,Deferred.ofValue]
      rw[p,UL,r];refine hk L _ w R hb hr ?_ hg ?_ ?_ hR
      .exact he
      .exact hn
      .simp [Act.put,qo,UO,ag,hd]
     .cases M
    .cases M
   .cases M
  .cases M
def nV{k:List Item}(c:RD P C)(j:Nat)(z:List Bool)(l:List Nat)(s:List Bool){d:List V}{T:eZ}{q:dE}(h:(match eC C n j l t ⟨e,m,z,[]⟩with|(v,T,q,a)=>(pe C v T,iF v,T,q,a))=(E (g,d),k,T,q,s))(F:eb s=G)(i:jv m.length H=G)(R:Ev P C f n b ((g,d)::H) k T q Q):Ev P C f n b H t e m Q:=by
  generalize L:eC C n j l t ⟨e,m,z,[]⟩=x at h;obtain⟨v,o,p,a⟩:=x;simp only[ef]at h;obtain⟨M,rfl,rfl,rfl,rfl⟩:=h;exact Ev.afs c j z l a (by rw[L];show(pe C v o,o,p,a)=_;rw[M]) F i (by rw[L];exact R)
def dY{k:List Item}(c:RD P C){l:List Nat}{s:List Bool}{p:List V}{T:eZ}{q:dE}(h:(mW C (eC C n j l t ⟨e,m,z,[]⟩))=(E (g,p,d),k,T,q,s))(ho:eb s=G)(i:jv m.length H=G)(w:jv q.length H=G)(M:eo P g)(a:eM P C.mw g p q Q1)(o:fZ q.length T=G)(hk: ∀r u,Q1 r u->q.length<=u.length-> ∃y,fA n T d r=E y/\Ev P C f n b H k y u Q):Ev P C f n b H t e m Q:=by
  unfold mW at h;generalize L:eC C n j l t ⟨e,m,z,[]⟩=x at h;obtain⟨F,v,S,R⟩:=x;simp only[ef]at h;obtain⟨h1,rfl,rfl,rfl,rfl⟩:=h;exact Ev.call c j z l R (by rw[L];show(rv C F v,v,S,R)=_;rw[h1]) ho i w M a o (by rw[L];exact hk)
def oN{w:List V}(c:RD P C){s:List Bool}(h:(gi fn.results.toList (et C n N j t ⟨e,m,z,[]⟩))=(G,E r,u,s))(F:eb s=G)(i:jv m.length [(g,w)]=G)(l:eo P g)(H:r.wf u.length=G)(a:sF P C.mw g w u Q1)(o: ∀k q,Q1 k q->Q r q)(y:Nat.blt g 100000=G:=by rfl)(d:P.funcs[f]?=E fn:=by kernel_rfl):Ev P C f n b [(g,w)] t e m Q:=by
  unfold gi at h;generalize L:et C n N j t ⟨e,m,z,[]⟩=x at h;obtain⟨v,⟨T,q,p,R⟩⟩:=x;simp only[ef]at h;obtain⟨M,S,rfl,rfl⟩:=h;exact Ev.run c j z L F i (F2 d M l S H a o y)
def rI(i:Nat):Code->Bool
  | .seq a b=>rI i a||rI i b
  | .cond _ a b=>rI i a||rI i b
  | .block _ a=>rI i a
  | .loop a=>rI i a
  | .region id _ _=>Nat.beq id i
  |_=>A
def dF(i j:Nat):Code->List Item->List Item
  | .seq a b,k=>bif rI i a then dF i j a (.code b::k)else dF i j b k
  | .cond _ a b,k=>bif rI i a then dF i j a k else dF i j b k
  | .block id a,k=>dF i j a (.inBlock id::k)
  | .loop a,k=>dF i j a (.inLoop a::k)
  | .region _ T _,k=> .inRegion T ((List.range T.size).drop j)::k
  |_,k=>k
def sF.lift{c gl:Nat->Option Nat}{H:dE}(s:sF P c f args H Q)(o:List Nat)(L:sJ m (sg o m.length) o H)(x:o.Nodup)(z: ∀g i,c g=E i-> ∃j,o[i]?=E j/\gl g=E j)(d:ek m.length m=G):
    sF P gl f (ml (sg o m.length) args) m (λr b=> ∃C e,Q C e/\H.length<=e.length/\r=C.iU (sg o m.length)/\b=fW m o e):=by
  intro q w u y p;obtain⟨v,M,S,l,h⟩:=EB (args:=args) (Q:=Q) o L x z d q w y p;rw[l];exact(s v w u M S).mono λn T k a=>⟨a.1,h _ _ a.2⟩
def qh(C:fw)(t:List Item)(e:eZ):Option (Nat×V×V×Option Tmp):=
  match t with
  | .inRegion T (i::_)::_=>match T.toList[i]? with
    |some o=>match o.op with
     | .call c=>match c.callee with
       | .builtin .append=>match c.args.toList,c.argTypes.toList with
         |[x,y],[a,R]=>match ia T.toList e o,fC C e x,fC C e y with
          |some G,E u,E v=>bif Nat.beq a R then E (a,u,v,o.dst)else N
          |_,_,_=>N
         |_,_=>N
       |_=>N
     |_=>N
    |none=>N
  |_=>N
def UM(k:U)(n:Nat):Builtin.zeroCells #[ip.int k 0] n=((lc n (0:Int)).map (ip.int k)).toArray:=by
  unfold Builtin.zeroCells;apply Array.ext
  .simp
  .intro i M S;simp[Nat.mod_one]
def yP{x:Ds}{T:Array Oper}{F:List Nat}{k:List Item}{o:Oper}(ht:t= .inRegion T (i::F)::k)(h:T[i]?=E o)(c:ia T.toList e o=E G)(s:fZ m.length e=G)(r:jv m.length x=G)(p: ∀q a w,jA q m w->ik q e a->Gl q C m.length-> ∃v u S,(execOp a.eval o).run P w= .ok (.value (v.ee q)) S/\qE q m w q u S/\ ∃y,fA n e o.dst v=E y/\Ev P C f n b x (.inRegion T F::k) y u Q):
    Ev P C f n b x t e m Q:=by
  subst ht;intro q a w R hb hr j M z hd hR;have H:=gg j c;have d:T=T.toList.toArray:=Y;rw[<-d]at H;refine po h H ?_;obtain⟨v,u,S,l,L,y,g,hk⟩:=p q a w hr j M;unfold Oper.wp;rw[l];show nH P f (.inRegion T F::k) (a.put o.dst (v.ee q)) S R;exact hk q _ S R (mh hb L.len) L.rel ((j.kg s L.ln).put z g) (M.kg L.len L.ln) (by rw[iH,z]) (by rw[put_defers,hd,jE L.ln r]) λ_ _ g=>hR _ _ (g.after hb L)
def jW{n0:Nat}{t2:List Item}(an:RD P C)(ad:Nat)(aj:List Bool)(ll:List Nat)(aA:List Bool){ta:Nat}{u v:V}{e1:eZ}{m1:dE}(h:(match eC C n0 ad ll t ⟨e,m,aj,[]⟩with|(t1,e1,m1,o1)=>(qh C t1 e1,iF t1,e1,m1,o1))=(E (ta,u,v,d),t2,e1,m1,aA))(ho:eb aA=G)(aS:jv m.length ds=G)(aC:jv m1.length ds=G)(aR:fZ m1.length e1=G){g:Nat}{k:U}{z:Option Nat}{l c x ox c2:Nat}{F xs:List Int}{tx:es}(a2:nT C ta=E g)(hk:De C g=E k)(hu:u= .s (z.map λz=>(z,0)) l c)(hv:v= .s (E (x,ox)) n c2)(hx:m1[x]?=E ⟨.ws k xs,tx⟩)(hn:ox+n<=xs.length)(h0:0<n)(hl:l+n<=1048576)(hz:match z with|none=>F=[]/\l=0/\c=0|some z=>m1[z]?=E ⟨.ws k F,g⟩/\l<=c/\c<=F.length)(av: ∀z',z=E z'->l+n<=c-> ∃e',fA n0 e1 d (.s (E (z',0)) (l+n) c)=E e'/\Ev P C f n0 b ds t2 e' (m1.set z' ⟨.ws k (dC F ((xs.drop ox).take n) l),g⟩) Q)(aK:c<l+n-> ∀T,l+n<=T->T<=9223372036854775807-> ∃e',fA n0 e1 d (.s (E (m1.length,0)) (l+n) T)=E e'/\
      Ev P C f n0 b ds t2 e' (m1++[⟨.ws k (F.take l++(xs.drop ox).take n++lc (T-(l+n)) 0),g⟩]) Q):Ev P C f n0 b ds t e m Q:=by
  generalize ae:eC C n0 ad ll t ⟨e,m,aj,[]⟩=xx at h;obtain⟨t1,e2,m2,o1⟩:=xx;simp only[ef]at h;obtain⟨M,rfl,rfl,rfl,rfl⟩:=h;refine Ev.go an ad aj ll (by rw[ae]) (by rw[ae]) (by rw[ae]) (by rw[ae]) ho aS ?_;unfold qh at M;split at M
  .rename_i az i aw kk;split at M
   .rename_i o a0;split at M
    .rename_i cc aY;split at M
     .rename_i ah;split at M
      .rename_i ax ay s tb aI aJ;split at M
       .rename_i uu vv al aU aT;cases aq:Nat.beq s tb with
        |false=>rw[aq]at M;cases M
        |true=>
         rw[aq]at M;simp only[gq,eJ,ef]at M;obtain⟨rfl,rfl,rfl,rfl⟩:=M;have:=iB aq;subst this;have aF:az[i]?=E o:=by simpa using a0
         refine yP K aF al aR aC ?_;intro p a w hr he hg;obtain⟨ga,ar,aL⟩:=cc;simp only at ah aI aJ;subst ah;have aQ:ar= #[ax,ay]:=by rw[<-sa];simpa using aI
         have aV:aL= #[s,s]:=by rw[<-sa];simpa using aJ
         subst aQ;subst aV;obtain⟨td,ti,a5,hi,hs,aH,zv,aB,aM⟩:=vd an.t hk;have am:=nv an.t a2;have EV:= @ff p C e2 a m2.length he hg;let H:List ip:=((xs.drop ox).take n).map (ip.int k);have af:H.length=n*ti.size:=by simp only[H,pc,gR,jK,hs];omega
         have R: ∀j y,H[j]?=E y->w.cell? ((pI p (x,ox)).add j)=E y:=λj y hj=>by
           rw[nE,hr.cell hx K];simp only[eH.list,lK];simp only[H,uf,nF,jY]at hj⊢;split at hj
           .exact hj
           .cases hj
         have ao:p m2.length=w.heap.size:=by simpa using hr.next 0
         have ag: ∀{r:ip}{w':ii},(Builtin.append_ #[s,s] o.type #[uu.ee p,vv.ee p]).run P w= .ok r w'->(execOp a.eval o).run P w= .ok (.value r) w':=by intro r w' hh;unfold execOp;rw[aY];show(do let dd<-resolve a.eval ⟨.builtin .append,#[ax,ay],#[s,s]⟩ o.type;invoke dd.target dd.args:Sem Next).run P w=_;simp only[resolve,invoke,builtin,EV aU,EV aT,SG,nA,Nw,fr,iV,gv,hh]
         subst hu hv
         have aa: ∀(S:Nat)(L:List Int),(Builtin.append_ #[s,s] o.type #[(V.s (z.map λz=>(z,0)) l c).ee p,(V.s (E (x,ox)) n c2).ee p]).run P w=
               .ok (.slice (E ⟨w.heap.size,0,N⟩) (l+n) (grownCap w (l+n) S g)) (w.drew.alloc (.cells ((L.map (ip.int k)).toArray++H.toArray++Builtin.zeroCells zv.cells (grownCap w (l+n) S g-(l+n))) g))->
          L=F.take l->c<l+n-> ∃v m' w',(execOp a.eval o).run P w= .ok (.value (v.ee p)) w'/\qE p m2 w p m' w'/\ ∃e',fA n0 e2 o.dst v=E e'/\Ev P C f n0 b ds (.inRegion az aw::kk) e' m' Q:=by
           intro S L ac aZ a3;have hG:=grownCap_ge w (l+n) S g;have a4:=grownCap_le_maxLen w (l+n) S g (by simp only[maxLen];omega);generalize grownCap w (l+n) S g=T at*;obtain⟨e',hp,ap⟩:=aK a3 T hG (by simp only[maxLen]at a4;omega);refine⟨.s (E (m2.length,0)) (l+n) T,_,w.drew.alloc (.cells ((L.map (ip.int k)).toArray++H.toArray++Builtin.zeroCells zv.cells (T-(l+n))) g),ag ?_,?_,e',hp,ap⟩
           .rw [ac];simp only[V.ee,oQ,pI,ao]
           .have aW:jA p m2 w.drew:=hr.draw _;have aP:qE p m2 w p m2 w.drew:=qE.draw hr _;have aX:=aW.push ⟨.ws k (F.take l++(xs.drop ox).take n++lc (T-(l+n)) 0),g⟩ K
            have a1:Obj.cells ((L.map (ip.int k)).toArray++H.toArray++Builtin.zeroCells zv.cells (T-(l+n))) g (0,0)=dI.obj p ⟨.ws k (F.take l++(xs.drop ox).take n++lc (T-(l+n)) 0),g⟩:=by
              rw[aM,UM,aZ];unfold dI.obj;rw[kN]
              congr 1
              simp only[H,List.map_append,List.append_toArray]
            have aO:=aP.trans aX;rw[a1];exact aO
         cases z with
         |none=>
          obtain⟨rfl,rfl,rfl⟩:=hz;refine aa 0 [] ?_ Y O
          have:=run_append_nil (P:=P) (w:=w) s o.type g ti zv am hi aB (pI p (x,ox)) n c2 H af R h0 O (by
            have:n*ti.bytes<=1048576*65536:=uN O aH
            omega)
          simp only[ir,V.ee,M6,oQ,Nw]at this⊢;rw[this];simp
         |some z=>
          obtain⟨ak,a7,a8⟩:=hz;have aE:=hr.obj _ _ ak K;by_cases ab:l+n<=c
          .obtain⟨e',hp,ap⟩:=av z K ab
           have ac:=run_append_room (P:=P) w s o.type g ti am hi (p z) l c (dZ p (eH.ws k F).list).toArray aE (pI p (x,ox)) n c2 H af R (by
             intro y hy;obtain⟨q,_,rfl⟩:=Mc.1 hy
             rfl) ab (by
             simp only[hs,jq,tN,gC,eH.list,pc]at af⊢
             omega)
           have aD:=hr.setRow ak K (.ws k (dC F ((xs.drop ox).take n) l)) K;refine⟨.s (E (z,0)) (l+n) c,_,_,ag (ac.trans ?_),aD,e',hp,ap⟩
           have aG:((dZ p (eH.ws k F).list).toArray.toList.take (l*ti.size)++H++(dZ p (eH.ws k F).list).toArray.toList.drop (l*ti.size+H.length))=dZ p (eH.ws k (dC F ((xs.drop ox).take n) l)).list:=by rw[kN,kN,xy,hs,jq]
           rw[aG];rfl
          .refine aa c (F.take l) ?_ K O
           have ac:=run_append_grow (P:=P) (w:=w) s o.type g ti zv am hi aB (pI p (z,0)) l c ((F.take l).map (ip.int k)) (by simp only[pc,gR,hs];omega) (by
             intro j y hj;rw[nE,hr.cell ak K];simp only[eH.list,lK];simp only[uf,nF,ir]at hj⊢;split at hj
             .exact hj
             .cases hj) (pI p (x,ox)) n c2 H af R O O (by
             have a6:Builtin.nextslicecap (l+n) c<=2*(l+n):=nextslicecap_le O;have:Builtin.nextslicecap (l+n) c*ti.bytes<=2097152*65536:=uN O aH
             omega)
           exact ac
       .cases M
      .cases M
     .cases M
    .cases M
   .cases M
  .cases M
def Ub(P:Program)(m:Nat->String->Option Nat):Prop:=
  ∀j s g,m j s=E g-> ∀(a:Addr)(w:ii),(method (P.types.size+Made.depth) j (.pointer (E a)) s).run P w= .ok (g,.pointer (E a)) w
def qn(C:fw)(m:Nat->String->Option Nat)(t:List Item)(e:eZ):Option (FuncId×List V×Option Tmp):=
  match t with
  | .inRegion T (i::_)::_=>match T.toList[i]? with
    |some o=>match o.op with
     | .call c=>match c.callee with
       | .invoke S s=>match ia T.toList e o,fC C e S,nX C e c.args.toList with
         |some G,E (.y j (.p (E a))),E L=>match m j s with
          |some g=>E (g,.p (E a)::L,o.dst)
          |none=>N
         |_,_,_=>N
       |_=>N
     |_=>N
    |none=>N
  |_=>N
def lC{t2:List Item}{me:Nat->String->Option Nat}(aw:Ub P me)(aq:RD P C)(j:Nat)(z:List Bool)(l:List Nat)(aa:List Bool){vs:List V}{T:eZ}{v:dE}(h:(match eC C n j l t ⟨e,m,z,[]⟩with|(t1,T,v,o1)=>(qn C me t1 T,iF t1,T,v,o1))=(E (g,vs,d),t2,T,v,aa))(ho:eb aa=G)(ao:jv m.length ds=G)(ab:jv v.length ds=G)(ah:eo P g)(af:eM P C.mw g vs v Q1)(an:fZ v.length T=G)(hk: ∀r m',Q1 r m'->v.length<=m'.length-> ∃e',fA n T d r=E e'/\Ev P C f n b ds t2 e' m' Q):Ev P C f n b ds t e m Q:=by
  generalize hx:eC C n j l t ⟨e,m,z,[]⟩=x at h;obtain⟨t1,e2,m2,o1⟩:=x;simp only[ef]at h;obtain⟨M,rfl,rfl,rfl,rfl⟩:=h;refine Ev.go aq j z l (by rw[hx]) (by rw[hx]) (by rw[hx]) (by rw[hx]) ho ao ?_;unfold qn at M;split at M
  .rename_i p i az k;split at M
   .rename_i o av;split at M
    .rename_i cc ar;split at M
     .rename_i rx s ag;split at M
      .rename_i ty F S u ap ac;split at M
       .rename_i g' ay;simp only[eJ,ef]at M;obtain⟨rfl,rfl,rfl⟩:=M;intro q a w R hb hr he hg hn hd hR;have ae:p[i]?=E o:=by simpa using av
        have H:=gg he u;have aj:p=p.toList.toArray:=Y;rw[<-aj]at H;refine po ae H ?_;obtain⟨ga,c,ak⟩:=cc;simp only at ag ac;subst ag;unfold Oper.wp
        have y:c.map a.eval=(dZ q S).toArray:=by apply nh;simpa using jH he hg ac
        have ad:(execOp a.eval o).run P w= .ok (.enter g' (dZ q (.p (E F)::S)).toArray) w:=by
          unfold execOp;rw[ar];show(do let dd<-resolve a.eval ⟨.invoke rx s,c,ak⟩ o.type;invoke dd.target dd.args:Sem Next).run P w=_;have hv:a.eval rx= .iface ty (.pointer (E (pI q F))):=by rw[ff he hg ap];rfl
          simp only[resolve,invoke,hv,y,fr,iV,gv];have T:((#[ip.iface ty (.pointer (E (pI q F)))]++(dZ q S).toArray)[0]?:Option ip)=E (.iface ty (.pointer (E (pI q F)))):=Y
          have e2:(#[ip.iface ty (.pointer (E (pI q F)))]++(dZ q S).toArray).extract 1 (#[ip.iface ty (.pointer (E (pI q F)))]++(dZ q S).toArray).size=(dZ q S).toArray:=by apply nh;simp
          rw[T];simp only[e2,callMethod,fr,LF,gv,aw ty s g' ay (pI q F) w];rw[gT ah]
          congr 2
          apply nh;simp[dZ,V.ee]
        rw[ad,Am];refine(af q w hr hg).mono ?_;rintro en w'⟨al,r,m',am,rfl,hq⟩;have L:=am.whole;obtain⟨e',hp,ax⟩:=hk r m' hq L.len;exact ax al _ w' R (mh hb L.len) L.rel ((he.kg an L.ln).put hn hp) (hg.kg L.len L.ln) (by rw[iH,hn]) (by rw[put_defers,hd,jE L.ln ab]) λ_ _ hp=>hR _ _ (hp.after hb L)
       .cases M
      .cases M
     .cases M
    .cases M
   .cases M
  .cases M
def awy(P:Program)(t ty:Nat):Prop:=
  ∀(R:Addr)(w:ii),(binOp .eql t (.iface ty (.pointer (E R))) (.iface ty (.pointer (E R)))).run P w= .ok (.bool G) w/\(binOp .neq t (.iface ty (.pointer (E R))) (.iface ty (.pointer (E R)))).run P w= .ok (.bool A) w
def Um:BinOp->Option Bool
  | .eql=>E G
  | .neq=>E A
  |_=>N
def fs(b:Nat)(m M:dE):Prop:=
  ∀q w,jA q m w-> ∃l,(∀i,i<b->l i=q i)/\jA l M w/\ ∀c,kW l M w c->kW q m w c
def fs.refl(b:Nat)(m:dE):fs b m m:=λq _ y=>⟨q,λ_ _=>rfl,y,λ_ h=>h⟩
def fs.trans(h:fs b m u)(a:fs b u M):fs b m M:=λq w y=>by obtain⟨d,F,f,H⟩:=h q w y;obtain⟨l,P,L,e⟩:=a d w f;exact⟨l,λi g=>by rw[P i g,F i g],L,λc s=>H c (e c s)⟩
def fs.G6(H:b<=m.length)(r: ∀q w,jA q m w->vX q m w q u)(h:fs b u M):fs b m M:=λq w y=>by obtain⟨l,P,L,a⟩:=h q w (r q w y).rel;exact⟨l,P,L,λc s=>(r q w y).K3 c (a c s)⟩
def fs.close(i j:Nat){L:es}{n:Bool}{T:Nat}{p:List Int}(H:b<=m.length)(d:i≠j)(g:m[i]?=E ⟨.lit [.b n,.s (E (j,0)) T p.length],ty⟩)(a:m[j]?=E ⟨.ws .u64 p,L⟩)(Q:fX n p T v)(h:fs b ((m.set i ⟨.int v,ty⟩).set j ⟨.dead,L⟩) M):fs b m M:=
  .G6 H (λ_ _ y=>y.close d g a Q) h
def fs.close'(i j:Nat){L:es}{n:Bool}{T F:Nat}{p:List Int}(H:b<=m.length)(d:i≠j)(g:m[i]?=E ⟨.lit [.b n,.s (E (j,0)) T F],ty⟩)(a:m[j]?=E ⟨.ws .u64 p,L⟩)(s:p.length=F)(Q:fX n p T v)(h:fs b ((m.set i ⟨.int v,ty⟩).set j ⟨.dead,L⟩) M):fs b m M:=by
  subst s;exact .close i j H d g a Q h
def fs.nU(i:Nat)(H:b<=m.length)(g:m[i]?=E ⟨.lit [.b A,.s N 0 0],ty⟩)(h:fs b (m.set i ⟨.int 0,ty⟩) M):fs b m M:=
  .G6 H (λ_ _ y=>y.nU g) h
def fs.drop(i:Nat)(ty:es)(H:b<=m.length)(g:m[i]?=E x)(h:fs b (m.set i ⟨.dead,ty⟩) M):fs b m M:=
  .G6 H (λ_ _ y=>y.drop g ty) h
def DD(q:Nat->Nat)(n s:Nat):Nat->Nat:=λk=>if k<n then q k else s+(k-n)
def fs.take(n:Nat)(H:b<=n)(p:n<=m.length)(o:m.take n=M)(d:ek n M=G):fs b m M:=λq w y=>by
  subst o;have f:(m.take n).length=n:=gp;have z: ∀k,k<n->DD q n w.heap.size k=q k:=λk R=>by simp[DD,R]
  have get: ∀k x,(m.take n)[k]?=E x->k<n/\m[k]?=E x:=λk x L=>by
    rw[nF]at L;split at L
    .rename_i h;exact⟨h,L⟩
    .cases L
  refine⟨DD q n w.heap.size,λi g=>z i O,⟨λk x L=>?_,λk e x v c L j s r=>?_,λk R=>?_,λk=>?_⟩,λc s=>?_⟩
  .obtain⟨a,S⟩:=get k x L;rw[z k a];exact(qC z (m5 d k x L)).2 (y.cells k x S)
  .obtain⟨a,S⟩:=get k x L;obtain⟨l,u⟩:=get e v j;rw[z k a]at s;rw[z e l]at r;exact y.inj k e x v c S u s r
  .rw [f]at R;rw[z k R];exact y.lt k O
  .unfold DD;rw[f,if_neg O];omega
  .rcases s with⟨k,R,rfl⟩ |⟨k,x,L,F⟩
   .rw [f]at R;rw[z k R];exact .inl ⟨k,O,K⟩
   .obtain⟨a,S⟩:=get k x L;rw[z k a]at F;exact .inr ⟨k,x,S,F⟩
def eM.rP{x:V->dE->Prop}(h:eM P R f args m Q)(z: ∀r a,Q r a-> ∃M,fs m.length a M/\m.length<=M.length/\r.wf m.length=G/\x r M):eM P R f args m x:=by
  intro q w y p;refine(h q w y p).mono λt S e=>?_
  obtain⟨d,r,a,L,j,o⟩:=e;obtain⟨M,v,k,b,u⟩:=z r a o;obtain⟨l,F,n,H⟩:=v d S L.rel;exact⟨l,r,M,⟨λi g=>by rw[F i g,L.ln i g],k,λc s=>L.new c (H c s),n,L.iY⟩,by rw[j,gx F r b],u⟩
def eV{b:Nat->Option Nat}{R:V}(c:m.length<=M.length)(L:R.wf m.length=G)(h:eM P b f args m (λr q=>r=R/\fs m.length q M)):eM P b f args m (λr u=>r=R/\u=M):=
  h.rP λ_ _⟨a,S⟩=>⟨M,S,c,by rw[a];exact L,a,K⟩
def eM.ld(i:Nat)(g:m[i]?=E ⟨.int v,ty⟩)(d:ek m.length m=G)(t:nd m.length args=G)(C:v=0->eM P R f args (m.set i ⟨.lit [.b A,.s N 0 0],ty⟩) Q)(M: ∀n p T L,fX n p T v->eM P R f args (m.set i ⟨.lit [.b n,.s (E (m.length,0)) T p.length],ty⟩++[⟨.ws .u64 p,L⟩]) Q):eM P R f args m Q:=
  eM.Ke t λq w y=>by
    rcases y.open d g with⟨a,r⟩ |⟨n,p,T,L,l,a,r⟩
    .exact⟨q,_,r,C a⟩
    .exact⟨l,_,r,M n p T L a⟩
def Ev.ld(i:Nat)(g:m[i]?=E ⟨.int v,ty⟩)(d:ek m.length m=G)(j:fZ m.length e=G)(z:jv m.length H=G)(h:v=0->Ev P C f n b H t e (m.set i ⟨.lit [.b A,.s N 0 0],ty⟩) Q)(M: ∀a p T L,fX a p T v->Ev P C f n b H t e (m.set i ⟨.lit [.b a,.s (E (m.length,0)) T p.length],ty⟩++[⟨.ws .u64 p,L⟩]) Q):Ev P C f n b H t e m Q:=
  Ev.Ke j z λq w y=>by
    rcases y.open d g with⟨c,r⟩ |⟨a,p,T,L,l,c,r⟩
    .exact⟨q,_,r,h c⟩
    .exact⟨l,_,r,M a p T L c⟩
def Ev.rP{o:Ds}(x:Nat)(M:dE)(y:fs x m M)(hb:b<=x)(u:x<=M.length)(p: ∀g i,C.mw g=E i->i<x)(he:fZ x e=G)(hd:jv x o=G)(h:Ev P C f n b o t e M Q):Ev P C f n b o t e m Q:=by
  intro q a w R aa hr T z hn j hR;obtain⟨l,F,a2,H⟩:=y q w hr;refine h l a w R (mh hb u) a2 (T.kg he F) (λg i d=>⟨pY (p g i d) u,by rw[F i (p g i d)];exact(z g i d).2⟩) hn (by rw[j,jE F hd]) λen S hp=>hR en S ?_
  obtain⟨k,r,v,L,h1,h2⟩:=hp;exact⟨k,r,v,⟨λi d=>by rw[L.ln i d,F i O],L.len,λc s=>(L.new c s).imp id (H c),L.rel,L.iY.mono λc _ s=>H c s⟩,h1,h2⟩
def mD{F:List V->dE->Option (V×dE×Bool)}(h: ∀args m r u,F args m=E (r,u,G)-> ∃(c:Nat->Option Nat)(o:List Nat)(H:dE)(a:List V)(C:V)(w:dE),eM P c f a H (λk q=>k=C/\q=w)/\sJ m (sg o m.length) o H/\o.Nodup/\
     (∀g i,c g=E i-> ∃j,o[i]?=E j/\R g=E j)/\ek m.length m=G/\args=ml (sg o m.length) a/\r=C.iU (sg o m.length)/\u=fW m o w):qI P R f F:=by
  refine jR λargs m r u T=>?_
  obtain⟨c,o,H,a,C,w,s,L,x,p,d,rfl,rfl,rfl⟩:=h args m r u T;refine(s.lift (gl:=R) o L x p d).mono ?_;rintro Q M⟨b,l,⟨rfl,rfl⟩,_,rfl,rfl⟩;exact⟨K,K⟩
def jA.Xm(h:jA q m w)(d:ek m.length m=G)(g:i<m.length)(ty:es): ∃l,vX q m w l (m++[⟨.dead,ty⟩]):=by
  have j: ∀k,k<m.length->Iq q m.length (q i) k=q k:=λk R=>by simp only[Iq,R,oH]
  have H:Iq q m.length (q i) m.length=q i:=by simp[Iq]
  have get: ∀k z,(m++[⟨.dead,ty⟩])[k]?=E z->(k<m.length/\m[k]?=E z)∨z=⟨.dead,ty⟩:=λk z o=>by
    by_cases R:k<m.length
    .rw [oF R]at o;exact .inl ⟨R,o⟩
    .have t:k=m.length:=by have:=(fQ.1 o).1;simp at this;omega
     subst t;rw[pP (eT _)]at o;simp at o;exact .inr o.symm
  refine⟨Iq q m.length (q i),j,Y,λc s=>?_,⟨λk z o=>?_,λk b z Q c o a s r=>?_,λk R=>?_,λk=>?_⟩⟩
  .rcases s with⟨k,R,rfl⟩ |⟨k,z,o,s⟩
   .by_cases t:k<m.length
    .exact .inl ⟨k,t,(j k t).symm⟩
    .have:k=m.length:=by simp at R;omega
     subst this;exact .inl ⟨i,g,H.symm⟩
   .rcases get k z o with⟨R,o⟩ |rfl
    .rw [j k R]at s;exact .inr ⟨k,z,o,s⟩
    .exact s.elim
  .rcases get k z o with⟨R,o⟩ |rfl
   .rw [j k R];exact(qC j (m5 d k z o)).2 (h.cells k z o)
   .trivial
  .rcases get k z o with⟨R,o⟩ |rfl
   .rcases get b Q a with⟨t,a⟩ |rfl
    .rw [j k R]at s;rw[j b t]at r;exact h.inj k b z Q c o a s r
    .exact r.elim
   .exact s.elim
  .by_cases t:k<m.length
   .rw [j k t];exact h.lt k t
   .have:k=m.length:=by simp at R;omega
    subst this;rw[H];exact h.lt i g
  .unfold Iq;simp only[gw,eI,fb];rw[if_neg O,if_neg O,(O:m.length+(0+1)+k-1=m.length+k)];exact h.next k
def vX.trans{d:Nat->Nat}{j:dE}(h:vX q m w l u)(F:vX l u w d j):vX q m w d j:=
  ⟨λi g=>by rw[F.ln i (pY g h.len),h.ln i g],mh h.len F.len,λc s=>h.K3 c (F.K3 c s),F.rel⟩
def vp: ∀{m:dE},ek n m=G↔ ∀(i:Nat)(x:dI),m[i]?=E x->mZ n x.c=G
  |[]=>by simp[ek]
  |y::r=>by
   simp only[ek,iv];constructor
   .rintro⟨M,S⟩i x L;cases i with
    |zero=>simp only[ph,eJ]at L;subst L;exact M
    |succ i=>simp only[kz]at L;exact vp.1 S i x L
   .intro h;exact⟨h 0 y K,vp.2 λi x L=>h (i+1) x (by simpa using L)⟩
def E0(h:ek n m=G)(L:mZ n x.c=G):ek n (m.set i x)=G:=
  vp.2 λj y Q=>by
    rcases qU Q with⟨_,rfl⟩ |⟨_,Q⟩
    .exact L
    .exact vp.1 h j y Q
def Buf(n:Nat)(v:Int)(nz:Bool)(a:Option (Nat×Nat))(w C:Nat)(b:dI):Prop:=
  (a=N/\w=0/\C=0/\nz=A/\v=0/\b=⟨.dead,0⟩)∨ ∃p j,a=E (n,0)/\b=⟨.ws .u64 p,j⟩/\C=p.length/\fX nz p w v
def zA(i:Nat)(g:m[i]?=E ⟨.int v,ty⟩)(d:ek m.length m=G)(t:nd m.length args=G)(h: ∀nz a j C b,Buf m.length v nz a j C b->tQ (m.length+1) a=G->eM P R f args (m.set i ⟨.lit [.b nz,.s a j C],ty⟩++[b]) Q):eM P R f args m Q:=
  eM.Ke t λq w y=>by
    have H:i<m.length:=(fQ.1 g).1;rcases y.open d g with⟨c,r⟩ |⟨n,p,T,L,l,c,r⟩
    .obtain⟨l,e⟩:=r.rel.Xm (by rw[gU];exact E0 d K) (i:=i) (by simpa using H) 0;exact⟨l,_,r.trans e,h A N 0 0 ⟨.dead,0⟩ (.inl ⟨K,K,K,K,c,K⟩) K⟩
    .exact⟨l,_,r,h n _ T _ _ (.inr ⟨p,L,K,K,K,c⟩) (by simp[tQ])⟩
def Fi(i:Nat)(g:m[i]?=E ⟨.lit [.b A,.s N 0 0],ty⟩)(d:ek m.length m=G)(t:nd m.length args=G)(h:eM P R f args (m.set i ⟨.int 0,ty⟩) Q):eM P R f args m Q:=
  eM.Ke t λq _ y=>⟨q,_,y.nU g,h⟩
def asInt:dI->Option Int
  |⟨.int v,_⟩=>E v
  |⟨.lit [.b A,.s N 0 0],_⟩=>E 0
  |_=>N
end Go.Proofs.YtiggidfngfkanaaGreatDoor
