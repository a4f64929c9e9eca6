/- FnPacked, part 2. No condition. -/
import Derived.Test.YtiggidfngfkanaaGreatDoorW1
namespace Go.Proofs.YtiggidfngfkanaaGreatDoor
open Go
set_option maxRecDepth 100000
set_option maxHeartbeats 4000000
set_option linter.all false
open Bool renaming false->A, true->G
open Decidable renaming decide->D
open Go renaming IntKind->U, Value->ip, World->ii
open List renaming drop->kw, replicate->lc, take->jp
open Option renaming none->N, some->E
variable{a a':Act}{b:Bool}{fn:Func}{f:FuncId}{T ops:List Oper}{d i j n t:Nat}{l ρ:Nat->Nat}{L:Nat->Prop}{c o:Oper}{P:Program}{v:V}{m u:dE}{e y:eZ}{C:fw}{w w':ii}
def De(C:fw)(t:Nat):Option U:=
  match C.kM t with
  |some d=>match d.desc with
   | .int k=>bif Nat.beq d.size 1&&(match d.zero with|[.i z 0]=>uA k z|_=>A)then E k else N
   |_=>N
  |none=>N
def nT(C:fw)(t:Nat):Option Nat:=
  match C.kM t with
  |some d=>match d.desc with
   | .slice g=>E g
   |_=>N
  |none=>N
def dC(l L:List Int)(o:Nat):List Int:=l.take o++L++l.drop (o+L.length)
def Mg(C:fw)(m:dE)(e:eZ)(o:Op):Option (V×dE×Bool):=
  match o with
  | .makeSlice t l c=>match nT C t,fC C e l,fC C e c with
    |some g,E (.i _ l),E (.i _ c)=>match De C g with
     |some k=>E (.s (E (m.length,0)) l.toNat c.toNat,m++[⟨.ws k (lc c.toNat 0),g⟩],D (0<=l/\l<=c/\0<c/\c<=1048576))
     |none=>N
    |_,_,_=>N
  | .buildSlice t T H=>match nT C t,yj C e H.toList with
    |some g,E b=>match De C g with
     |some k=>match sE (λi=>E (i*1,1)) (lc T (.i k 0)) b with
      |some l=>match vF k l with
       |some R=>E (.s (E (m.length,0)) T T,m++[⟨.ws k R,g⟩],D (T<=1048576))
       |none=>N
      |none=>N
     |none=>N
    |_,_=>N
  | .call c=>match c.callee with
    | .builtin .copy=>match c.args.toList,c.argTypes.toList with
      |[x,y],[t,_]=>match nT C t,fC C e x,fC C e y with
       |some g,E (.s (E d) Q _),E (.s (E s) u _)=>match De C g,m[d.1]?,m[s.1]? with
        |some _,E ⟨.ws k S,j⟩,E ⟨.ws z q,_⟩=>bif uA k z then
           E (.i .i64 (Nat.min u Q:Nat),m.set d.1 ⟨.ws k (dC S ((q.drop s.2).take (Nat.min u Q)) d.2),j⟩,
             D (s.2+Nat.min u Q<=q.length/\d.2+Nat.min u Q<=S.length))else N
        |_,_,_=>N
       |_,_,_=>N
      |_,_=>N
    | .builtin .clear=>match c.args.toList,c.argTypes.toList with
      |[x],[t]=>match nT C t,fC C e x with
       |some g,E (.s (E d) n _)=>match De C g,m[d.1]? with
        |some z,E ⟨.ws k S,j⟩=>bif uA k z then
           E (.t [],m.set d.1 ⟨.ws k (dC S (lc n 0) d.2),j⟩,D (d.2+n<=S.length))else N
        |_,_=>N
       |_,_=>N
      |_,_=>N
    |_=>N
  |_=>N
section
variable{P:Program}{C:fw}{ρ:Nat->Nat}{m:dE}{e:eZ}{a:Act}{w:ii}
def vd(r:iq P C){k:U}(h:De C t=E k): ∃d i,C.kM t=E d/\P.info? t=E i/\i.size=1/\i.bytes<=65536/\ ∃z,i.zero=E z/\z.cells= #[.int k 0]:=by
  unfold De at h;split at h
  .rename_i d b;split at h
   .rename_i f R;cases s:(Nat.beq d.size 1&&(match d.zero with|[.i q 0]=>uA f q|_=>A))with
    |false=>rw[s]at h;cases h
    |true=>
     rw[s]at h;cases h;simp only[iv]at s;obtain⟨c,u⟩:=s;have c:=iB c;obtain⟨i,g,v,H,z,o,Q⟩:=(r _ _ b).info;refine⟨d,i,b,g,O,H,z,o,?_⟩;rw[Q id];split at u
     .rename_i q M;have:=sW u;subst this;rw[M];rfl
     .cases u
   .cases h
  .cases h
def nv(r:iq P C){g:Nat}(h:nT C t=E g):P.underlying t=E (.slice g):=by
  unfold nT at h;split at h
  .rename_i d z;split at h
   .rename_i q R;cases h;rw[(r _ _ z).YM,R]
   .cases h
  .cases h
def kN(ρ:Nat->Nat)(k:U)(l:List Int):dZ ρ (eH.ws k l).list=l.map (ip.int k):=lK ρ k l
def xy(f:Int->ip)(l L:List Int)(o:Nat):(dC l L o).map f=(l.map f).take o++L.map f++(l.map f).drop (o+(L.map f).length):=by simp only[dC,List.map_append,Mx,Ew,pc]
def avl(P:Program)(ρ:Nat->Nat)(m:dE)(w:ii)(a:Act)(o:Oper)(v:V)(u:dE):Prop:=
  ∃S,(execOp a.eval o).run P w= .ok (.value (v.ee ρ)) S/\qE ρ m w ρ u S
def o6(n:Nat)(x:ip):((Array.range n).map λi=>(#[x]:Array ip)[i%1]!)=(lc n x).toArray:=by
  apply nh;simp only[Array.toList_map,Array.toList_range];apply AP;intro i;simp only[uf,YZ];by_cases h:i<n
  .simp [h,Nat.mod_one]
  .simp [h]
def AT(ρ:Nat->Nat)(k:U)(n:Nat):dZ ρ ((lc n (0:Int)).map (V.i k))=lc n (.int k 0):=by rw[lK];simp
def aeh(ht:iq P C)(hr:jA ρ m w)(he:ik ρ e a)(hg:Gl ρ C m.length){m':dE}(h:Mg C m e o.op=E (v,m',G)):avl P ρ m w a o v m':=by
  have EV:= @ff ρ C e a m.length he hg;have h0:ρ m.length=w.heap.size:=by simpa using hr.next 0
  obtain⟨aw,op,ty,av,aq,guard⟩:=o;simp only at h;unfold Mg at h;split at h
  .rename_i t l c;split at h
   .rename_i g k1 l k2 c h1 h2 h3;split at h
    .rename_i k h4;simp only[eJ,ef,eG]at h;obtain⟨rfl,rfl,c1,c2,c4,c3⟩:=h;obtain⟨d,i,hd,r,hs,hb,z,hz,Q⟩:=vd ht h4;have hu:=nv ht h1;have wl:U.i64.wrap l=l:=by rw[qd];omega
     have wc:U.i64.wrap c=c:=by rw[qd];omega
     have n1: ¬c<0:=O
     have n2: ¬(281474976710656<(i.bytes:Int)*c):=by have:(i.bytes:Int)*c<=65536*1048576:=SO O O O O;omega
     have n3: ¬l<0:=O;have n4: ¬c<l:=O;refine⟨{w with heap:=w.heap.push (dI.obj ρ ⟨.ws k (lc c.toNat 0),g⟩)},?_,hr.push _ K⟩;unfold execOp;simp only[fr,EV h2,EV h3,V.ee]
     have b:dI.obj ρ ⟨.ws k (lc c.toNat 0),g⟩= .cells ((Array.range c.toNat).map λi=>(#[.int k 0]:Array ip)[i%1]!) g (0,0):=by rw[o6];simp only[dI.obj,eH.list,AT]
     rw[b];have ap: ¬c.toNat=0:=O
     have:(Instr.makeSlice t (.int k1 l) (.int k2 c)).run P w= .ok (.slice (E ⟨w.heap.size,0,N⟩) l.toNat c.toNat) {w with heap:=w.heap.push (.cells ((Array.range c.toNat).map λi=>(#[.int k 0]:Array ip)[i%1]!) g (0,0))}:=by simp only[Instr.makeSlice,fr,pd hu,typeInfo,r,asInt,asIntOf,gv,iV,LF,wl,wc];simp[n1,n2,n3,n4,sizeOf,typeInfo,r,hs,ap,askRoom,newRow,zeroValue,hz,Q]
     rw[this];simp[pI,h0]
    .cases h
   .cases h
  .rename_i t T H;split at h
   .rename_i g ps h1 h2;split at h
    .rename_i k h4;split at h
     .rename_i l hl;split at h
      .rename_i ns an;simp only[eJ,ef,eG]at h;obtain⟨rfl,rfl,c1⟩:=h;obtain⟨d,i,hd,r,hs,hb,z,hz,Q⟩:=vd ht h4;have hu:=nv ht h1;refine⟨{w with heap:=w.heap.push (dI.obj ρ ⟨.ws k ns,g⟩)},?_,hr.push _ K⟩;unfold execOp;simp only[fr]
       have hp:H.map (λx=>(x.1,a.eval x.2))=(ps.map λx=>(x.1,x.2.ee ρ)).toArray:=by apply nh;simpa using wM (ρ:=ρ) he hg h2
       have b:dI.obj ρ ⟨.ws k ns,g⟩= .cells (dZ ρ l).toArray g (0,0):=by simp only[dI.obj,eH.list,px an]
       have hf:=xR (ρ:=ρ) _ (λi=>E (i*1,1)) (λi p hp=>hp) ps (lc T (.i k 0)) l hl
       have al:(dZ ρ (lc T (V.i k 0))).toArray=(Array.range T).map λi=>(#[.int k 0]:Array ip)[i%1]!:=by rw[o6,lX];simp[V.ee]
       rw[al]at hf;have n1: ¬(16777216<T):=O
       have:(Instr.buildSlice t T (ps.map λx=>(x.1,x.2.ee ρ)).toArray).run P w= .ok (.slice (E ⟨w.heap.size,0,N⟩) T T) {w with heap:=w.heap.push (.cells (dZ ρ l).toArray g (0,0))}:=by
         simp only[Instr.buildSlice,fr,pd hu,gv,sizeOf,typeInfo,r,iV,LF,hs,jq];simp only[jq]at hf;have e0: ∀f:Nat->ip,(Array.range 0).map f= #[]:=by intro f;simp
         by_cases af:T=0
         .subst af;rw[e0]at hf;simp[e0,hf,newRow]
         .simp [af,n1,zeroValue,typeInfo,r,hz,Q,newRow];simp at hf;simp[hf]
       rw[show(H.map λ(i,x)=>(i,a.eval x))=H.map (λx=>(x.1,a.eval x.2))from K,hp,this,b];simp[V.ee,pI,h0]
      .cases h
     .cases h
    .cases h
   .cases h
  .rename_i c;obtain⟨ga,xs,ah⟩:=c;simp only at h;split at h
   .split at h
    .rename_i x y t t2 hx ac;split at h
     .rename_i g d dl dc s sl sc h1 h2 h3;split at h
      .rename_i k0 k S L k' ls ar h4 h5 h6;cases hk:uA k k' with
       |false=>rw[hk]at h;cases h
       |true=>
        rw[hk]at h;have:=sW hk;subst this;simp only[gq,eJ,ef,eG]at h;obtain⟨rfl,rfl,c1,c2⟩:=h;obtain⟨td,i,am,r,hs,hb,z,hz,Q⟩:=vd ht h4;have hu:=nv ht h1;have aa:xs= #[x,y]:=by rw[<-sa];simpa using hx
        have ad:ah= #[t,t2]:=by rw[<-sa];simpa using ac
        subst aa;subst ad;let R:List ip:=((ls.drop s.2).take (Nat.min sl dl)).map (ip.int k);have ag:R.length=Nat.min sl dl:=by simp only[R,pc,gR,jK];omega
        have F:=hr.obj _ _ h5 K
        have q:=run_copy_row (P:=P) w t t2 ty g (ρ d.1) d.2 dl dc (pI ρ s) sl sc (dZ ρ (eH.ws k S).list).toArray L R hu (by simp[r,hs]) F ag (λj u hj=>by
          rw[nE,hr.cell h6 K];simp only[eH.list,lK];simp only[R,uf,nF,jY]at hj⊢;split at hj
          .exact hj
          .cases hj) (by simp only[tN,gC,eH.list,pc];omega) (by
          intro u ab;obtain⟨n,_,rfl⟩:=Mc.1 ab
          rfl)
        have ao:d.1<m.length:=(fQ.1 h5).1;refine⟨w.setRow (ρ d.1) (dZ ρ (eH.ws k (dC S ((ls.drop s.2).take (Nat.min sl dl)) d.2)).list).toArray,?_,hr.setRow h5 K _ K⟩;unfold execOp;have e1:(pI ρ d)=⟨ρ d.1,d.2,N⟩:=K;rw[kN]at q;rw[kN,xy]
        have M:(List.map (ip.int k) S).toArray.toList.take d.2++R++(List.map (ip.int k) S).toArray.toList.drop (d.2+R.length)=
         jp d.2 (List.map (ip.int k) S)++R++kw (d.2+R.length) (List.map (ip.int k) S):=rfl
        rw[M]at q;show(do let dd<-resolve a.eval ⟨.builtin .copy,#[x,y],#[t,t2]⟩ ty;invoke dd.target dd.args:Sem Next).run P w=_;have e2:goInt (R.length:Nat)= .int .i64 (Nat.min sl dl:Nat):=by rw[ag];rfl
        rw[e2]at q;rw[<-e1]at q;simp only[resolve,invoke,builtin,EV h2,EV h3,V.ee,oQ,SG,nA,Nw,fr,iV,gv,q];rfl
      .cases h
     .cases h
    .cases h
   .split at h
    .rename_i x t hx ac;split at h
     .rename_i g d n dc h1 h2;split at h
      .rename_i k' k S L h4 h5;cases hk:uA k k' with
       |false=>rw[hk]at h;cases h
       |true=>
        rw[hk]at h;have:=sW hk;subst this;simp only[gq,eJ,ef,eG]at h;obtain⟨rfl,rfl,c1⟩:=h;obtain⟨td,i,am,r,hs,hb,z,hz,Q⟩:=vd ht h4;have hu:=nv ht h1;have aa:xs= #[x]:=by rw[<-sa];simpa using hx
        have ad:ah= #[t]:=by rw[<-sa];simpa using ac
        subst aa;subst ad;have ao:d.1<m.length:=(fQ.1 h5).1;refine⟨w.setRow (ρ d.1) (dZ ρ (eH.ws k (dC S (lc n 0) d.2)).list).toArray,?_,hr.setRow h5 K _ K⟩;have F:=hr.obj _ _ h5 K
        have ak:(Builtin.zeroCells #[.int k 0] n).toList=lc n (.int k 0):=by have:=o6 n (.int k 0);simp only[Builtin.zeroCells,tN,eI,fb,ir,jq];rw[this]
        have ae:=run_storeCells_at P (ρ d.1) d.2 L (lc n (.int k 0)) 0 (dZ ρ (eH.ws k S).list).toArray w F
          (by simp only[tN,gC,eH.list,pc,fJ];omega) (by
            intro u ab
            rw[(List.mem_replicate.1 ab).2];rfl)
        unfold execOp;have e1:(pI ρ d)=⟨ρ d.1,d.2,N⟩:=K
        have aj:(Builtin.clear_ #[t] ty #[.slice (E (pI ρ d)) n dc]).run P w= .ok (.tuple #[]) (w.setRow (ρ d.1) (dZ ρ (eH.ws k (dC S (lc n 0) d.2)).list).toArray):=by
          have M:((dZ ρ (eH.ws k S).list).toArray.toList.take (d.2+0)++lc n (.int k 0)++(dZ ρ (eH.ws k S).list).toArray.toList.drop (d.2+0+(lc n (ip.int k 0)).length))=
           dZ ρ (eH.ws k (dC S (lc n 0) d.2)).list:=by rw[kN,kN,xy];simp only[List.map_replicate,fJ,j3]
          rw[M]at ae;cases n with
          |zero=>
           have:w.setRow (ρ d.1) (dZ ρ (eH.ws k (dC S (lc 0 0) d.2)).list).toArray=w:=by simp only[List.replicate_zero,dC,jx,fb,j3,Ae];exact setRow_self w (ρ d.1) _ L (0,0) F
           rw[this];simp[Builtin.clear_,pd hu]
          |succ n=>
           simp only[Builtin.clear_];simp[pd hu,zeroValue,typeInfo,r,hz,Q,ak,e1];rw[ae];rfl
        simp[resolve,invoke,builtin,EV h2,V.ee,aj,dZ]
      .cases h
     .cases h
    .cases h
   .cases h
  .cases h
end
def nH(P:Program)(f:FuncId)(todo:List Item)(a:Act)(w:ii)(R:Ending->ii->Prop):Prop:=
  ∀(b:Frame)(o:List Frame),b.fn=f->(b.kind= .normal∨b.kind= .deferred)-> ∃i w' x,R i w'/\Comes P (lone (b.at a todo) o w) (lone x o w') i/\x.fn=f/\x.kind=b.kind/\x.going P w' i
def J7{x:Frame}{i:Ending}(b:x.kind= .normal)(h:x.going P w i):x.leaving P w i:=by
  cases i with
  |returned v=>exact⟨h.1,h.2.1,b,h.2.2⟩
  |panicked s=>exact h
  |outgrown=>trivial
def rC{c:Code}{args:Array ip}{R:Ending->ii->Prop}(t:P.funcs[f]?=E fn)(H:fn.body=E c)(h:nH P f [.code c] {tmps:=args++Array.replicate (fn.ntmps-args.size) undef,defers:=[]} w R):Calls P f args w R:=by
  intro o
  have q:Frame.enter P f args .normal=
   ({(default:Frame)with fn:=f,kind:= .normal}:Frame).at {tmps:=args++Array.replicate (fn.ntmps-args.size) undef,defers:=[]} [.code c]:=by simp[Frame.enter,Frame.at,t,H]
  rw[q];obtain⟨i,w',x,L,s,d,b,p⟩:=h ({(default:Frame)with fn:=f,kind:= .normal}:Frame) o K (.inl K);exact⟨i,w',x,L,s,d,J7 b p⟩
def Dk{c:Code}{args:Array ip}{u:FrameMode}{R:Ending->ii->Prop}(t:P.funcs[f]?=E fn)(H:fn.body=E c)(h:nH P f [.code c] {tmps:=args++Array.replicate (fn.ntmps-args.size) undef,defers:=[]} w R):CallsD P f args u w λi T w'=>T=u/\R i w':=by
  intro j o F
  have q:Frame.enter P f args .deferred=
   ({(default:Frame)with fn:=f,kind:= .deferred}:Frame).at {tmps:=args++Array.replicate (fn.ntmps-args.size) undef,defers:=[]} [.code c]:=by simp[Frame.enter,Frame.at,t,H]
  have l:({j with mode:=u}:Frame)=j:=by subst F;rfl
  obtain⟨i,w',x,L,s,_,b,p⟩:=h ({(default:Frame)with fn:=f,kind:= .deferred}:Frame) (j::o) K (.inr K);exact⟨i,u,w',x,⟨K,L⟩,by rw[l,q];exact s,b,p⟩
def nH.mono{todo:List Item}{R q:Ending->ii->Prop}(h:nH P f todo a w R)(y: ∀e w,R e w->q e w):nH P f todo a w q:=
  λb o M S=>let⟨i,w',x,L,r⟩:=h b o M S;⟨i,w',x,y _ _ L,r⟩
section
variable{P:Program}{f:FuncId}{todo todo' k:List Item}{a a':Act}{w w':ii}{R:Ending->ii->Prop}
def ou(v: ∀(b:Frame)(o:List Frame),step P (lone (b.at a todo) o w)= .next (lone (b.at a' todo') o w'))(h:nH P f todo' a' w' R):nH P f todo a w R:=
  λb o M S=>let⟨i,z,x,L,s,r⟩:=h b o M S;⟨i,z,x,L,uK (.one (v b o)) s,r⟩
def yL{c:Code}(h:c.wp P (λe a' w'=>e= .normal/\nH P f k a' w' R) a w):nH P f (.code c::k) a w R:=by intro b o M S;obtain⟨e,a',w',⟨rfl,y⟩,q⟩:=h b k o;obtain⟨i,z,x,L,s,r⟩:=y b o M S;exact⟨i,z,x,L,uK q s,r⟩
def vl{v:ip}(t:P.funcs[f]?=E fn)(y:(results fn a.tmps).run P w= .ok v w)(z:a.defers=[])(L:R (.returned v) w):
    nH P f (.code .ret::k) a w R:=by
  intro b o M S;exact⟨.returned v,w,{b.at a (.code .ret::k)with mode:= .returning},L,.one step_ret,M,K,K,z,fn,by simpa[Frame.at,M]using t,y⟩
def vk{v:ip}(t:P.funcs[f]?=E fn)(y:(results fn a.tmps).run P w= .ok v w)(z:a.defers=[])(L:R (.returned v) w):
    nH P f [] a w R:=by
  intro b o M S;exact⟨.returned v,w,{b.at a []with mode:= .returning},L,.one step_end,M,K,K,z,fn,by simpa[Frame.at,M]using t,y⟩
def po{T:Array Oper}{F:List Nat}(ho:T[i]?=E o)(hw:Region.wanted o (yielded T a.tmps)=G)(h:o.wp P a w (λa' w'=>nH P f (.inRegion T F::k) a' w' R) (λ_ _ _=>False)):nH P f (.inRegion T (i::F)::k) a w R:=by
  intro b p h1 S;have u:=stepG_op (P:=P) (b:=b) (k:=k) (cs:=p) (w:=w) (rest:=F) ho hw
  have M: ∀v,(b.at a (.inRegion T (i::F)::k)).finish v=b.at (a.put o.dst v) (.inRegion T F::k):=by intro v;rw[Frame.finish_at,ho];rfl
  unfold Oper.wp Oper.upon at h;split at h
  .rename_i v w' y;obtain⟨t,z,x,L,hc,r⟩:=h b p h1 S;refine⟨t,z,x,L,uK (.one (Ib ?_)) hc,r⟩;rw[u,<-M];simp[stepG.apply,y]
  .rename_i w' y;obtain⟨t,z,x,L,hc,r⟩:=h b p h1 S;refine⟨t,z,x,L,uK (.one (Ib ?_)) hc,r⟩;rw[u,<-M];simp[stepG.apply,y]
  .rename_i d w' y;obtain⟨t,z,x,L,hc,r⟩:=h b p h1 S;refine⟨t,z,x,L,uK (.one (Ib ?_)) hc,r⟩
   have:({b.at a (.inRegion T (i::F)::k)with defers:=d::a.defers}:Frame).finish undef=
    b.at ({a with defers:=d::a.defers}.put o.dst undef) (.inRegion T F::k):=by have:=Frame.finish_at b {a with defers:=d::a.defers} T i F k undef;rw[ho]at this;exact this
   rw[u];simp only[stepG.apply,Sem.runT_eq,y,GStep.bare_after];exact kC (λx=>GStep.go {frame:=x,callers:=p,status:= .running,dying:=N} w') this
  .rename_i g args w' y;obtain⟨t,z,x,L,l,_,s⟩:=h (b.at a (.inRegion T (i::F)::k)::p)
   have q:step P (lone (b.at a (.inRegion T (i::F)::k)) p w)=
    .next (lone (Frame.enter P g args .normal) (b.at a (.inRegion T (i::F)::k)::p) w'):=
     Ib (by rw[u];rcases S with S|S<;>simp[stepG.apply,y,Frame.at,S])
   cases t with
   |returned v=>
    obtain⟨c,w3,Q,j,H,r2⟩:=L b p h1 S;refine⟨c,w3,Q,j,uK (.head q (l.trans (.one ?_))) H,r2⟩;rw[<-M];exact step_leave_returned s
   |panicked aa=>exact L.elim
   |outgrown=>obtain⟨_,_,hq⟩:=L;exact hq.elim
  .rename_i row args w' y;obtain⟨v,z,L,l⟩:=h (b.at a (.inRegion T (i::F)::k)) p
   have q:step P (lone (b.at a (.inRegion T (i::F)::k)) p w)=
    .next (lone (Frame.ofRow P row args .normal) (b.at a (.inRegion T (i::F)::k)::p) w'):=
     Ib (by rw[u];rcases S with S|S<;>simp[stepG.apply,y,Frame.at,S])
   obtain⟨c,w3,Q,j,H,r2⟩:=L b p h1 S;refine⟨c,w3,Q,j,uK (.head q l) ?_,r2⟩;rw[M];exact H
  .exact h.elim
  .exact h.elim
def Pp{T:Array Oper}{F:List Nat}(c:T[i]?=E o)(d:Region.wanted o (yielded T a.tmps)=A)(h:nH P f (.inRegion T F::k) (a.put o.dst undef) w R):nH P f (.inRegion T (i::F)::k) a w R:=by
  refine ou (λb g=>?_) h;have:=step_op_skip (P:=P) (b:=b) (a:=a) (k:=k) (cs:=g) (w:=w) (ops:=T) (i:=i) (rest:=F) (by simp[c,d]);rw[this,c];rfl
end
structure eo(P:Program)(f:FuncId):Prop where
  is: ∃fn,P.funcs[f]?=E fn/\(fn.name== "runtime.NumGoroutine")=A/\fn.body.isNone=A
def qI(P:Program)(b:Nat->Option Nat)(f:FuncId)(F:List V->dE->Option (V×dE×Bool)):Prop:=
  ∀
   ρ m w args r u,F args m=E (r,u,G)->jA ρ m w->OQ ρ b m.length->Calls P f (dZ ρ args).toArray w λe w'=>
   ∃l:Nat->Nat,qE ρ m w l u w'/\e= .returned (r.ee l)
def EOK(P:Program)(f:FuncId)(F:List V->Option (V×Bool)):Prop:=
  ∀ρ w args v,F args=E (v,G)->(callFunc f (dZ ρ args).toArray).run P w= .ok (.value (v.ee ρ)) w
def oR(P:Program)(b:Nat->Option Nat)(f:FuncId)(F:List V->dE->Option (V×Bool)):Prop:=
  ∀
   ρ m w args r,F args m=E (r,G)->jA ρ m w->OQ ρ b m.length->Calls P f (dZ ρ args).toArray w λe w'=>
   ∃l:Nat->Nat,qE ρ m w l m w'/\e= .returned (r.ee l)
def ji(P:Program)(C:fw):Prop:=(∀f F,C.qf f=E F->eo P f/\oR P C.mw f F)/\(∀f F,C.fn f=E F->eo P f/\qI P C.mw f F)/\(∀f F,C.ext f=E F->EOK P f F)
structure RD(P:Program)(C:fw):Prop where
  m:P.follows .mixedOrders=G
  t:iq P C
  f:ji P C
noncomputable def dB(fn:Func):Code:=fn.body.getD .skip
def nX(C:fw)(e:eZ):List Operand->Option (List V)
  |[]=>E []
  |x::H=>match fC C e x,nX C e H with
   |some v,E L=>E (v::L)
   |_,_=>N
def fZ(m:Nat):eZ->Bool
  |[]=>G
  |x::r=>V.wf m x.2&&fZ m r
def pO:List V->Bool
  |[]=>G
  |x::r=>x.one&&pO r
def tf(c:eH)(j Q:Nat)(v:V):Option (eH×Bool):=
  match c with
  | .lit l=>match v with
    | .g L=>E (.lit (l.take j++L++l.drop (j+L.length)),ed (D (L.length=Q/\j+L.length<=l.length)) (pO L))
    |v=>E (.lit (l.set j v),ed (D (1=Q/\j<l.length)) v.one)
  | .ws k l=>match v with
    | .i z n=>bif uA z k then E (.ws k (l.set j n),D (1=Q/\j<l.length))else N
    |_=>N
  |_=>N
def HA{c:eH}{Q:Nat}{x:eH}(h:tf c j Q v=E (x,b)):x.isInt=A:=by
  cases c with
  |lit l=>
   simp only[tf]at h;split at h<;>(cases h;rfl)
  |ws k l=>
   cases v with
   |i z n=>
    simp only[tf]at h;cases d:uA z k with
    |true=>rw[d]at h;cases h;rfl
    |false=>rw[d]at h;cases h
   |_=>cases h
  |int v=>cases h
  |dead=>cases h
def FL{c:eH}{Q:Nat}{x:eH×Bool}(h:tf c j Q v=E x):c.live=G:=by
  cases c with
  |dead=>cases h
  |int v=>cases h
  |_=>rfl
def yV(C:fw)(m:dE)(e:eZ)(o:Op):Option (V×dE×Bool):=
  match o with
  | .alloc g=>match C.kM g with
    |some d=>E (.p (E (m.length,0)),m++[⟨.lit d.zero,g⟩],G)
    |none=>N
  | .box g x=>match fC C e x with
    |some v=>E (.p (E (m.length,0)),m++[⟨.lit v.cells,g⟩],pO v.cells)
    |none=>N
  | .store t l x=>match C.kM t,fC C e l,fC C e x with
    |some d,E (.p (E a)),E v=>match m[a.1]? with
     |some b=>match tf b.c a.2 d.size v with
      |some (c,o)=>E (.t [],m.set a.1 ⟨c,b.ty⟩,o)
      |none=>N
     |none=>N
    |_,_,_=>N
  | .call {callee:= .value (.func f),args:=H,.. }=>match C.fn f,nX C e H.toList with
      |some F,E L=>match F L m with
       |some (v,u,o)=>E (v,u,ed o (fZ m.length e))
       |none=>N
      |none,E L=>match C.ext f with
       |some F=>match F L with
        |some (v,o)=>E (v,m,o)
        |none=>N
       |none=>match C.qf f with
        |some F=>match F L m with
         |some (v,o)=>E (v,m,ed o (fZ m.length e))
         |none=>N
        |none=>N
      |_,_=>N
  |o=>match sD C m e o with
   |some (v,p)=>E (v,m,p)
   |none=>Mg C m e o
def ia(T:List Oper)(e:eZ)(o:Oper):Option Bool:=
  match o.guard with
  |none=>E G
  |some (j,i)=>match T[j]? with
   |some q=>match q.dst with
    |some d=>match e.get d with
     |some (.b x)=>E (x==i)
     |some (.t [])=>E A
     |_=>N
    |none=>N
   |none=>N
def fA(n:Nat)(e:eZ)(d:Option Tmp)(v:V):Option eZ:=
  match d with
  |none=>E e
  |some d=>bif Nat.blt d n then E ((d,v)::e)else N
def asked(T:List Oper)(i:Nat):Bool:=T.any λo=>match o.guard with|some (j,_)=>Nat.beq j i|none=>A
def l6(v:V)(z:List Bool):V×List Bool×List Bool:=
  match v with
  | .b x=>match z with
    |[]=>(.b x,[],[])
    |d::r=>(.b d,r,[x==d])
  |v=>(v,z,[])
def eb:List Bool->Bool
  |[]=>G
  |b::r=>match b with|true=>eb r|false=>A
def dX{b:Bool}{r:List Bool}:eb (b::r)=G↔b=G/\eb r=G:=by cases b<;>simp[eb]
def gS{l r:List Bool}:eb (l++r)=G↔eb l=G/\eb r=G:=by
  induction l with
  |nil=>simp[eb]
  |cons b l v=>simp only[ym,dX,v,and_assoc]
def air:Op->Bool
  | .move _=>A
  | .assign _=>A
  | .nilCheck _=>A
  | .extract _ _=>A
  | .fieldAddr _ _ _=>A
  | .field _ _ _=>A
  | .convert _ _ _=>A
  | .unOp _ _ _=>A
  | .alloc _=>A
  | .box _ _=>A
  | .pick _ _ _=>A
  | .build _ _=>A
  | .makeInterface _ _=>A
  | .binOp H _ _ _ _=>match H with
    | .quo=>G
    | .rem=>G
    | .shl=>G
    | .shr=>G
    |_=>A
  |_=>G
def Ll(o:Op)(b:Bool)(l:List Bool):List Bool:=bif air o then b::l else(match b with|true=>l|false=>A::l)
def nt{o:Op}{l:List Bool}(h:eb (Ll o b l)=G):eb l=G/\b=G:=by
  unfold Ll at h;cases d:air o with
  |true=>
   rw[d]at h;exact(dX.1 h).symm
  |false=>
   rw[d]at h;cases b with
   |true=>exact⟨h,K⟩
   |false=>exact absurd (dX.1 h).1 Y
structure St where
  e:eZ
  m:dE
  yS:List Bool
  ob:List Bool
variable{H s:St}
def Od(C:fw)(n:Nat)(T:List Oper)(i:Nat)(o:Oper)(s:St):Option St:=
  match ia T s.e o with
  |some G=>match yV C s.m s.e o.op with
   |some (v,u,p)=>match(bif asked T i then l6 v s.yS else(v,s.yS,[]))with
    |(t,q,L)=>match fA n s.e o.dst t with
     |some y=>E ⟨y,u,q,L++Ll o.op p s.ob⟩
     |none=>N
   |none=>N
  |some A=>match fA n s.e o.dst (.t [])with
   |some y=>E ⟨y,s.m,s.yS,s.ob⟩
   |none=>N
  |none=>N
def MO(C:fw)(n:Nat)(T:List Oper)(i:Nat)(o:Oper)(s:St):Option St:=
  match ia T s.e o with
  |some G=>match sD C s.m s.e o.op with
   |some (v,p)=>match(bif asked T i then l6 v s.yS else(v,s.yS,[]))with
    |(t,q,L)=>match fA n s.e o.dst t with
     |some y=>E ⟨y,s.m,q,L++Ll o.op p s.ob⟩
     |none=>N
   |none=>N
  |some A=>match fA n s.e o.dst (.t [])with
   |some y=>E ⟨y,s.m,s.yS,s.ob⟩
   |none=>N
  |none=>N
def ny(C:fw)(n:Nat)(T:List Oper):List Oper->Nat->St->Option St
  |[],_,s=>E s
  |o::r,i,s=>match MO C n T i o s with
   |some H=>ny C n T r (i+1) H
   |none=>N
def qO(C:fw)(n:Nat)(T:List Oper):List Oper->Nat->St->Option St
  |[],_,s=>E s
  |o::r,i,s=>match Od C n T i o s with
   |some H=>qO C n T r (i+1) H
   |none=>N
def avz:Op->Bool
  | .alloc _=>G
  | .box .. =>G
  | .store .. =>G
  | .call {callee:= .value _,.. }=>G
  | .call {callee:= .invoke ..,.. }=>G
  | .call {callee:= .builtin .copy,.. }=>G
  | .call {callee:= .builtin .clear,.. }=>G
  | .call {callee:= .builtin .append,.. }=>G
  | .makeSlice .. =>G
  | .buildSlice .. =>G
  | .defer _=>G
  |_=>A
def lh:List Oper->Nat
  |[]=>0
  |o::r=>bif avz o.op then 0 else(lh r).succ
def gN(e:eZ):List Nat->eZ
  |[]=>[]
  |t::r=>match e.get t with
   |some v=>(t,v)::gN e r
   |none=>gN e r
def lT: ∀{l:List Nat}{t:Nat}{v:V},(gN e l).get t=E v->e.get t=E v
  |[],_,_,h=>by cases h
  |u::r,t,v,h=>by
   simp only[gN]at h;split at h
   .rename_i x L;simp only[eZ.get]at h;cases H:Nat.beq u t with
    |true=>
     rw[H]at h;cases h;have:=iB H;subst this;exact L
    |false=>rw[H]at h;exact lT h
   .exact lT h
structure oz(n:Nat)(ρ:Nat->Nat)(m:dE)(a:Act)(w:ii)(e':eZ)(m':dE)(ρ':Nat->Nat)(a':Act)(w':ii):Prop where
  ext:qE ρ m w ρ' m' w'
  env:ik ρ' e' a'
  size:a'.tmps.size=n
  defers:a'.defers=a.defers
def oz.trans{d:Nat->Nat}{j:dE}{i:Act}{z:ii}{q:eZ}(h:oz n ρ m a w y u l a' w')(F:oz n l u a' w' q j d i z):oz n ρ m a w q j d i z:=
  ⟨h.ext.trans F.ext,F.env,F.size,F.defers.trans h.defers⟩
def oz.refl(y:jA ρ m w)(j:ik ρ e a)(x:a.tmps.size=n):oz n ρ m a w e m ρ a w:=
  ⟨.refl y,j,x,K⟩
def oz.rel(h:oz n ρ m a w y u l a' w'):jA l u w':=h.ext.rel
def oz.len(h:oz n ρ m a w y u l a' w'):m.length<=u.length:=h.ext.len
def oz.ln(h:oz n ρ m a w y u l a' w'): ∀i,i<m.length->l i=ρ i:=h.ext.ln
def iH(a:Act)(d:Option Tmp)(v:ip):(a.put d v).tmps.size=a.tmps.size:=by cases d<;>simp[Act.put]
def put_defers(a:Act)(d:Option Tmp)(v:ip):(a.put d v).defers=a.defers:=by cases d<;>rfl
def ik.put(j:ik ρ e a)(x:a.tmps.size=n){d:Option Tmp}(h:fA n e d v=E y):
    ik ρ y (a.put d (v.ee ρ)):=by
  cases d with
  |none=>cases h;exact j
  |some d=>
   simp only[fA]at h;cases z:Nat.blt d n with
   |false=>rw[z]at h;cases h
   |true=>
    rw[z]at h;cases h;have T:d<n:=by simpa[nD]using z
    intro t u F;simp only[eZ.get]at F;cases r:Nat.beq d t with
    |true=>
     rw[r]at F;cases F;have:d=t:=iB r;subst this;simp[Act.put,x,T]
    |false=>
     rw[r]at F;have i:d≠t:=λe=>by subst e;simp at r
     simp only[Act.put,Li i];exact j t u F
def nR{m:Nat}: ∀{e:eZ},fZ m e=G-> ∀t v,e.get t=E v->v.wf m=G
  |[],_,_,_,h=>by cases h
  |x::r,d,t,v,h=>by
   have s:x.2.wf m=G/\fZ m r=G:=by simpa[fZ]using d
   simp only[eZ.get]at h;cases L:Nat.beq x.1 t with
   |true=>rw[L]at h;cases h;exact s.1
   |false=>rw[L]at h;exact nR s.2 t v h
def ik.kg{m:Nat}(j:ik ρ e a)(d:fZ m e=G)(h: ∀i,i<m->l i=ρ i):ik l e a:=by intro t v Q;rw[gx h v (nR d t v Q)];exact j t v Q
def Gl.kg{m m':Nat}(p:Gl ρ C m)(d:m<=m')(h: ∀i,i<m->l i=ρ i):Gl l C m':=by intro g i b;have:=p g i b;exact⟨pY this.1 d,by rw[h i this.1,this.2]⟩
def jH{m:Nat}(j:ik ρ e a)(p:Gl ρ C m): ∀{l:List Operand}{L:List V},nX C e l=E L->
    l.map a.eval=dZ ρ L
  |[],L,h=>by cases h;rfl
  |x::H,L,h=>by
   simp only[nX]at h;split at h
   .rename_i v b M S;cases h;simp only[nA,dZ,ff j p M,jH j p S]
   .cases h
def gg(c:ik ρ e a)(h:ia T e o=E b):
    Region.wanted o (yielded T.toArray a.tmps)=b:=by
  unfold ia at h;unfold Region.wanted;split at h
  .rename_i p;cases h;simp[p]
  .rename_i j i p;simp only[p];split at h
   .rename_i q H;split at h
    .rename_i d z;split at h
     .rename_i x L;cases h;have:=c d _ L;simp[yielded,H,z,this,V.ee]
     .rename_i L;cases h;have:=c d _ L;simp[yielded,H,z,this,V.ee]
     .cases h
    .cases h
   .cases h
def Ip: ∀{l:List V},pO l=G-> ∀v∈dZ ρ l,v.oneCell'=G
  |[],_,v,Q=>by cases Q
  |x::r,h,v,Q=>by
   have F:x.one=G/\pO r=G:=by simpa[pO]using h
   simp only[dZ,kh]at Q;rcases Q with rfl|Q
   .exact V.T9 ρ F.1
   .exact Ip F.2 v Q
def xw(h:pO v.cells=G):(v.ee ρ).cells=(dZ ρ v.cells).toArray:=by
  cases v with
  |g l=>simp[V.cells,V.ee,ip.cells]
  |r u=>
   have:u.oneCell'=G:=by simpa[V.cells,pO,V.one]using h
   cases u<;>simp_all [V.cells,V.ee,ip.cells,dZ,ip.oneCell']
  |t l=>simp[V.cells,pO,V.one]at h
  |_=>simp[V.cells,V.ee,ip.cells,dZ]
def GU(ρ:Nat->Nat)(a b:List V):dZ ρ (a++b)=dZ ρ a++dZ ρ b:=by simp[lX]
def s9{α:Type}(l:List α)(j:Nat)(v:α)(h:j<l.length):l.set j v=l.take j++[v]++l.drop (j+1):=by rw[Zc,if_pos h];simp
def Ly{c y:eH}{Q:Nat}(h:tf c j Q v=E (y,G)):letI a:=j+v.cells.length;v.cells.length=Q/\a<=c.list.length/\pO v.cells=G/\
      y.list=c.list.take j++v.cells++c.list.drop (a):=by
  unfold tf at h;split at h
  .rename_i l;split at h
   .rename_i L;simp only[eJ,ef]at h;obtain⟨rfl,F⟩:=h;obtain⟨M,S⟩:=dN F;simp only[eG]at M;exact⟨M.1,M.2,S,K⟩
   .rename_i q;simp only[eJ,ef]at h;obtain⟨rfl,F⟩:=h;obtain⟨M,S⟩:=dN F;simp only[eG]at M
    have s:v.cells=[v]:=by
      cases v with
      |g l=>exact(q l K).elim
      |_=>rfl
    rw[s];refine⟨M.1,by simp[eH.list];omega,by simp[pO,S],?_⟩;simp only[eH.list];exact s9 l j v M.2
  .rename_i k l;split at h
   .rename_i z n;cases b:uA z k with
    |false=>rw[b]at h;cases h
    |true=>
     rw[b]at h;have:=sW b;subst this;simp only[gq,eJ,ef,eG]at h;obtain⟨rfl,M⟩:=h;refine⟨M.1,by simp[eH.list,V.cells];omega,K,?_⟩;simp only[eH.list,V.cells];rw[s9 l j n M.2];simp[Mx,Ew]
   .cases h
  .cases h
def gT(h:eo P f)(args:Array ip)(w:ii):(callFunc f args).run P w= .ok (.enter f args) w:=by obtain⟨q,M,S,l⟩:=h.is;simp only[callFunc,fr,LF,gv,M,S,l,oP,kT];rfl
def lG{t:V}{z q p:List Bool}(h:l6 v z=(t,q,p))(F:eb p=G):t=v:=by
  unfold l6 at h;split at h
  .split at h
   .cases h;rfl
   .simp only[ef]at h;obtain⟨rfl,_,rfl⟩:=h;have:=(dX.1 F).1;rw[nY]at this;rw[this]
  .cases h;rfl
section
variable{P:Program}{C:fw}{n:Nat}{ρ:Nat->Nat}{m:dE}{e:eZ}{a:Act}{w:ii}
def Be(ht:iq P C)(hf:ji P C)(y:jA ρ m w)(S:ik ρ e a)(j:Gl ρ C m.length){m':dE}(h:yV C m e o.op=E (v,m',G))(next:Act->ii->Prop)(Q:Exit->Act->ii->Prop)(g: ∀l w',qE ρ m w l m' w'->fZ m.length e=G∨l=ρ->next (a.put o.dst (v.ee l)) w'):o.wp P a w next Q:=by
  have EV:= @ff ρ C e a m.length S j;unfold Oper.wp;unfold yV at h;split at h
  case h_1 el L=>
    split at h
    .rename_i d hd;cases h;obtain⟨z,hz,ae⟩:=(ht _ _ hd).ru w;have h0:ρ m.length=w.heap.size:=by simpa using y.next 0
     have q:(execOp a.eval o).run P w= .ok (.value (.pointer (E ⟨w.heap.size,0,N⟩))) {w with heap:=w.heap.push (dI.obj ρ ⟨.lit d.zero,el⟩)}:=by unfold execOp;rw[L];simp only[fr,Instr.alloc,hz,gv,newVar,newRow,run_newObj,iV,ae ρ,dI.obj,eH.list]
     rw[q,yA];have T:(ip.pointer (E ⟨w.heap.size,0,N⟩))=(V.p (E (m.length,0))).ee ρ:=by simp[V.ee,pI,h0]
     rw[T];exact g ρ _ (y.push _ K) (.inr K)
    .cases h
  case h_2 el x L=>
    split at h
    .rename_i u hu;simp only[eJ,ef]at h;obtain⟨rfl,rfl,hc⟩:=h;have h0:ρ m.length=w.heap.size:=by simpa using y.next 0
     have q:(execOp a.eval o).run P w= .ok (.value (.pointer (E ⟨w.heap.size,0,N⟩))) {w with heap:=w.heap.push (dI.obj ρ ⟨.lit u.cells,el⟩)}:=by unfold execOp;rw[L];simp only[fr,Instr.box,EV hu,newVar,newRow,run_newObj,iV,gv,xw hc,dI.obj,eH.list]
     rw[q,yA];have T:(ip.pointer (E ⟨w.heap.size,0,N⟩))=(V.p (E (m.length,0))).ee ρ:=by simp[V.ee,pI,h0]
     rw[T];exact g ρ _ (y.push _ K) (.inr K)
    .cases h
  case h_3 t ad x L=>
    split at h
    .rename_i d p u hd ha hu;split at h
     .rename_i bl hb;split at h
      .rename_i c' ob hs;simp only[eJ,ef]at h;obtain⟨rfl,rfl,rfl⟩:=h;obtain⟨M,h2,h3,h4⟩:=Ly hs;have i:=FL hs;have aa:((u.ee ρ).cells).size=d.size:=by rw[xw h3];simp[gC,M]
       have ah:p.1<m.length:=(fQ.1 hb).1
       have ag:=run_storeCells_at (P:=P) (ρ p.1) p.2 bl.ty (dZ ρ u.cells) 0 (dZ ρ bl.c.list).toArray w (y.obj _ _ hb i)
         (by simp only[gC,tN,j3];exact h2) (Ip h3)
       have q:(execOp a.eval o).run P w= .ok .skip (w.setRow (ρ p.1) (dZ ρ c'.list).toArray):=by
         unfold execOp;rw[L];simp only[fr,Instr.storeAt,EV ha,EV hu,V.ee,oQ,Instr.sureAddr,iV,gv,storeVar,(ht _ _ hd).run_sizeOf,aa];simp only[ne_eq,Jl,kT,xw h3];rw[show pI ρ p=(⟨ρ p.1,p.2,N⟩:Addr)from K];rw[ag];simp only[gv]
         congr 3
         rw[h4];simp[lX]
       rw[q,Oper.upon_skip];have T:undef=(V.t []).ee ρ:=by simp[V.ee,dZ,undef]
       rw[T];exact g ρ _ (y.setRow hb i _ (HA hs)) (.inr K)
      .cases h
     .cases h
    .cases h
  case h_4 f xs aj L=>
    split at h
    .rename_i F r hF c;split at h
     .rename_i u m2 ob s;simp only[eJ,ef]at h;obtain⟨rfl,rfl,H⟩:=h;obtain⟨rfl,hw⟩:=dN H;obtain⟨b,ac⟩:=hf.2.1 _ _ hF
      have q:(execOp a.eval o).run P w= .ok (.enter f (dZ ρ r).toArray) w:=by
        have M:execOp a.eval o=callFunc f (#[]++xs.map a.eval++ #[]):=by unfold execOp;rw[L];rfl
        rw[M,gT b]
        congr 2
        apply nh;simp[<-jH S j c]
      rw[q,Am];refine(ac ρ m w r u m2 s y j).mono ?_;rintro en w'⟨l,L,rfl⟩;exact g l _ L (.inl hw)
     .cases h
    .rename_i r hF c;split at h
     .rename_i F hE;split at h
      .rename_i u ob s;simp only[eJ,ef]at h;obtain⟨rfl,rfl,rfl⟩:=h
       have q:(execOp a.eval o).run P w= .ok (.value (u.ee ρ)) w:=by
         have M:execOp a.eval o=callFunc f (#[]++xs.map a.eval++ #[]):=by unfold execOp;rw[L];rfl
         have h2:(#[]++xs.map a.eval++ #[]:Array ip)=(dZ ρ r).toArray:=by apply nh;simp[<-jH S j c]
         rw[M,h2];exact hf.2.2 _ _ hE ρ w r u s
       rw[q,yA];exact g ρ _ (qE.refl y) (.inr K)
      .cases h
     .split at h
      .rename_i F hQ;split at h
       .rename_i u ob s;simp only[eJ,ef]at h;obtain⟨rfl,rfl,H⟩:=h;obtain⟨rfl,hw⟩:=dN H;obtain⟨b,ab⟩:=hf.1 _ _ hQ
        have q:(execOp a.eval o).run P w= .ok (.enter f (dZ ρ r).toArray) w:=by
          have M:execOp a.eval o=callFunc f (#[]++xs.map a.eval++ #[]):=by unfold execOp;rw[L];rfl
          rw[M,gT b]
          congr 2
          apply nh;simp[<-jH S j c]
        rw[q,Am];refine(ab ρ m w r u s y j).mono ?_;rintro en w'⟨l,L,rfl⟩;exact g l _ L (.inl hw)
       .cases h
      .cases h
    .cases h
  case h_5=>
    split at h
    .rename_i u ob hu;simp only[eJ,ef]at h;obtain⟨rfl,rfl,rfl⟩:=h;rw[BZ ht y S j hu,yA];exact g ρ _ (qE.refl y) (.inr K)
    .obtain⟨w',q,af⟩:=aeh ht y S j h;rw[q,yA];exact g ρ _ af (.inr K)
def aht(r:iq P C)(t:ji P C)(y:jA ρ m w)(j:ik ρ e a)(p:Gl ρ C m.length)(x:a.tmps.size=n){b:eZ}(h:yV C m e o.op=E (v,u,G))(g:fA n e o.dst v=E b)(next:Act->ii->Prop)(Q:Exit->Act->ii->Prop)(c: ∀l a' w',oz n ρ m a w b u l a' w'->next a' w'):o.wp P a w next Q:=by
  refine Be r t y j p h next Q λl w' L d=>c l _ w' ⟨L,?_,by rw[iH,x],put_defers _ _ _⟩
  rcases d with d|rfl
  .exact(j.kg d L.ln).put x g
  .exact j.put x g
def MA(h:Od C n T i o s=E H)(F:eb H.ob=G):eb s.ob=G:=by
  unfold Od at h;split at h
  .split at h
   .split at h;split at h
    .cases h;exact(nt (gS.1 F).2).1
    .cases h
   .cases h
  .split at h
   .cases h;exact F
   .cases h
  .cases h
def Tf(h:MO C n T i o s=E H)(F:eb H.ob=G):eb s.ob=G:=by
  unfold MO at h;split at h
  .split at h
   .split at h;split at h
    .cases h;exact(nt (gS.1 F).2).1
    .cases h
   .cases h
  .split at h
   .cases h;exact F
   .cases h
  .cases h
def sT: ∀{l:List Oper}{i:Nat}{s H:St},ny C n T l i s=E H->eb H.ob=G->eb s.ob=G
  |[],_,_,_,h,F=>by cases h;exact F
  |o::r,i,s,H,h,F=>by
   simp only[ny]at h;split at h
   .rename_i g M;exact Tf M (sT h F)
   .cases h
def oJ: ∀{l:List Oper}{i:Nat}{s H:St},qO C n T l i s=E H->eb H.ob=G->eb s.ob=G
  |[],_,_,_,h,F=>by cases h;exact F
  |o::r,i,s,H,h,F=>by
   simp only[qO]at h;split at h
   .rename_i g M;exact MA M (oJ h F)
   .cases h
def NJ(M:iq P C)(hf:ji P C){p:St}(y:jA ρ s.m w)(j:ik ρ s.e a)(hg:Gl ρ C s.m.length)(x:a.tmps.size=n)(h:Od C n T i o s=E p)(S:eb p.ob=G)(next:Act->ii->Prop)(Q:Exit->Act->ii->Prop)(F: ∀l a' w',oz n ρ s.m a w p.e p.m l a' w'->next a' w'):letI b:=Region.wanted o (yielded T.toArray a.tmps);(b=G/\o.wp P a w next Q)∨(b=A/\next (a.put o.dst undef) w):=by
  unfold Od at h;split at h
  .rename_i d;refine .inl ⟨gg j d,?_⟩;split at h
   .rename_i v m' ob r;split at h;rename_i t q L z;split at h
    .rename_i e' g;cases h;obtain⟨u,c⟩:=gS.1 S;obtain⟨_,rfl⟩:=nt c
     have:t=v:=by
       cases H:asked T i with
       |true=>rw[H]at z;exact lG z u
       |false=>rw[H]at z;simp only[gr,ef]at z;exact z.1.symm
     subst this;exact aht M hf y j hg x r g next Q F
    .cases h
   .cases h
  .rename_i d;refine .inr ⟨gg j d,?_⟩;split at h
   .rename_i e' g;cases h;have r:undef=(V.t []).ee ρ:=by simp[V.ee,dZ,undef]
    rw[r];exact F ρ _ _ ⟨.refl y,j.put x g,by rw[iH,x],put_defers _ _ _⟩
   .cases h
  .cases h
def Lz(u:iq P C)(t:ji P C){Q:Exit->Act->ii->Prop}: ∀(l:List Oper){i:Nat}{ρ:Nat->Nat}{a:Act}{w:ii}{s H:St},
    jA ρ s.m w->ik ρ s.e a->Gl ρ C s.m.length->a.tmps.size=n->qO C n T l i s=E H->eb H.ob=G->
    (∀b a' w',oz n ρ s.m a w H.e H.m b a' w'->Q .normal a' w')->wpList P T.toArray Q l a w
  |[],i,ρ,a,w,s,H,y,j,p,x,h,F,c=>by cases h;exact c _ _ _ (.refl y j x)
  |o::r,i,ρ,a,w,s,H,y,j,p,x,h,F,c=>by
   simp only[qO]at h;split at h
   .rename_i s1 M;unfold wpList
    rcases NJ u t y j p x M (oJ h F) (wpList P T.toArray Q r) Q (λb a' w' g=>
      Lz u t r g.rel g.env (p.kg g.len g.ln) g.size h F λq L z v=>c _ _ _ (g.trans v))with⟨d,S⟩ |⟨d,S⟩
    .rw [if_pos d];exact .inl S
    .rw [if_neg (by rw[d];simp)];exact S
   .cases h
def rR(t:iq P C){Qa:Act->Prop}{T:List Oper}: ∀(l:List Oper){i:Nat}{a:Act}{s H:St},
    jA ρ s.m w->ik ρ s.e a->Gl ρ C s.m.length->a.tmps.size=n->ny C n T l i s=E H->eb H.ob=G->
    (∀a',H.m=s.m->ik ρ H.e a'->a'.tmps.size=n->a'.defers=a.defers->Qa a')->wpStill P T.toArray w Qa l a
  |[],i,a,s,H,y,j,p,x,h,F,b=>by cases h;exact b _ K j x K
  |o::r,i,a,s,H,y,j,p,x,h,F,b=>by
   simp only[ny]at h;split at h
   .rename_i s1 M;have L:=sT h F;unfold MO at M;unfold wpStill;split at M
    .rename_i d;rw[if_pos (gg j d)];split at M
     .rename_i v ob Q;split at M;rename_i v' q aa z;split at M
      .rename_i e2 g;cases M;obtain⟨u,c⟩:=gS.1 L;obtain⟨_,rfl⟩:=nt c
       have:v'=v:=by
         cases hb:asked T i with
         |true=>rw[hb]at z;exact lG z u
         |false=>rw[hb]at z;simp only[gr,ef]at z;exact z.1.symm
       subst this;unfold Oper.still;rw[BZ t y j p Q,Oper.stillUpon_value];exact rR t r (s:=⟨e2,s.m,q,_⟩) y (j.put x g) p (by rw[iH,x]) h F λa' S M h2 h3=>b a' S M h2 (by rw[h3,put_defers])
      .cases M
     .cases M
    .rename_i d;rw[if_neg (by rw[gg j d];simp)];split at M
     .rename_i e2 g;cases M;have Q:undef=(V.t []).ee ρ:=by simp[V.ee,dZ,undef]
      rw[Q];exact rR t r (s:=⟨e2,s.m,s.yS,s.ob⟩) y (j.put x g) p (by rw[iH,x]) h F λa' S M h2 h3=>b a' S M h2 (by rw[h3,put_defers])
     .cases M
    .cases M
   .cases h
end
def cls(C:fw):Op->Nat
  | .load _ _=>1
  | .binOp _ _ _ _ _=>0
  | .move _=>0
  | .assign _=>0
  | .extract _ _=>0
  | .fieldAddr _ _ _=>0
  | .indexAddr _ _ _=>0
  | .field _ _ _=>0
  | .index _ _ _=>0
  | .slice _ _ _ _ _=>0
  | .convert _ _ _=>0
  | .unOp _ _ _=>0
  | .pick _ _ _=>0
  | .build _ _=>0
  | .makeInterface _ _=>0
  | .nilCheck _=>0
  | .call c=>match c.callee with
    | .builtin .len=>0
    | .builtin .cap=>0
    | .value (.func f)=>match C.fn f with
      |some _=>2
      |none=>1
    |_=>2
  |_=>2
def Fk{x y:V}(h:Ls C [] t x y=E b):Ls C m t x y=E b:=by
  unfold Ls at h⊢;split at h
  .rename_i d z;split at h
   all_goals(first|exact h|skip)
   rename_i g p q R;split at h
   .rename_i S _;simp at S
   .cases h
  .cases h
def B6(C:fw){o:Op}(h:cls C o=0)(e:eZ){x:V×Bool}(L:sD C [] e o=E x)(m:dE):sD C m e o=E x:=by
  cases o with
  |call c=>
   obtain⟨ga,H,u⟩:=c;cases ga with
   |builtin b=>
    cases b<;>simp only[cls]at h<;>first|(cases h;done) |exact L
   |value j=>
    simp only[cls]at h;split at h<;>first|(cases h;done) |skip
    all_goals(try(split at h<;>cases h))
    all_goals(first|(cases h;done) |exact L)
   |_=>simp only[cls]at h;cases h
  |load t x=>simp[cls]at h
  |binOp d t x y a=>
   unfold sD at L⊢;have r:iu C m e (.binOp d t x y a)=iu C [] e (.binOp d t x y a):=K;rw[r];cases p:iu C [] e (.binOp d t x y a)with
   |some z=>rw[p]at L;exact L
   |none=>
    rw[p]at L;simp only at L⊢;unfold Cz at L⊢;simp only at L⊢;split at L
    .exact L
    .exact L
    .split at L
     .rename_i b l;simp only[Fk l];exact L
     .cases L
    .split at L
     .rename_i b l;simp only[Fk l];exact L
     .cases L
    .cases L
  |move x=>exact L
  |assign x=>exact L
  |extract x i=>exact L
  |fieldAddr t x f=>exact L
  |indexAddr t x R=>exact L
  |field t x f=>exact L
  |index t x R=>exact L
  |slice t x q g k=>cases k<;>cases q<;>cases g<;>exact L
  |convert s t x=>exact L
  |unOp d t x=>exact L
  |pick c x y=>exact L
  |build t F=>exact L
  |makeInterface t x=>exact L
  |nilCheck x=>exact L
  |_=>simp[cls]at h
def Su(C:fw)(o:Op):cls C o<=2:=by
  unfold cls;split<;>(try omega)
  split<;>(try omega)
  split<;>omega
def xB{o:Op}{p:Bool}(h:cls C o=1)(L:yV C m e o=E (v,u,p)):u=m:=by
  cases o with
  |load t x=>
   have M:(match sD C m e (.load t x)with|some (v,p)=>E (v,m,p) |none=>Mg C m e (.load t x))=E (v,u,p):=L;split at M
   .cases M;rfl
   .cases M
  |call c=>
   obtain⟨ga,H,y⟩:=c;cases ga with
   |value j=>
    cases j with
    |func f=>
     simp only[cls]at h;split at h
     .cases h
     .rename_i a;have M:=L;simp only[yV,a]at M;split at M
      .rename_i q _;cases q
      .split at M
       .split at M
        .cases M;rfl
        .cases M
       .split at M
        .split at M
         .cases M;rfl
         .cases M
        .cases M
      .cases M
    |_=>simp[cls]at h
   |builtin b=>cases b<;>simp[cls]at h
   |_=>simp[cls]at h
  |_=>simp[cls]at h
def zm:List Operand->List Nat
  |[]=>[]
  | .tmp t::r=>t::zm r
  |_::r=>zm r
def ov(ops:List Oper)(o:Oper):List Nat:=
  match o.guard with
  |some (j,_)=>match ops[j]? with
   |some q=>match q.dst with
    |some d=>d::zm o.op.operands.toList
    |none=>zm o.op.operands.toList
   |none=>zm o.op.operands.toList
  |none=>zm o.op.operands.toList
def bit(a i:Nat):Bool:=Nat.testBit a i
def Da(R:List Nat):List Edge->Nat
  |[]=>0
  |e::r=>bif zX e then Nat.lor (Nat.lor (2^e.on) (R.getD e.on 0)) (Da R r)else Da R r
def ig:List Oper->List Nat->List Nat
  |[],R=>R
  |o::r,R=>ig r (R++[Da R o.after.toList])
def Ix(t:Nat):List Nat->Bool
  |[]=>A
  |x::r=>Nat.beq x t||Ix t r
def uj: ∀{l:List Nat},Ix t l=G↔t∈l
  |[]=>by simp[Ix]
  |x::r=>by
   simp only[Ix,AY,kh,uj];constructor
   .rintro(h|h)
    .exact .inl (iB h).symm
    .exact .inr h
   .rintro(h|h)
    .exact .inl (by rw[h];exact Iu _)
    .exact .inr h
def wF(o:Oper)(l:List Nat):Bool:=match o.dst with|some d=>Ix d l|none=>A
def pC(o c:Oper):Bool:=match o.dst,c.dst with|some d,E m=>Nat.beq d m|_,_=>A
def Pf(C:fw)(ops:List Oper)(o c:Oper):Bool:=
  wF o (ov ops c) ||wF c (ov ops o) ||(Nat.beq (cls C c.op) 2&&Nat.ble 1 (cls C o.op)) ||(Nat.beq (cls C o.op) 2&&Nat.ble 1 (cls C c.op))
def BX(C:fw)(ops:List Oper)(o:Oper)(i:Nat):List Oper->List Nat->Bool
  |c::r,a::R=>!pC o c&&(!Pf C ops o c||bit a i)&&BX C ops o i r R
  |[],_=>G
  |_,[]=>A
def yk(C:fw)(ops:List Oper):Nat->List Oper->List Nat->Bool
  |_,[],_=>G
  |i,o::r,_::R=>BX C ops o i r R&&yk C ops (i+1) r R
  |_,_,[]=>A
def tR(C:fw)(ops:List Oper):Bool:=my 0 ops&&yk C ops 0 ops (ig ops [])
def sG: ∀(l:List Oper)(R:List Nat),(∀j,j<R.length->(ig l R)[j]?=R[j]?)/\(ig l R).length=R.length+l.length
  |[],R=>⟨λ_ _=>rfl,by simp[ig]⟩
  |o::r,R=>by obtain⟨M,S⟩:=sG r (R++[Da R o.after.toList]);simp only[ig];refine⟨λj H=>?_,by rw[S];simp;omega⟩;rw[M j gp,oF H]
def HS: ∀(l:List Oper)(R:List Nat)(i:Nat)(o:Oper),l[i]?=E o->(ig l R)[R.length+i]?=E (Da ((ig l R).take (R.length+i)) o.after.toList)
  |[],R,i,o,h=>by simp at h
  |c::r,R,i,o,h=>by
   cases i with
   |zero=>
    simp only[ph,eJ]at h;subst h;obtain⟨M,S⟩:=sG r (R++[Da R c.after.toList]);simp only[ig,j3];rw[M R.length Y]
    have:(ig r (R++[Da R c.after.toList])).take R.length=R:=by
      apply AP;intro j;rw[nF];split
      .rename_i H;rw[M j gp,oF H]
      .rename_i H;rw[EF O]
    rw[this];simp
   |succ i=>
    simp only[kz]at h;have:=HS r (R++[Da R c.after.toList]) i o h;simp only[gw,eI,fb]at this;simp only[ig];rw[(O:R.length+(i+1)=R.length+(0+1)+i)];exact this
def NT{a b:Nat}(h:bit (Nat.lor a b) i=G):bit a i=G∨bit b i=G:=by unfold bit at*;have:(a|||b).testBit i=G:=h;rw[Nat.testBit_or]at this;simpa using this
def Df{R:List Nat}{b:Nat}: ∀{l:List Edge},bit (Da R l) b=G-> ∃e∈l,zX e=G/\(e.on=b∨bit (R.getD e.on 0) b=G)
  |[],h=>by simp[Da,bit]at h
  |e::r,h=>by
   unfold Da at h;cases H:zX e with
   |false=>
    rw[H]at h;obtain⟨y,j,S⟩:=Df h;exact⟨y,jh _ j,S⟩
   |true=>
    rw[H]at h;rcases NT h with h|h
    .rcases NT h with h|h
     .refine⟨e,jt,H,.inl ?_⟩;have:(2^e.on).testBit b=G:=h;rw[Nat.testBit_two_pow]at this;simpa using this
     .exact⟨e,jt,H,.inr h⟩
    .obtain⟨y,j,S⟩:=Df h;exact⟨y,jh _ j,S⟩
def re(ops:List Oper)(L:Nat->Prop):Prop:= ∀i o,ops[i]?=E o->L i-> ∀e∈o.after,Region.binds .any e=G->L e.on
def mR(H:my 0 ops=G)(q:re ops L): ∀(d i:Nat)(o:Oper)(a:Nat),i<d->ops[i]?=E o->(ig ops [])[i]?=E a->
    (∀e∈o.after,Region.binds .any e=G->L e.on)-> ∀b,bit a b=G->L b
  |0,i,o,a,h,_,_,_,b,_=>O
  |d+1,i,o,a,JA,F,t,x,b,u=>by
   have M:=HS ops [] i o F;simp only[fb,ir]at M;rw[t]at M;cases M;obtain⟨e,j,s,m⟩:=Df u;have y:e∈o.after:=by simpa using j
   have c:=x e y s;rcases m with rfl|m
   .exact c
   .have z:=mv H i o F e y s;simp only[ir]at z;have g:i<ops.length:=(fQ.1 F).1;have l:ops[e.on]?=E (ops[e.on]'O):=jr O;have w:=(sG ops []).2;simp only[fb,ir]at w;have Q:(ig ops [])[e.on]?=E ((ig ops [])[e.on]'O):=Y;refine mR H q d e.on _ _ O l Q (λf S k=>q _ _ l c f S k) b ?_;rw[ie,nF,if_pos z,Q]at m;exact m
def Cm: ∀{r:List Oper}{R:List Nat},BX C ops o i r R=G-> ∀(j:Nat)(c:Oper),r[j]?=E c->
    ∃a,R[j]?=E a/\pC o c=A/\(Pf C ops o c=G->bit a i=G)
  |[],_,_,j,c,h=>by simp at h
  |b::r,[],h,_,_,_=>by simp[BX]at h
  |b::r,a::R,h,j,c,H=>by
   simp only[BX,iv,C4,AY]at h;cases j with
   |zero=>
    simp only[ph,eJ]at H;subst H;refine⟨a,K,h.1.1,λs=>?_⟩;rcases h.1.2 with M|M
    .rw [s]at M;cases M
    .exact M
   |succ j=>
    simp only[kz]at H⊢;exact Cm h.2 j c H
def rl: ∀{l:List Oper}{R:List Nat}{k:Nat},yk C ops k l R=G-> ∀(i j:Nat)(o c:Oper),i<j->l[i]?=E o->l[j]?=E c->
    ∃a,R[j]?=E a/\pC o c=A/\(Pf C ops o c=G->bit a (k+i)=G)
  |[],_,_,_,i,j,o,c,_,h,_=>by simp at h
  |_::_,[],_,h,_,_,_,_,_,_,_=>by simp[yk]at h
  |b::r,a::R,k,h,i,j,o,c,d,g,H=>by
   simp only[yk,iv]at h;obtain⟨t,rfl⟩: ∃t,j=t+1:=⟨j-1,O⟩
   simp only[kz]at H⊢;cases i with
   |zero=>
    simp only[ph,eJ]at g;subst g;exact Cm h.1 t c H
   |succ i=>
    simp only[kz]at g;have:=rl h.2 i t o c O g H
    rwa [(O:k+1+i=k+(i+1))]at this
def mu(h:pC o c=A)(M:o.dst=E d)(S:c.dst=E d):False:=by simp[pC,M,S]at h
structure Jy where
  s:St
  lens:List (Nat×Nat)
def reach(a d:Nat):List (Nat×Nat)->Nat
  |[]=>d
  |x::r=>bif bit a x.1 then Nat.max x.2 (reach a d r)else reach a d r
def Ia{a d o:Nat}(H:d<=o): ∀{l:List (Nat×Nat)},(∀x∈l,bit a x.1=G->x.2<=o)->reach a d l<=o
  |[],_=>H
  |x::r,h=>by
   have v:=Ia H (l:=r) (λy Q=>h y (jh _ Q));unfold reach;cases L:bit a x.1 with
   |false=>exact v
   |true=>exact Nat.max_le.2 ⟨h x jt L,v⟩
def xI(C:fw)(n:Nat)(ops:List Oper)(d i:Nat)(o:Oper)(a:Nat)(x:Jy):Option Jy:=
  match ia ops (gN x.s.e (ov ops o)) o with
  |some G=>bif Nat.beq (cls C o.op) 0 then
     (match sD C [] (gN x.s.e (ov ops o)) o.op with
     |some (v,p)=>match(bif asked ops i then l6 v x.s.yS else(v,x.s.yS,[]))with
      |(t,q,L)=>match fA n x.s.e o.dst t with
       |some y=>bif V.wf (reach a d x.lens) t then E ⟨⟨y,x.s.m,q,L++Ll o.op p x.s.ob⟩,x.lens⟩else N
       |none=>N
     |none=>N)
   else
     (match yV C x.s.m (gN x.s.e (ov ops o)) o.op with
     |some (v,u,p)=>match(bif asked ops i then l6 v x.s.yS else(v,x.s.yS,[]))with
      |(t,q,L)=>match fA n x.s.e o.dst t with
       |some y=>bif V.wf u.length t then E ⟨⟨y,u,q,L++Ll o.op p x.s.ob⟩,bif Nat.beq (cls C o.op) 2 then(i,u.length)::x.lens else x.lens⟩else N
       |none=>N
     |none=>N)
  |some A=>match fA n x.s.e o.dst (.t [])with
   |some y=>E ⟨⟨y,x.s.m,x.s.yS,x.s.ob⟩,bif Nat.beq (cls C o.op) 2 then(i,x.s.m.length)::x.lens else x.lens⟩
   |none=>N
  |none=>N
def pQ(C:fw)(n:Nat)(ops:List Oper)(d:Nat):List Oper->List Nat->Nat->Jy->Option Jy
  |[],_,_,x=>E x
  |o::r,a::R,i,x=>match xI C n ops d i o a x with
   |some v=>pQ C n ops d r R (i+1) v
   |none=>N
  |_::_,[],_,_=>N
def zh: ∀{l:List Oper}{R:List Nat}{i:Nat}{x y:Jy},pQ C n ops d l R i x=E y->
    ∃T:Nat->Jy,T 0=x/\T l.length=y/\ ∀j o,l[j]?=E o-> ∃a,R[j]?=E a/\xI C n ops d (i+j) o a (T j)=E (T (j+1))
  |[],R,i,x,y,h=>by cases h;exact⟨λ_=>x,K,K,λj o h=>by simp at h⟩
  |_::_,[],i,x,y,h=>by simp[pQ]at h
  |o::r,a::R,i,x,y,h=>by
   simp only[pQ]at h;split at h
   .rename_i v L;obtain⟨T,b,M,S⟩:=zh h;refine⟨λj=>match j with|0=>x|j+1=>T j,K,by simpa using M,λj c H=>?_⟩;cases j with
    |zero=>
     simp only[ph,eJ]at H;subst H;exact⟨a,K,by simp only[j3];rw[b];exact L⟩
    |succ j=>
     simp only[kz]at H⊢;obtain⟨e,t,f⟩:=S j c H;exact⟨e,t,by rw[(O:i+(j+1)=i+1+j)];exact f⟩
   .cases h
structure aop(C:fw)(n:Nat)(ops:List Oper)(base i:Nat)(o:Oper)(a:Nat)(x y:Jy):Prop where
  put: ∃v,fA n x.s.e o.dst v=E y.s.e
  ob:eb y.s.ob=G->eb x.s.ob=G
  mem:cls C o.op≠2->y.s.m=x.s.m
  lens:y.lens=(if cls C o.op=2 then(i,y.s.m.length)::x.lens else x.lens)
def kx{a:Nat}{x y:Jy}(h:xI C n ops d i o a x=E y):aop C n ops d i o a x y:=by
  have k:Nat.beq (cls C o.op) 2=D (cls C o.op=2):=by
    cases H:Nat.beq (cls C o.op) 2 with
    |true=>simp[iB H]
    |false=>
     have:cls C o.op≠2:=λe=>by rw[e]at H;cases H
     simp[this]
  unfold xI at h;split at h
  .cases s:Nat.beq (cls C o.op) 0 with
   |true=>
    rw[s]at h;have l:=iB s;simp only[gq]at h;split at h
    .rename_i v p Q;generalize z:(bif asked ops i then l6 v x.s.yS else(v,x.s.yS,[]))=dd at h;obtain⟨t,q,L⟩:=dd;simp only at h;split at h
     .rename_i c g;cases b:V.wf (reach a d x.lens) t with
      |false=>rw[b]at h;cases h
      |true=>
       rw[b]at h;cases h;exact⟨⟨t,g⟩,λF=>(nt (gS.1 F).2).1,λ_=>rfl,by rw[if_neg O]⟩
     .cases h
    .cases h
   |false=>
    rw[s]at h;have l:cls C o.op≠0:=λe=>by rw[e]at s;cases s
    simp only[gr]at h;split at h
    .rename_i v u p Q;generalize z:(bif asked ops i then l6 v x.s.yS else(v,x.s.yS,[]))=dd at h;obtain⟨t,q,L⟩:=dd;simp only at h;split at h
     .rename_i c g;cases b:V.wf u.length t with
      |false=>rw[b]at h;cases h
      |true=>
       rw[b]at h;cases h;refine⟨⟨t,g⟩,λF=>(nt (gS.1 F).2).1,λS=>?_,?_⟩
       .have M:cls C o.op=1:=by have:=Su C o.op;omega
        exact xB M Q
       .simp only[k];cases m:D (cls C o.op=2)with
        |true=>rw[if_pos (fU m)];rfl
        |false=>rw[if_neg (mS m)];rfl
     .cases h
    .cases h
  .split at h
   .rename_i c g;cases h;refine⟨⟨_,g⟩,λF=>F,λ_=>rfl,?_⟩;simp only[k];cases m:D (cls C o.op=2)with
    |true=>rw[if_pos (fU m)];rfl
    |false=>rw[if_neg (mS m)];rfl
   .cases h
  .cases h
mutual
def qJ{m u:Nat}(h:m<=u): ∀v:V,v.wf m=G->v.wf u=G
  | .i _ _,_=>rfl
  | .b _,_=>rfl
  | .p N,_=>rfl
  | .p (E a),Q=>by simp only[V.wf,tQ,nD]at Q⊢;omega
  | .s N _ _,_=>rfl
  | .s (E a) _ _,Q=>by simp only[V.wf,tQ,nD]at Q⊢;omega
  | .g l,Q=>yT h l Q
  | .t l,Q=>yT h l Q
  | .y _ v,Q=>qJ h v Q
  | .f _ l,Q=>yT h l Q
  | .r _,_=>rfl
def yT{m u:Nat}(h:m<=u): ∀l:List V,nd m l=G->nd u l=G
  |[],_=>rfl
  |x::H,Q=>by
   have s:x.wf m=G/\nd m H=G:=by simpa[nd]using Q
   simp only[nd,iv];exact⟨qJ h x s.1,yT h H s.2⟩
end
def qD: ∀{l:List Nat}{t:Nat}{v:V},(gN e l).get t=E v->t∈l
  |[],_,_,h=>by cases h
  |u::r,t,v,h=>by
   simp only[gN]at h;split at h
   .simp only[eZ.get]at h;cases H:Nat.beq u t with
    |true=>exact kh.2 (.inl (iB H).symm)
    |false=>rw[H]at h;exact kh.2 (.inr (qD h))
   .exact kh.2 (.inr (qD h))
def l9{d:Option Tmp}(h:fA n e d v=E y)(t:Nat):y.get t=if d=E t then E v else e.get t:=by
  cases d with
  |none=>simp only[fA,eJ]at h;subst h;simp
  |some d=>
   simp only[fA]at h;cases H:Nat.blt d n with
   |false=>rw[H]at h;cases h
   |true=>
    rw[H]at h;cases h;simp only[eZ.get];cases r:Nat.beq d t with
    |true=>
     have:=iB r;subst this;simp
    |false=>
     have:d≠t:=λe=>by subst e;simp at r
     simp[this]
def vc(h:fA n e (E d) v=E y):d<n:=by
  simp only[fA]at h;cases H:Nat.blt d n with
  |false=>rw[H]at h;cases h
  |true=>simpa[nD]using H
section
variable{P:Program}{C:fw}{n:Nat}{ops:List Oper}{T:Nat->Jy}
def tK(u: ∀j o,ops[j]?=E o-> ∃v,fA n (T j).s.e o.dst v=E (T (j+1)).s.e): ∀(i k:Nat),i<=k->k<=ops.length->
    (∀j o,i<=j->j<k->ops[j]?=E o->o.dst≠E t)->(T k).s.e.get t=(T i).s.e.get t:=by
  intro i k q
  induction k with
  |zero=>
   intro _ _;have:i=0:=O;subst this;rfl
  |succ k a=>
   intro R m;by_cases h:i=k+1
   .subst h;rfl
   .have x:ops[k]?=E (ops[k]'O):=jr O;obtain⟨v,Q⟩:=u k _ x;rw[l9 Q t,if_neg (m k _ O O x)];exact a O O (λj o M S=>m j o M O)
def EC(s: ∀j o,ops[j]?=E o->cls C o.op≠2->(T (j+1)).s.m=(T j).s.m): ∀(i k:Nat),i<=k->k<=ops.length->
    (∀j o,i<=j->j<k->ops[j]?=E o->cls C o.op≠2)->(T k).s.m=(T i).s.m:=by
  intro i k q
  induction k with
  |zero=>
   intro _ _;have:i=0:=O;subst this;rfl
  |succ k v=>
   intro R m;by_cases h:i=k+1
   .subst h;rfl
   .have x:ops[k]?=E (ops[k]'O):=jr O;rw[s k _ x (m k _ O O x)];exact v O O (λj o M S=>m j o M O)
structure Hf(P:Program)(C:fw)(n:Nat)(ops:List Oper)(T:Nat->Jy)(ρ:Nat->Nat)(a0:Act)(w0:ii)(L:Nat->Prop)(ρ':Nat->Nat)(m:dE)(a:Act)(w:ii):Prop where
  closed:re ops L
  ext:qE ρ (T 0).s.m w0 ρ' m w
  size:a.tmps.size=n
  defers:a.defers=a0.defers
  e1: ∀j o d v,ops[j]?=E o->L j->o.dst=E d->(T (j+1)).s.e.get d=E v->a.tmps[d]?=E (v.ee ρ')/\v.wf m.length=G
  e0: ∀t v,(∀j o,ops[j]?=E o->L j->o.dst≠E t)->(T 0).s.e.get t=E v->a.tmps[t]?=E (v.ee ρ')
  mem: ∃K,K<=ops.length/\m=(T K).s.m/\(∀j o,ops[j]?=E o->cls C o.op=2->L j->j<K)/\(K=0∨ ∃o,ops[K-1]?=E o/\cls C o.op=2/\L (K-1))
  len: ∀j o,ops[j]?=E o->cls C o.op=2->L j->(T (j+1)).s.m.length<=m.length
def xP(h:(wF o (ov ops c)=G∨wF c (ov ops o)=G)∨(cls C c.op=2/\1<=cls C o.op)∨(cls C o.op=2/\1<=cls C c.op)):Pf C ops o c=G:=by
  unfold Pf;rcases h with(h|h) |⟨M,S⟩ |⟨M,S⟩
  .simp [h]
  .simp [h]
  .have:Nat.beq (cls C c.op) 2=G:=by rw[M];rfl
   have l:Nat.ble 1 (cls C o.op)=G:=by rw[Nat.ble_eq];exact S
   simp[this,l]
  .have:Nat.beq (cls C o.op) 2=G:=by rw[M];rfl
   have l:Nat.ble 1 (cls C c.op)=G:=by rw[Nat.ble_eq];exact S
   simp[this,l]
def sz{l:List Nat}(h:o.dst=E d)(f:d∈l):wF o l=G:=by simp only[wF,h];exact uj.2 f
def ordered(x:tR C ops=G)(q:re ops L)(d:i<j)(g:ops[i]?=E o)(H:ops[j]?=E c)(s:Pf C ops o c=G)(f: ∀e∈c.after,Region.binds .any e=G->L e.on):L i:=by
  simp only[tR,iv]at x;obtain⟨a,t,_,u⟩:=rl x.2 i j o c d g H;have:=u s;rw[ir]at this;exact mR x.1 q (j+1) j c a O H t f i this
def distinct(x:tR C ops=G)(g:ops[i]?=E o)(H:ops[j]?=E c)(M:o.dst=E d)(S:c.dst=E d):i=j:=by
  simp only[tR,iv]at x;rcases nf i j with h|h|h
  .obtain⟨a,_,v,_⟩:=rl x.2 i j o c h g H;exact(mu v M S).elim
  .exact h
  .obtain⟨a,_,v,_⟩:=rl x.2 j i c o h H g;exact(mu v S M).elim
def Hf.SZ{a0:Act}{w0:ii}{q:Nat->Nat}(h:Hf P C n ops T ρ a0 w0 L q m a w)(x:tR C ops=G)(S: ∀j o,ops[j]?=E o-> ∃v,fA n (T j).s.e o.dst v=E (T (j+1)).s.e)(g:ops[i]?=E o)(y: ¬L i)(f: ∀e∈o.after,Region.binds .any e=G->L e.on):ik q (gN (T i).s.e (ov ops o)) a:=by
  intro t v F;have b:=qD F;have u:=lT F;have aa:i<ops.length:=(fQ.1 g).1;by_cases d: ∃j c,j<i/\ops[j]?=E c/\c.dst=E t
  .obtain⟨j,c,Q,H,z⟩:=d;have R:L j:=ordered x h.closed Q H g (xP (.inl (.inl (sz z b)))) f
   have s:(T i).s.e.get t=(T (j+1)).s.e.get t:=tK S (j+1) i O O (λk r M h2 l p=>by
     have:=distinct x H l z p;omega)
   rw[s]at u;exact(h.e1 j c t v H R z u).1
  .have s:(T i).s.e.get t=(T 0).s.e.get t:=tK S 0 i O O (λk r _ h2 l p=>d ⟨k,r,h2,l,p⟩);rw[s]at u;refine h.e0 t v (λj c H R z=>?_) u;rcases nf j i with M|M|M
   .exact d ⟨j,c,M,H,z⟩
   .subst M;exact y R
   .exact y (ordered x h.closed M g H (xP (.inl (.inr (sz z b)))) (h.closed j c H R))
def Hf.at{q:Nat->Nat}{v:Act}{k:ii}{b:Nat->Nat}(h:Hf P C n ops T q v k L b m a w)(x:tR C ops=G)(t: ∀j o,ops[j]?=E o->cls C o.op≠2->(T (j+1)).s.m=(T j).s.m)(g:ops[i]?=E o)(y: ¬L i)(f: ∀e∈o.after,Region.binds .any e=G->L e.on)(s:1<=cls C o.op):m=(T i).s.m:=by
  obtain⟨p,z,rfl,R,F⟩:=h.mem;have H:i<ops.length:=(fQ.1 g).1
  have Q:p<=i:=by
    rcases F with h0|⟨c,u,r,d⟩
    .omega
    .rcases nf (p-1) i with M|M|M
     .omega
     .rw [M]at d;exact(y d).elim
     .exact(y (ordered x h.closed M g u (xP (.inr (.inl ⟨r,s⟩))) (h.closed _ c u d))).elim
  refine(EC t p i Q O λj c M S l r=>?_).symm;have:=R j c l r (ordered x h.closed S l g (xP (.inr (.inr ⟨r,s⟩))) f);omega
def Hf.next{a0:Act}{w0:ii}(h:Hf P C n ops T ρ a0 w0 L l m a w)(aa:tR C ops=G)(ag:fZ (T 0).s.m.length (T 0).s.e=G)(g:ops[i]?=E o)(aj: ¬L i)(f: ∀e∈o.after,Region.binds .any e=G->L e.on)(hp:fA n (T i).s.e o.dst v=E (T (i+1)).s.e){b:Nat->Nat}{x:dE}{w2:ii}(y:qE l m w b x w2)(af:v.wf x.length=G)(q:if cls C o.op=2 then x=(T (i+1)).s.m else x=m):Hf P C n ops T ρ a0 w0 (λj=>L j∨j=i) b x (a.put o.dst (v.ee b)) w2:=by
  have ak:i<ops.length:=(fQ.1 g).1;have ac: ∀d,o.dst=E d->d<n:=λd z=>by rw[z]at hp;exact vc hp
  have k: ∀t,o.dst≠E t->(a.put o.dst (v.ee b)).tmps[t]?=a.tmps[t]?:=by
    intro t ht;cases z:o.dst with
    |none=>rfl
    |some d=>
     have:d≠t:=λe=>ht (by rw[z,e])
     simp[Act.put,Li this]
  refine⟨λj c H R e he hb=>?_,h.ext.trans y,by rw[iH,h.size],by rw[put_defers,h.defers],λj c d u H R z hu=>?_,λt u ab hu=>?_,?_,λj c H s R=>?_⟩
  .rcases R with R|rfl
   .exact .inl (h.closed j c H R e he hb)
   .rw [g]at H;cases H;exact .inl (f e he hb)
  .by_cases Q:j=i
   .subst Q;rw[g]at H;cases H;have M:=l9 hp d;rw[if_pos z,hu]at M;cases M;refine⟨?_,af⟩;rw[z];have:=ac d z;simp[Act.put,h.size,this]
   .have ae:L j:=R.resolve_right Q;obtain⟨M,S⟩:=h.e1 j c d u H ae z hu;rw[k d (λe=>Q (distinct aa H g z e)),M,gx y.ln u S];exact⟨K,qJ y.len u S⟩
  .have M:=h.e0 t u (λj c H R=>ab j c H (.inl R)) hu;have S:u.wf m.length=G:=qJ h.ext.len u (nR ag t u hu);rw[k t (ab i o g (.inr K)),M,gx y.ln u S]
  .obtain⟨p,hK,ah,ad,F⟩:=h.mem;by_cases s:cls C o.op=2
   .rw [if_pos s]at q;refine⟨i+1,O,q,λj c H r R=>?_,.inr ⟨o,by simpa using g,s,.inr O⟩⟩;rcases R with R|rfl
    .rcases nf j i with M|M|M
     .omega
     .omega
     .exact(aj (ordered aa h.closed M g H (xP (.inr (.inl ⟨r,O⟩))) (h.closed j c H R))).elim
    .omega
   .rw [if_neg s]at q;subst q;refine⟨p,hK,ah,λj c H r R=>?_,F.imp id λ⟨c,M,S,h3⟩=>⟨c,M,S,.inl h3⟩⟩;rcases R with R|rfl
    .exact ad j c H r R
    .rw [g]at H;cases H;exact(s r).elim
  .rcases R with R|rfl
   .exact mh (h.len j c H s R) y.len
   .rw [g]at H;cases H;rw[if_pos s]at q;rw[q];exact eT _
structure Jv(ops:List Oper)(listed:Array Bool)(U:List Nat):Prop where
  size:listed.size=ops.length
  nodup:U.Nodup
  iff: ∀i,i∈U↔i<ops.length/\listed.getD i A=A
def Cu(m:Nat)(ops:List Oper)(h:m=ops.length):Jv ops (Array.replicate m A) (List.range m):=by subst h;refine⟨Y,List.nodup_range,λi=>?_⟩;rw[AA,qt];simp
def zM{c:Array Bool}{q:List Nat}(h:Jv ops c q)(g:i∈q):Jv ops (c.setIfInBounds i G) (q.erase i):=by
  refine⟨by simp[h.size],h.nodup.erase _,λj=>?_⟩;rw[h.nodup.mem_erase_iff,h.iff];by_cases d:i=j
  .subst d;have z:i<c.size:=by rw[h.size];exact((h.iff i).1 g).1
   have:(c.setIfInBounds i G).getD i A=G:=by simp[z]
   simp[this]
  .rw [C9 A d];simp[ra d]
def iJ{c:Array Bool}(z:i<c.size)(d m:Bool):c.getD i d=c.getD i m:=by simp[z]
def ahq(a1:P.follows .mixedOrders=G)(ht:iq P C)(hf:ji P C){id:Nat}{M:Array Oper}{y:Jy}{Q:Exit->Act->ii->Prop}(ac:tR C M.toList=G)(aZ:fZ s.m.length s.e=G)(hl:pQ C n M.toList s.m.length M.toList (ig M.toList []) 0 ⟨s,[]⟩=E y)(ho:eb y.s.ob=G)(hr:jA ρ s.m w)(he:ik ρ s.e a)(hg:Gl ρ C s.m.length)(hn:a.tmps.size=n)(hk: ∀l a' r,oz n ρ s.m a w y.s.e y.s.m l a' r->Q .normal a' r):(Code.region id M G).wp P Q a w:=by
  obtain⟨T,aW,aF,ay⟩:=zh hl;have u:(T 0).s=s:=by rw[aW]
  have aV:(T 0).lens=[]:=by rw[aW]
  have ah: ∀(j:Nat)(o:Oper),M.toList[j]?=E o->j<M.toList.length:=λj o h=>(fQ.1 h).1
  have L: ∀j o,M.toList[j]?=E o-> ∃F,(ig M.toList [])[j]?=E F/\xI C n M.toList s.m.length j o F (T j)=E (T (j+1)):=λj o h=>by obtain⟨F,h1,h2⟩:=ay j o h;rw[ir]at h2;exact⟨F,h1,h2⟩
  have hT: ∀j o,M.toList[j]?=E o-> ∃v,fA n (T j).s.e o.dst v=E (T (j+1)).s.e:=λj o h=>by obtain⟨F,_,h2⟩:=L j o h;exact(kx h2).put
  have hM: ∀j o,M.toList[j]?=E o->cls C o.op≠2->(T (j+1)).s.m=(T j).s.m:=λj o h=>by obtain⟨F,_,h2⟩:=L j o h;exact(kx h2).mem
  have hO: ∀d j,j+d=M.toList.length->eb (T j).s.ob=G:=by
    intro d
    induction d with
    |zero=>intro j R;rw[(O:j=M.toList.length),aF];exact ho
    |succ d ih=>
     intro j R;have ad:M.toList[j]?=E (M.toList[j]'O):=jr O;obtain⟨F,_,h2⟩:=L j _ ad;exact(kx h2).ob (ih (j+1) O)
  have aG: ∀j,j<=M.toList.length-> ∀x∈(T j).lens,x.1<j/\ ∃o,M.toList[x.1]?=E o/\cls C o.op=2/\x.2=(T (x.1+1)).s.m.length:=by
    intro j
    induction j with
    |zero=>intro _ x hx;rw[aV]at hx;cases hx
    |succ j ih=>
     intro R x hx;have ad:M.toList[j]?=E (M.toList[j]'O):=jr O;obtain⟨F,_,h2⟩:=L j _ ad;rw[(kx h2).lens]at hx;split at hx
     .rename_i hc;rcases kh.1 hx with rfl|hx
      .exact⟨O,_,ad,hc,K⟩
      .obtain⟨h3,h4⟩:=ih O x hx;exact⟨O,h4⟩
     .obtain⟨h3,h4⟩:=ih O x hx;exact⟨O,h4⟩
  have aj:my 0 M.toList=G:=by simp only[tR,iv]at ac;exact ac.1
  have aI: ∀(g:Nat)(c:Array Bool)(q:List Nat)(l:Nat->Nat)(m:dE)(a':Act)(r:ii),Jv M.toList c q->q.length=g->
   Hf P C n M.toList T ρ a w (λj=>c.getD j A=G) l m a' r->wpAny P .any M Q g c a' r:=by
    have fin: ∀(c:Array Bool)(q:List Nat)(l:Nat->Nat)(m:dE)(a':Act)(r:ii),Jv M.toList c q->
     Hf P C n M.toList T ρ a w (λj=>c.getD j A=G) l m a' r->Region.ready .any M c=[]->Q .normal a' r:=by
      intro c q l m a' r hU h f
      have al: ∀d j,j<d->j<M.toList.length->c.getD j A=G:=by
        intro d
        induction d with
        |zero=>intro j R;omega
        |succ d ih=>
         intro j a8 ao;cases a4:c.getD j A with
         |true=>rfl
         |false=>
          exfalso;have ad:M.toList[j]?=E (M.toList[j]'ao):=jr ao
          have:j∈Region.ready .any M c:=by refine sm.2 ⟨by rw[iJ (by rw[hU.size];exact ao) G A];exact a4,M.toList[j]'ao,by simpa using ad,λe he hb=>?_⟩;have aP:=mv aj j _ ad e he hb;exact ih e.on O O
          rw[f]at this;cases this
      have ak: ∀j o,M.toList[j]?=E o->c.getD j A=G:=λj o R=>al (j+1) j O (ah j o R)
      have a0:m=y.s.m:=by obtain⟨p,hK,rfl,aM,_⟩:=h.mem;rw[<-aF];refine(EC hM p _ hK (eT _) λj o h1 h2 h3 hc=>?_).symm;have:=aM j o h3 hc (ak j o h3);omega
      refine hk l a' r ⟨?_,λt v hv=>?_,h.size,h.defers⟩
      .have:=h.ext;rw[u,a0]at this;exact this
      .rw [<-aF]at hv;by_cases hw: ∃(j:Nat)(o:Oper),M.toList[j]?=E o/\o.dst=E t
       .obtain⟨j,o,R,hd⟩:=hw
        have ab:=tK hT (t:=t) (j+1) M.toList.length (by have:=ah j o R;omega) (eT _) (λk o2 h1 h2 h3 aD=>by
          have:=distinct ac R h3 hd aD;omega)
        rw[ab]at hv;exact(h.e1 j o t v R (ak j o R) hd hv).1
       .have ab:=tK hT (t:=t) 0 M.toList.length (qM _) (eT _) (λk o2 _ _ h3 aD=>hw ⟨k,o2,h3,aD⟩);rw[ab]at hv;exact h.e0 t v (λj o R _ hd=>hw ⟨j,o,R,hd⟩) hv
    intro g
    induction g with
    |zero=>
     intro c q l m a' r hU ar h
     have f:Region.ready .any M c=[]:=by
       refine NN.2 λi hi=>?_
       obtain⟨h1,o,an,_⟩:=sm.1 hi;have af:i<M.toList.length:=by have:=(Co.1 an).1;simpa using this
       have:i∈q:=(hU.iff i).2 ⟨af,by rw[iJ (by rw[hU.size];exact af) A G];exact h1⟩;rw[Ka.1 ar]at this;cases this
     exact⟨f,fin c q l m a' r hU h f⟩
    |succ g ih=>
     intro c q l m a' r hU ar h;refine⟨fin c q l m a' r hU h,λi hi=>?_⟩;obtain⟨h1,o,an,al⟩:=sm.1 hi;have ae:M.toList[i]?=E o:=by simpa using an
     have af:=ah i o ae;have aQ:c.getD i A=A:=by rw[iJ (by rw[hU.size];exact af) A G];exact h1
     have ap: ¬c.getD i A=G:=by rw[aQ];simp
     have f: ∀e∈o.after,Region.binds .any e=G->c.getD e.on A=G:=al;have aR:i∈q:=(hU.iff i).2 ⟨af,aQ⟩;have a5:=zM hU aR;have aB:(q.erase i).length=g:=by rw[J0 aR];omega
     obtain⟨F,aU,S⟩:=L i o ae;have z:=h.SZ ac hT ae ap f;have aX:=kx S
     have aK:(λj=>(c.getD j A=G∨j=i))=(λj=>(c.setIfInBounds i G).getD j A=G):=by
       funext j
       apply propext;by_cases aC:i=j
       .subst aC;have aP:i<c.size:=by rw[hU.size];exact af
        simp[aP]
       .rw [C9 A aC];simp[ra aC]
     have aO:s.m.length<=m.length:=by have:=h.ext.len;rw[u]at this;exact this
     have aS:Gl l C m.length:=by have:=hg.kg (m':=m.length) aO (λj R=>h.ext.ln j (by rw[u];exact R));exact this
     have aJ:fZ (T 0).s.m.length (T 0).s.e=G:=by rw[u];exact aZ
     have am: ∀v ag m2 w2,fA n (T i).s.e o.dst v=E (T (i+1)).s.e->qE l m r ag m2 w2->v.wf m2.length=G->(if cls C o.op=2 then m2=(T (i+1)).s.m else m2=m)->
      wpAny P .any M Q g (c.setIfInBounds i G) (a'.put o.dst (v.ee ag)) w2:=by intro v ag m2 w2 hp hx b a3;have:=h.next ac aJ ae ap f hp hx b a3;rw[aK]at this;exact ih _ _ _ _ _ _ a5 aB this
     have aq:eb (T (i+1)).s.ob=G:=hO (M.toList.length-(i+1)) (i+1) O;unfold wpOp;rw[an];simp only;unfold xI at S;have av:M=M.toList.toArray:=Y;split at S
     .rename_i aa;have H:=gg z aa;rw[<-av]at H;rw[if_pos H];refine .inl ?_;cases hc:Nat.beq (cls C o.op) 0 with
      |true=>
       rw[hc]at S;have aE:=iB hc;simp only[gq]at S;split at S
       .rename_i v ob hv;generalize hd:(bif asked M.toList i then l6 v (T i).s.yS else(v,(T i).s.yS,[]))=dd at S;obtain⟨v',aH,aY⟩:=dd;simp only at S;split at S
        .rename_i e' hp;cases b:V.wf (reach F s.m.length (T i).lens) v' with
         |false=>rw[b]at S;cases S
         |true=>
          rw[b]at S;simp only[gq,eJ]at S;rw[<-S]at aq;obtain⟨aA,az⟩:=gS.1 aq;obtain⟨_,rfl⟩:=nt az
          have ax:v'=v:=by
            cases hb:asked M.toList i with
            |true=>rw[hb]at hd;exact lG hd aA
            |false=>rw[hb]at hd;simp only[gr,ef]at hd;exact hd.1.symm
          subst ax;unfold Oper.wp;rw[BZ ht h.ext.rel z aS (B6 C aE _ hv m),yA];refine am v' l m r (by rw[<-S];exact hp) (.refl h.ext.rel) (qJ (Ia aO λx hx hb=>?_) v' b) (by rw[if_neg O]);obtain⟨a6,o2,aL,aT,aw⟩:=aG i O x hx;rw[aw];exact h.len x.1 o2 aL aT (mR aj h.closed (i+1) i o F O ae aU f x.1 hb)
        .cases S
       .cases S
      |false=>
       rw[hc]at S
       have aE:1<=cls C o.op:=by
         rcases np (cls C o.op)with e|e
         .rw [e]at hc;cases hc
         .exact e
       have a2:=h.at ac hM ae ap f aE;simp only[gr]at S;split at S
       .rename_i v m' ob hv;generalize hd:(bif asked M.toList i then l6 v (T i).s.yS else(v,(T i).s.yS,[]))=dd at S;obtain⟨v',aH,aY⟩:=dd;simp only at S;split at S
        .rename_i e' hp;cases b:V.wf m'.length v' with
         |false=>rw[b]at S;cases S
         |true=>
          rw[b]at S;simp only[gq,eJ]at S;rw[<-S]at aq;obtain⟨aA,az⟩:=gS.1 aq;obtain⟨_,rfl⟩:=nt az
          have ax:v'=v:=by
            cases hb:asked M.toList i with
            |true=>rw[hb]at hd;exact lG hd aA
            |false=>rw[hb]at hd;simp only[gr,ef]at hd;exact hd.1.symm
          subst ax;rw[<-a2]at hv;refine Be ht hf h.ext.rel z aS hv _ Q λag w2 aw _=>?_
          refine am v' ag m' w2 (by rw[<-S];exact hp) aw b ?_;split
          .rw [<-S]
          .have h1:cls C o.op=1:=by have:=Su C o.op;omega
           exact xB h1 hv
        .cases S
       .cases S
     .rename_i aa;have H:=gg z aa;rw[<-av]at H;rw[if_neg (by rw[H];simp)];split at S
      .rename_i e' hp;simp only[eJ]at S;have hv:undef=(V.t []).ee l:=by simp[V.ee,dZ,undef]
       rw[hv];refine am (.t []) l m r (by rw[<-S];exact hp) (.refl h.ext.rel) K ?_;split
       .rename_i aT;rw[h.at ac hM ae ap f O,<-S]
       .rfl
      .cases S
     .cases S
  have a7:jA ρ s.m {w with drawn:=w.drawn+1}:=hr.draw _;refine Kg a1 ?_;refine aI M.size _ (List.range M.size) ρ s.m a {w with drawn:=w.drawn+1} (Cu _ _ Y) Y ?_;refine⟨λi o hi hL=>?_,?_,hn,K,λj o d v R hL=>?_,λt v _ hv=>?_,⟨0,qM _,by rw[u],λj o R _ hL=>?_,.inl K⟩,λj o R _ hL=>?_⟩
  .rw [qt]at hL;cases hL
  .rw [u];exact .draw hr _
  .rw [qt]at hL;cases hL
  .rw [u]at hv;exact he t v hv
  .rw [qt]at hL;cases hL
  .rw [qt]at hL;cases hL
end
def ze: ∀{l:List Oper}{R:List Nat}{i:Nat}{x y:Jy},pQ C n ops d l R i x=E y->eb y.s.ob=G->eb x.s.ob=G
  |[],_,_,_,_,h,F=>by cases h;exact F
  |_::_,[],_,_,_,h,_=>by simp[pQ]at h
  |o::r,a::R,i,x,y,h,F=>by
   simp only[pQ]at h;split at h
   .rename_i v L;exact(kx L).ob (ze h F)
   .cases h
def BT(C:fw)(n:Nat)(T:List Oper)(s:St):Option St:=
  bif Nat.beq (lh T) T.length&&uQ T then ny C n T T 0 s
  else bif !(Nat.beq (lh T) T.length)&&pK T (lh T)then
    (match ny C n T (T.take (lh T)) 0 s with
    |some H=>qO C n T (T.drop (lh T)) (lh T) H
    |none=>N)
  else bif tR C T&&fZ s.m.length s.e then
    (match pQ C n T s.m.length T (ig T []) 0 ⟨s,[]⟩with
    |some y=>E y.s
    |none=>N)
  else N
def uL(C:fw)(n:Nat)(a:Option (List Nat))(j:List Item)(s:St):Option (List Item×St):=
  match j with
  | .code .skip::k=>E (k,s)
  | .code (.label _)::k=>E (k,s)
  | .inBlock _::k=>E (k,s)
  | .code (.seq x y)::k=>E (.code x:: .code y::k,s)
  | .code (.block id x)::k=>E (.code x:: .inBlock id::k,s)
  | .code (.cond c x y)::k=>match fC C s.e c with
    |some (.b v)=>match l6 (.b v) s.yS with
     |(.b G,q,L)=>E (.code x::k,⟨s.e,s.m,q,L++s.ob⟩)
     |(.b A,q,L)=>E (.code y::k,⟨s.e,s.m,q,L++s.ob⟩)
     |_=>N
    |_=>N
  | .code (.loop x)::k=>match a with
    |none=>N
    |some _=>E (.code x:: .inLoop x::k,s)
  | .inLoop x::k=>match a with
    |none=>N
    |some l=>E (.code x:: .inLoop x::k,⟨gN s.e l,s.m,s.yS,s.ob⟩)
  | .code (.exit id)::k=>match exitTo id k with
    |some z=>E (z,s)
    |none=>N
  | .code (.region _ T G)::k=>match BT C n T.toList s with
    |some H=>E (k,H)
    |none=>N
  | .code (.region _ T A)::k=>E (.inRegion T (List.range T.size)::k,s)
  | .inRegion _ []::k=>E (k,s)
  | .inRegion T (i::r)::k=>match T.toList[i]? with
    |some o=>match Od C n T.toList i o s with
     |some H=>E (.inRegion T r::k,H)
     |none=>N
    |none=>N
  |_=>N
def et(C:fw)(n:Nat)(i:Option (List Nat)):Nat->List Item->St->List Item×St
  |0,t,s=>(t,s)
  |k+1,t,s=>match uL C n i t s with
   |some (a,H)=>et C n i k a H
   |none=>(t,s)
section
variable{P:Program}{C:fw}{n:Nat}
def OZ(h:BT C n T s=E H)(F:eb H.ob=G):eb s.ob=G:=by
  unfold BT at h;cases M:(Nat.beq (lh T) T.length&&uQ T)with
  |true=>rw[M]at h;exact sT h F
  |false=>
   rw[M]at h;simp only[gr]at h;cases S:(!(Nat.beq (lh T) T.length)&&pK T (lh T))with
   |true=>
    rw[S]at h;simp only[gq]at h;split at h
    .rename_i g k;exact sT k (oJ h F)
    .cases h
   |false=>
    rw[S]at h;simp only[gr]at h;cases l:(tR C T&&fZ s.m.length s.e)with
    |false=>rw[l]at h;cases h
    |true=>
     rw[l]at h;simp only[gq]at h;split at h
     .rename_i y Q;cases h;exact ze Q F
     .cases h
def Yd(c:RD P C){id:Nat}{T:Array Oper}{q:Nat->Nat}{Q:Exit->Act->ii->Prop}(m:jA q s.m w)(j:ik q s.e a)(p:Gl q C s.m.length)(x:a.tmps.size=n)(h:BT C n T.toList s=E H)(F:eb H.ob=G)(u: ∀b o r,oz n q s.m a w H.e H.m b o r->Q .normal o r):(Code.region id T G).wp P Q a w:=by
  have d:T=T.toList.toArray:=Y;unfold BT at h;have i:jA q s.m {w with drawn:=w.drawn+1}:=m.draw _;cases M:(Nat.beq (lh T.toList) T.toList.length&&uQ T.toList)with
  |true=>
   rw[M]at h;simp only[gq]at h;simp only[iv]at M;rw[d];refine wp_region_still_lit c.m (II M.2) ?_;exact rR c.t T.toList i j p x h F λo e M S l=>u _ _ _ ⟨by rw[e];exact .draw m _,M,S,l⟩
  |false=>
   rw[M]at h;simp only[gr]at h;cases S:(!(Nat.beq (lh T.toList) T.toList.length)&&pK T.toList (lh T.toList))with
   |true=>
    rw[S]at h;simp only[gq]at h;simp only[iv]at S;split at h
    .rename_i t k;rw[d];refine wp_region_still_tail (lh T.toList) c.m (xS S.2) ?_;refine rR c.t _ i j p x k (oJ h F) λo e l v h5=>?_
     have L:jA q t.m {w with drawn:=w.drawn+1}:=by rw[e];exact i
     refine Lz c.t c.f _ L l (by rw[e];exact p) v h F λb aa r g=>?_
     have g1:oz n q s.m a w t.e t.m q o {w with drawn:=w.drawn+1}:=⟨by rw[e];exact .draw m _,l,v,h5⟩
     exact u _ _ _ (g1.trans g)
    .cases h
   |false=>
    rw[S]at h;simp only[gr]at h;cases l:(tR C T.toList&&fZ s.m.length s.e)with
    |false=>rw[l]at h;cases h
    |true=>
     rw[l]at h;simp only[gq]at h;simp only[iv]at l;split at h
     .rename_i y z;cases h;exact ahq c.m c.t c.f l.1 l.2 z F m j p x u
     .cases h
def DY{i:Option (List Nat)}{t a:List Item}(h:uL C n i t s=E (a,H))(F:eb H.ob=G):eb s.ob=G:=by
  unfold uL at h;split at h
  all_goals first
    |(cases h;exact F)
    |skip
  .split at h
   .split at h
    .cases h;exact(gS.1 F).2
    .cases h;exact(gS.1 F).2
    .cases h
   .cases h
  .split at h
   .cases h
   .cases h;exact F
  .split at h
   .cases h
   .cases h;exact F
  .split at h
   .cases h;exact F
   .cases h
  .split at h
   .rename_i g M;cases h;exact OZ M F
   .cases h
  .split at h
   .split at h
    .rename_i g M;cases h;exact MA M F
    .cases h
   .cases h
  .cases h
variable{f:FuncId}{R:Ending->ii->Prop}
def W4(p:RD P C){M:Option (List Nat)}{t t':List Item}(u:jA ρ s.m w)(j:ik ρ s.e a)(hg:Gl ρ C s.m.length)(z:a.tmps.size=n)(h:uL C n M t s=E (t',H))(ho:eb H.ob=G)(L: ∀l a' S,oz n ρ s.m a w H.e H.m l a' S->nH P f t' a' S R):nH P f t a w R:=by
  have m: ∀(hs: ∀(b:Frame)(cs:List Frame),step P (lone (b.at a t) cs w)= .next (lone (b.at a t') cs w)),H=s->nH P f t a w R:=λhs e=>by subst e;exact ou hs (L _ _ _ (.refl u j z))
  unfold uL at h;split at h
  .cases h;exact m (λ_ _=>step_skip) K
  .cases h;exact m (λ_ _=>step_label) K
  .cases h;exact m (λ_ _=>step_inBlock) K
  .cases h;exact m (λ_ _=>step_seq) K
  .cases h;exact m (λ_ _=>step_block) K
  .rename_i c x y k;split at h
   .rename_i v hv;have aa:=ff j hg hv;split at h
    .rename_i q ab hd;cases h;have:=lG hd (gS.1 ho).1;cases this;exact ou (λb cs=>step_cond (t:=G) aa) (L _ _ _ (.refl u j z))
    .rename_i q ab hd;cases h;have:=lG hd (gS.1 ho).1;cases this;exact ou (λb cs=>step_cond (t:=A) aa) (L _ _ _ (.refl u j z))
    .cases h
   .cases h
  .split at h
   .cases h
   .cases h;exact m (λ_ _=>step_loop) K
  .split at h
   .cases h
   .cases h;exact ou (λ_ _=>step_inLoop) (L _ _ _ (.refl u (λt v hv=>j t v (lT hv)) z))
  .split at h
   .rename_i k' ad;cases h;exact m (λ_ _=>step_exit ad) K
   .cases h
  .split at h
   .rename_i s1 h1;cases h;exact yL (Yd p u j hg z h1 ho λl a' S g=>⟨K,L _ _ _ g⟩)
   .cases h
  .cases h;exact m (λ_ _=>step_region) K
  .cases h;exact m (λ_ _=>step_region_end) K
  .rename_i T i r k;split at h
   .rename_i o ac;split at h
    .rename_i s1 h1;cases h;have F:T[i]?=E o:=by simpa using ac
     have d:T=T.toList.toArray:=Y;rcases NJ p.t p.f u j hg z h1 ho (λa' S=>nH P f (.inRegion T r::k) a' S R) (λ_ _ _=>False) L with⟨Q,h2⟩ |⟨Q,h2⟩
     .rw [<-d]at Q;exact po F Q h2
     .rw [<-d]at Q;exact Pp F Q h2
    .cases h
   .cases h
  .cases h
def BL(c:RD P C){i:Option (List Nat)}: ∀(fuel:Nat){t e:List Item}{q:Nat->Nat}{a:Act}{w:ii}{s H:St},
    jA q s.m w->ik q s.e a->Gl q C s.m.length->a.tmps.size=n->et C n i fuel t s=(e,H)->eb H.ob=G->
    (∀l o S,oz n q s.m a w H.e H.m l o S->nH P f e o S R)->nH P f t a w R
  |0,t,e,q,a,w,s,H,y,j,p,x,h,F,m=>by cases h;exact m _ _ _ (.refl y j x)
  |fuel+1,t,e,q,a,w,s,H,y,j,p,x,h,F,m=>by
   have b: ∀(fuel:Nat){t e:List Item}{s H:St},et C n i fuel t s=(e,H)->eb H.ob=G->eb s.ob=G:=by
     intro fuel
     induction fuel with
     |zero=>intro t e s H h F;cases h;exact F
     |succ k u=>
      intro t e s H h F;simp only[et]at h;split at h
      .rename_i v r M;exact DY M (u h F)
      .cases h;exact F
   simp only[et]at h;split at h
   .rename_i v r M;refine W4 c y j p x M (b fuel h F) λl o S g=>?_
    exact BL c fuel g.rel g.env (p.kg g.len g.ln) g.size h F λd Q z L=>m _ _ _ (g.trans L)
   .cases h;exact m _ _ _ (.refl y j x)
end
end Go.Proofs.YtiggidfngfkanaaGreatDoor
