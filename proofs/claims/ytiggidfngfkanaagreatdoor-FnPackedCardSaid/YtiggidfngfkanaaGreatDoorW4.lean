/- FnPacked, part 4. No condition. -/
import Derived.Test.YtiggidfngfkanaaGreatDoorW3
import Derived.Test.YtiggidfngfkanaaGreatDoorChecked
namespace Go.Proofs.YtiggidfngfkanaaGreatDoor
open Go Go.Proofs.Tryz
set_option maxRecDepth 100000
set_option maxHeartbeats 4000000
set_option linter.all false
open Bool renaming false->A, true->G
open Decidable renaming decide->D
open Go renaming IntKind->U, TypeId->es
open Go.Proofs.Tryz renaming prog->B
open List renaming drop->kw, replicate->lc
open Option renaming none->N, some->E
variable{c:Code}{fn:Func}{x y:Int}{f i:Nat}{R:Nat->Option Nat}
def eX: ∃k,B.depth=k+2:=⟨B.depth-2,(Nat.sub_add_cancel (mi I)).symm⟩
def ayo:TD:=j5 1 (.slice 137) [.slice N 0 0]
def YD:fz B 88 ayo:=fz.of eX I I
def aob:TD:=j5 1 (.int .u32) [.int .u32 0]
def YE:fz B 26 aob:=fz.of eX I I
def ql:TD:=j5 8 (.array 8 26) (lc 8 (.int .u32 0))
def U9:fz B 28 ql:=fz.of eX I I
def ZV:TD:=j5 18 (.array 18 26) (lc 18 (.int .u32 0))
def Ut:fz B 163 ZV:=fz.of eX I I
def U2:TD:=j5 2 (.struct #[⟨ "neg",4,0,A, "", "given.example/pub-waxwright/pub/bigall",0⟩,⟨ "abs",88,1,A, "", "given.example/pub-waxwright/pub/bigall",8⟩]) [.bool A,.slice N 0 0]
def Ys:fz B 90 U2:=fz.of eX I I
def ZC:TD:=j5 1 (.int .u64) [.int .u64 0]
def QM:fz B 137 ZC:=fz.of eX I I
def aoi:TD:=j5 1 (.slice 137) [.slice N 0 0]
def WC:fz B 87 aoi:=fz.of eX I I
def td3:TD:=j5 1 (.int .i64) [.int .i64 0]
def aac:fz B 3 td3:=fz.of eX I I
def azc:TD:=j5 24 (.struct #[⟨ "x",28,0,A, "", "given.example/pub-waxwright/spec",0⟩,⟨ "y",28,8,A, "", "given.example/pub-waxwright/spec",32⟩,⟨ "z",28,16,A, "", "given.example/pub-waxwright/spec",64⟩]) (lc 24 (.int .u32 0))
def WL:fz B 66 azc:=fz.of eX I I
def azr:TD:=j5 1 (.slice 5) [.slice N 0 0]
def XA:fz B 22 azr:=fz.of eX I I
def td5:TD:=j5 1 (.int .u8) [.int .u8 0]
def adz:fz B 5 td5:=fz.of eX I I
def td4:TD:=j5 1 (.bool) [.bool A]
def aeo:fz B 4 td4:=fz.of eX I I
def ZJ:TD:=j5 9 (.array 9 26) (lc 9 (.int .u32 0))
def Uu:fz B 109 ZJ:=fz.of eX I I
def Y8:TD:=j5 1 (.int .u64) [.int .u64 0]
def Rj:fz B 101 Y8:=fz.of eX I I
def Zu:TD:=j5 1 (.int .u64) [.int .u64 0]
def RU:fz B 102 Zu:=fz.of eX I I
def td2:TD:=j5 1 (.int .i64) [.int .i64 0]
def aba:fz B 2 td2:=fz.of eX I I
def IK:TD:=j5 17 (.struct #[⟨ "X",28,0,A, "", "",0⟩,⟨ "Y",28,8,A, "", "",32⟩,⟨ "None",4,16,A, "", "",64⟩]) (lc 16 (.int .u32 0)++[.bool A])
def XK:fz B 36 IK:=fz.of eX I I
def td9:TD:=j5 1 (.string) [.string ⟨#[]⟩]
def ajk:fz B 9 td9:=fz.of eX I I
def Zs:TD:=j5 38 (.struct #[⟨ "RInverse",57,0,A, "", "",0⟩,⟨ "CurveParams",81,1,G, "", "",8⟩,⟨ "a",109,2,A, "", "given.example/pub-waxwright/pub/gmsmt/sm2",16⟩,⟨ "b",109,11,A, "", "given.example/pub-waxwright/pub/gmsmt/sm2",52⟩,⟨ "gx",109,20,A, "", "given.example/pub-waxwright/pub/gmsmt/sm2",88⟩,⟨ "gy",109,29,A, "", "given.example/pub-waxwright/pub/gmsmt/sm2",124⟩]) ([.pointer N,.pointer N]++lc 36 (.int .u32 0))
def SK:fz B 111 Zs:=fz.of eX I I
def Zx:TD:=j5 8 (.array 8 2) (lc 8 (.int .i64 0))
def Uk:fz B 127 Zx:=fz.of eX I I
def atu:TD:=j5 1 (.pointer 90) [.pointer N]
def WO:fz B 57 atu:=fz.of eX I I
def ZN:TD:=j5 17 (.array 17 101) (lc 17 (.int .u64 0))
def TV:fz B 139 ZN:=fz.of eX I I
def anr:TD:=j5 1 (.interface #[("Error",254)]) [.nilIface]
def VM:fz B 48 anr:=fz.of eX I I
def YW:TD:=j5 3 (.struct #[⟨ "s",9,0,A, "", "strings",0⟩,⟨ "i",2,1,A, "", "strings",16⟩,⟨ "prevRune",3,2,A, "", "strings",24⟩]) [.string ⟨#[]⟩,.int .i64 0,.int .i64 0]
def UD:fz B 188 YW:=fz.of eX I I
def Y2:TD:=j5 1 (.struct #[⟨ "w",87,0,A, "", "given.example/pub-waxwright/pub/bigall",0⟩]) [.slice N 0 0]
def Rk:fz B 219 Y2:=fz.of eX I I
def aqg:TD:=j5 7 (.struct #[⟨ "P",57,0,A, "", "",0⟩,⟨ "N",57,1,A, "", "",8⟩,⟨ "B",57,2,A, "", "",16⟩,⟨ "Gx",57,3,A, "", "",24⟩,⟨ "Gy",57,4,A, "", "",32⟩,⟨ "BitSize",3,5,A, "", "",40⟩,⟨ "Name",9,6,A, "", "",48⟩]) [.pointer N,.pointer N,.pointer N,.pointer N,.pointer N,.int .i64 0,.string ⟨#[]⟩]
def XR:fz B 84 aqg:=fz.of eX I I
def Ek:TD:=j5 16 (.array 16 88) (lc 16 (.slice N 0 0))
def Uh:fz B 242 Ek:=fz.of eX I I
def aot:TD:=j5 1 (.pointer 84) [.pointer N]
def Ya:fz B 81 aot:=fz.of eX I I
def alz:TD:=j5 3 (.struct #[⟨ "Curve",56,0,G, "", "",0⟩,⟨ "X",57,1,A, "", "",16⟩,⟨ "Y",57,2,A, "", "",24⟩]) [.nilIface,.pointer N,.pointer N]
def Wd:fz B 59 alz:=fz.of eX I I
def ZU:TD:=j5 1 (.pointer 219) [.pointer N]
def QO:fz B 199 ZU:=fz.of eX I I
def Ze:TD:=j5 1 (.struct #[⟨ "si",199,0,A, "", "given.example/pub-waxwright/pub/bigall",0⟩]) [.pointer N]
def SC:fz B 201 Ze:=fz.of eX I I
def aqy:TD:=j5 384 (.array 16 66) (lc 384 (.int .u32 0))
def V4:fz B 67 aqy:=fz.of eX I I
def ZD:TD:=j5 16 (.array 16 26) (lc 16 (.int .u32 0))
def Qp:fz B 104 ZD:=fz.of eX I I
def aki:TD:=j5 1 (.pointer 59) [.pointer N]
def XB:fz B 76 aki:=fz.of eX I I
def ZZ:TD:=j5 1 (.pointer 137) [.pointer N]
def S5:fz B 153 ZZ:=fz.of eX I I
def YY:TD:=j5 72 (.array 72 26) (lc 72 (.int .u32 0))
def PV:fz B 165 YY:=fz.of eX I I
def Y9:TD:=j5 64 (.array 8 127) (lc 64 (.int .i64 0))
def RP:fz B 157 Y9:=fz.of eX I I
def Y3:TD:=j5 1 (.pointer 201) [.pointer N]
def Q2:fz B 175 Y3:=fz.of eX I I
def ash:TD:=j5 1 (.int .i32) [.int .i32 0]
def Xs:fz B 21 ash:=fz.of eX I I
def azq:TD:=j5 1 (.interface #[]) [.nilIface]
def U5:fz B 20 azq:=fz.of eX I I
def Zh:TD:=j5 1 (.pointer 188) [.pointer N]
def Qu:fz B 160 Zh:=fz.of eX I I
def ZY:TD:=j5 64 (.array 64 5) (lc 64 (.int .u8 0))
def Qs:fz B 232 ZY:=fz.of eX I I
def aqx:TD:=j5 1 (.interface #[("Add",268),("Double",269),("IsOnCurve",270),("Params",82),("ScalarBaseMult",95),("ScalarMult",271)]) [.nilIface]
def Wz:fz B 56 aqx:=fz.of eX I I
def aqj:List (Nat×TD):=[(88,ayo),(26,aob),(28,ql),(163,ZV),(90,U2),(137,ZC),(87,aoi),(3,td3),(66,azc),(22,azr),(5,td5),(4,td4),(109,ZJ),(101,Y8),(102,Zu),(2,td2),(36,IK),(9,td9),(111,Zs),(127,Zx),(57,atu),(139,ZN),(48,anr),(188,YW),(219,Y2),(84,aqg),(242,Ek),(81,aot),(59,alz),(199,ZU),(201,Ze),(67,aqy),(104,ZD),(76,aki),(153,ZZ),(165,YY),(157,Y9),(175,Y3),(21,ash),(20,azq),(160,Zh),(232,ZY),(56,aqx)]
def kM(t:Nat):Option TD:=Hc aqj t
def aij: ∀t d,kM t=E d->fz B t d:=by refine EW ?_;unfold aqj;exact⟨YD,YE,U9,Ut,Ys,QM,WC,aac,WL,XA,adz,aeo,Uu,Rj,RU,aba,XK,ajk,SK,Uk,WO,TV,VM,UD,Rk,XR,Uh,Ya,Wd,QO,SC,V4,Qp,XB,S5,PV,RP,Q2,Xs,U5,Qu,Qs,Wz,dD⟩
def iZ:B.follows .mixedOrders=G:=Checked.mixed Tryz.checked
def Ku:List V->Option (V×Bool)
  |[.i .u64 x,.i .u64 y,.i .u64 c]=>E (.t [.i .u64 ((x+y+c)%18446744073709551616),.i .u64 ((x+y+c)/18446744073709551616)],D (0<=x/\0<=y/\0<=c/\c<=1))
  |_=>N
def Lm:List V->Option (V×Bool)
  |[.i .u64 x,.i .u64 y,.i .u64 c]=>E (.t [.i .u64 ((x-y-c)%18446744073709551616),.i .u64 (if x<y+c then 1 else 0)],D (0<=x/\0<=y/\y<18446744073709551616/\0<=c/\c<=1))
  |_=>N
def Po:EOK B 148 Ku:=by
  intro q w args v h;unfold Ku at h;split at h
  .rename_i x y c;simp only[eJ,ef,eG]at h;obtain⟨rfl,L,Q,l,s⟩:=h;obtain⟨x,rfl⟩:=fy L;obtain⟨y,rfl⟩:=fy Q;obtain⟨c,rfl⟩:=fy l;show(callFunc 148 #[.int .u64 x,.int .u64 y,.int .u64 c]).run _ w=_;rw[run_callFunc_extern (fn:=f148) I I I I (e:=add64Entry) I,run_add64 x y c O O O O];simp only[Result.andThen,V.ee,dZ]
  .cases h
def Oc:EOK B 150 Lm:=by
  intro q w args v h;unfold Lm at h;split at h
  .rename_i x y c;simp only[eJ,ef,eG]at h;obtain⟨rfl,L,Q,i,l,s⟩:=h;obtain⟨x,rfl⟩:=fy L;obtain⟨y,rfl⟩:=fy Q;obtain⟨c,rfl⟩:=fy l;show(callFunc 150 #[.int .u64 x,.int .u64 y,.int .u64 c]).run _ w=_;rw[run_callFunc_extern (fn:=f150) I I I I (e:=sub64Entry) I,run_sub64 x y c O];simp only[Result.andThen,V.ee,dZ];have T:(((x+18446744073709551616-y-c)%18446744073709551616:Nat):Int)=((x:Int)-y-c)%18446744073709551616:=O
   have f:((if x<y+c then 1 else 0:Nat):Int)=if(x:Int)<y+c then 1 else 0:=by split<;>split<;>omega
   rw[T,f]
  .cases h
def acj(f:Nat):Option (List V->Option (V×Bool)):=bif Nat.beq f 148 then E Ku else bif Nat.beq f 150 then E Lm else N
def Vj: ∀f F,acj f=E F->EOK B f F:=by
  intro f F h;unfold acj at h;cases M:Nat.beq f 148 with
  |true=>rw[M]at h;cases h;rw[iB M];exact Po
  |false=>
   rw[M]at h;cases S:Nat.beq f 150 with
   |true=>rw[S]at h;cases h;rw[iB S];exact Oc
   |false=>rw[S]at h;cases h
abbrev jB:=List V->dE->Option (V×dE×Bool)
variable{l:List (Nat×jB)}
abbrev QF:=List V->dE->Option (V×Bool)
variable{q:List (Nat×QF)}
def BV{α:Type}:List (Nat×α)->Nat->Option α
  |[],_=>N
  |x::r,f=>bif Nat.beq x.1 f then E x.2 else BV r f
def ep(R:Nat->Option Nat)(l:List (Nat×jB))(q:List (Nat×QF)):fw:=⟨kM,R,BV l,acj,BV q⟩
def fl(R:Nat->Option Nat):List (Nat×jB)->Prop
  |[]=>True
  |x::r=>(eo B x.1/\qI B R x.1 x.2)/\fl R r
def gf(R:Nat->Option Nat):List (Nat×QF)->Prop
  |[]=>True
  |x::r=>(eo B x.1/\oR B R x.1 x.2)/\gf R r
def I7: ∀{l:List (Nat×jB)},fl R l-> ∀f F,BV l f=E F->eo B f/\qI B R f F
  |[],_,_,_,h=>by cases h
  |x::r,t,f,F,h=>by
   simp only[BV]at h;cases H:Nat.beq x.1 f with
   |true=>rw[H]at h;cases h;rw[<-iB H];exact t.1
   |false=>rw[H]at h;exact I7 t.2 f F h
def IL: ∀{l:List (Nat×QF)},gf R l-> ∀f F,BV l f=E F->eo B f/\oR B R f F
  |[],_,_,_,h=>by cases h
  |x::r,t,f,F,h=>by
   simp only[BV]at h;cases H:Nat.beq x.1 f with
   |true=>rw[H]at h;cases h;rw[<-iB H];exact t.1
   |false=>rw[H]at h;exact IL t.2 f F h
def gy(h:fl R l)(z:gf R q):ji B (ep R l q):=⟨IL z,I7 h,Vj⟩
def ni:iq B (ep R l q):=aij
def eB{C:fw}(h:ji B C)(r:iq B C:=by exact ni):RD B C:=⟨iZ,r,h⟩
def lP:RD B (ep R [] []):=⟨iZ,ni,gy dD dD⟩
def gK(h:fl R l)(z:gf R q):RD B (ep R l q):=⟨iZ,ni,gy h z⟩
def od(t:B.funcs[f]?=E fn)(h:((fn.name== "runtime.NumGoroutine") ||fn.body.isNone)=A):eo B f:=by simp only[Bool.or_eq_false_iff]at h;exact⟨fn,t,h.1,h.2⟩
def ga(fn:Func)(t:B.funcs[f]?=E fn:=by kernel_rfl)(h:((fn.name== "runtime.NumGoroutine") ||fn.body.isNone)=A:=by kernel_rfl):eo B f:=od t h
def afv(b:fl R l)(a:gf R q)(t:B.funcs[f]?=E fn)(H:fn.body=E c){F:jB}(j:Nat)(h: ∀args m r u,F args m=E (r,u,G)-> ∃z s,qW (ep R l q) fn.ntmps N j c fn.results.toList args m z=E (r,u,s)/\eb s=G):qI B R f F:=by
  intro d m w args r u T y p;obtain⟨z,s,M,S⟩:=h args m r u T;exact JK (gK b a) t H y p M S
def afp(b:fl R l)(a:gf R q)(t:B.funcs[f]?=E fn)(H:fn.body=E c){F:QF}(j:Nat)(h: ∀args m r,F args m=E (r,G)-> ∃z s,qW (ep R l q) fn.ntmps N j c fn.results.toList args m z=E (r,m,s)/\eb s=G):oR B R f F:=by
  intro d m w args r T y p;obtain⟨z,s,M,S⟩:=h args m r T;exact JK (gK b a) t H y p M S
def gD{F:QF}(h: ∀args m r,F args m=E (r,G)->eM B R f args m (λv u=>v=r/\u=m)):oR B R f F:=by intro q m w args r T y p;refine(h args m r T q w y p).mono ?_;rintro i S⟨l,v,u,L,j,rfl,rfl⟩;exact⟨l,L.whole,j⟩
def ints:List U->List V->Option (List Int)
  |[],[]=>E []
  |k::u,.i z n::r=>bif uA z k then(match ints u r with|some l=>E (n::l) |none=>N)else N
  |_,_=>N
def FR:List U->List Int->List V
  |k::u,n::l=> .i k n::FR u l
  |_,_=>[]
def Bm: ∀{u:List U}{args:List V}{l:List Int},ints u args=E l->args=FR u l/\l.length=u.length
  |[],[],l,h=>by cases h;exact⟨K,K⟩
  |[],_::_,l,h=>by simp[ints]at h
  |_::_,[],l,h=>by simp[ints]at h
  |k::u,v::r,l,h=>by
   cases v with
   |i z n=>
    simp only[ints]at h;cases R:uA z k with
    |false=>rw[R]at h;cases h
    |true=>
     rw[R]at h;have:=sW R;subst this;simp only[gq]at h;split at h
     .rename_i a p;cases h;obtain⟨M,S⟩:=Bm p;exact⟨by rw[M];rfl,by simp[S]⟩
     .cases h
   |_=>simp[ints]at h
def yG(u:List U)(g:List Int->V)(i:List Int->Bool):QF:=λargs _=>
  match ints u args with
  |some l=>E (g l,i l)
  |none=>N
def mJ{L:List (Nat×jB)}(b:fl R L)(a:gf R q)(t:B.funcs[f]?=E fn)(H:fn.body=E c){u:List U}{g:List Int->V}{i:List Int->Bool}(j:Nat)(h: ∀l m,l.length=u.length->i l=G-> ∃z s,qW (ep R L q) fn.ntmps N j c fn.results.toList (FR u l) m z=E (g l,m,s)/\eb s=G):oR B R f (yG u g i):=by
  refine afp b a t H j ?_;intro args m r T;unfold yG at T;split at T
  .rename_i l p;simp only[eJ,ef]at T;obtain⟨rfl,F⟩:=T;obtain⟨rfl,S⟩:=Bm p;exact h l m S F
  .cases T
def dL{m:dE}{Q:V->dE->Prop}{args:List V}(C:fw)(fn:Func)(h:Ev B C f fn.ntmps m.length [] [.code (dB fn)] (fo 0 args) m Q)(T:C.mw=R:=by rfl)(t:B.funcs[f]?=E fn:=by kernel_rfl)(H:fn.body=E (dB fn):=by kernel_rfl)(e:Nat.ble args.length fn.ntmps=G:=by kernel_rfl):eM B R f args m Q:=eM.of T t H e h
def aMg:List Int->V
  |[x,y,c]=> .t [.i .u64 ((x+y+c)%18446744073709551616),.i .u64 ((x+y+c)/18446744073709551616)]
  |_=> .t []
def kI:List Int->Bool
  |[x,y,c]=>D (0<=x/\0<=y/\0<=c/\c<=1)
  |_=>A
abbrev afu:QF:=yG [.u64,.u64,.u64] aMg kI
def NF(R:Nat->Option Nat):oR B R 128 afu:=by
  refine mJ (L:=[]) (q:=[]) dD dD (fn:=f128) (c:=dB f128) I I 100 ?_;intro l m f h
  match l,f with
  |[x,y,c],_=>exact⟨[],[D (0<=x/\0<=y/\0<=c/\c<=1)],I,dX.2 ⟨h,K⟩⟩
def aIq:List Int->V
  |[x,y,c]=> .t [.i .u64 ((x-y-c)%18446744073709551616),.i .u64 (if x<y+c then 1 else 0)]
  |_=> .t []
def qB:List Int->Bool
  |[x,y,c]=>D (0<=x/\0<=y/\y<18446744073709551616/\0<=c/\c<=1)
  |_=>A
abbrev aec:QF:=yG [.u64,.u64,.u64] aIq qB
def LJ(R:Nat->Option Nat):oR B R 130 aec:=by
  refine mJ (L:=[]) (q:=[]) dD dD (fn:=f130) (c:=dB f130) I I 100 ?_;intro l m f h
  match l,f with
  |[x,y,c],_=>exact⟨[],[D (0<=x/\0<=y/\y<18446744073709551616/\0<=c/\c<=1)],I,dX.2 ⟨h,K⟩⟩
def kq(n:Int):U.u64.wrap n=n%18446744073709551616:=by rw[J2]
def wa(n:Int):U.u32.wrap n=n%4294967296:=by rw[F7]
def wr8(n:Int):U.u8.wrap n=n%256:=by rw[JI]
def jG(w n:Nat)(h:n<2^w):(BitVec.ofInt w (n:Int)).toNat=n:=by simp[uG h]
def pT(k:U)(b j:Nat)(x:Nat)(v:k.signed=A)(H:k.bits=b)(a:j<=b)(L:x<2^b):eA .and k (x:Int) (((2^j-1:Nat)):Int)=((x%2^j:Nat):Int):=by
  have Q:2^j-1<2^b:=by have:=zU (O:0<2) a;have:=zk j;omega
  subst H;simp only[eA,Gk,jG _ _ L,jG _ _ Q,Cs];have M:x%2^j<=x:=Nat.mod_le _ _;cases k<;>simp[U.signed]at v<;>simp only[JI,U.wrap_u16,F7,J2,U.bits]at* <;>omega
def aCx:List Int->V
  |[x,y]=> .t [.i .u64 (x*y/18446744073709551616),.i .u64 (x*y%18446744073709551616)]
  |_=> .t []
def m6:List Int->Bool
  |[x,y]=>D (gn x/\gn y)
  |_=>A
abbrev JY:QF:=yG [.u64,.u64] aCx m6
def GQ(x:Int):Int:=eA .and .u64 x 4294967295
def Dz(x:Int):Int:=x.fdiv (2^min (Int.toNat 32) U.u64.bits)
def Kn(x:Int):Int:=U.u64.wrap x
def Bf(x:Nat)(h:x<18446744073709551616):GQ x=((x%4294967296:Nat):Int):=pT .u64 64 32 x K K O h
def xQ(x:Nat):Dz x=((x/4294967296:Nat):Int):=by show(x:Int).fdiv (((4294967296:Nat):Int))=_;rw[kB _ O];omega
def uO(x:Nat)(h:x<18446744073709551616):Kn x=x:=by rw[Kn,kq];omega
def Kc(x y:Int):Int:=
  Kn (Kn (Kn (Dz x*Dz y)+Dz (Kn (Kn (Dz x*GQ y)+Dz (Kn (GQ x*GQ y)))))+
   Dz (Kn (GQ (Kn (Kn (Dz x*GQ y)+Dz (Kn (GQ x*GQ y))))+Kn (GQ x*Dz y))))
def On(x y:Int)(L:gn x)(Q:gn y):Kc x y=x*y/18446744073709551616:=by
  obtain⟨x,rfl⟩:=fy L.1;obtain⟨y,rfl⟩:=fy Q.1;have e:x<18446744073709551616:=by have:=L.2;omega
  have i:y<18446744073709551616:=by have:=Q.2;omega
  obtain⟨M,S,l,u⟩:=Lib.mul64_hi x y e i;have t:=GB (a:=x/4294967296) (b:=y/4294967296) O O;have H:=GB (a:=x/4294967296) (b:=y%4294967296) O O;have s:=GB (a:=x%4294967296) (b:=y/4294967296) O O;have z:=GB (a:=x%4294967296) (b:=y%4294967296) O O;unfold Kc;rw[Bf x e,Bf y i,xQ x,xQ y];simp only[<-lJ];rw[show((x*y:Nat):Int)/18446744073709551616=((x*y/18446744073709551616:Nat):Int)by rw[xe];rfl,<-u];generalize(x/4294967296)*(y/4294967296)=a at*;generalize(x/4294967296)*(y%4294967296)=b at*;generalize(x%4294967296)*(y/4294967296)=c at*;generalize(x%4294967296)*(y%4294967296)=d at*
  rw[uO a O,uO b O,uO c O,uO d O,xQ d,<-rJ,uO (b+d/4294967296) O,xQ,Bf _ O,<-rJ,<-rJ,
   uO (a+_) O,uO (_+c) O,xQ,<-rJ,uO _ O]
def XZ(R:Nat->Option Nat):oR B R 201 JY:=by
  refine mJ (L:=[]) (q:=[]) dD dD (fn:=f201) (c:=dB f201) I I 100 ?_;intro l m f h
  match l,f with
  |[x,y],_=>
   have F:gn x/\gn y:=by simpa[m6]using h
   refine⟨[],[G,G,G,G,G],?_,K⟩;have e:qW (ep R [] []) f201.ntmps N 100 (dB f201) f201.results.toList [.i .u64 x,.i .u64 y] m []=E (.t [.i .u64 (Kc x y),.i .u64 (Kn (x*y))],m,[G,G,G,G,G]):=I;rw[On x y F.1 F.2,Kn,kq]at e;exact e
abbrev L1:List (Nat×QF):=[(128,afu),(130,aec),(201,JY)]
def ZE(R:Nat->Option Nat):gf R L1:=
  ⟨⟨ga f128,NF R⟩,⟨ga f130,LJ R⟩,⟨ga f201,XZ R⟩,dD⟩
def LY(R:Nat->Option Nat):oR B R 188 JY:=by
  refine mJ (L:=[]) dD (ZE R) (fn:=f188) (c:=dB f188) I I 100 ?_;intro l m f h
  match l,f with
  |[x,y],_=>exact⟨[],[m6 [x,y]],I,dX.2 ⟨h,K⟩⟩
abbrev L2:List (Nat×QF):=(188,JY)::L1
def Jd(R:Nat->Option Nat):gf R L2:=⟨⟨ga f188,LY R⟩,ZE R⟩
def Vy(R:Nat->Option Nat):oR B R 163 JY:=by
  refine mJ (L:=[]) dD (Jd R) (fn:=f163) (c:=dB f163) I I 100 ?_;intro l m f h
  match l,f with
  |[x,y],_=>exact⟨[],[m6 [x,y]],I,dX.2 ⟨h,K⟩⟩
def gP:Int->List Int->List Int->List Int×Int
  |c,x::H,y::p=>((x+y+c)%18446744073709551616::(gP ((x+y+c)/18446744073709551616) H p).1,(gP ((x+y+c)/18446744073709551616) H p).2)
  |c,_,_=>([],c)
abbrev C2(R:Nat->Option Nat):fw:=ep R [] L2
def CO(R:Nat->Option Nat):ji B (C2 R):=gy dD (Jd R)
noncomputable abbrev agm:List Item:=gQ (dB f127) 0 []
def lM(i:Nat)(h:i<4294967296):U.i64.wrap ((i:Int)+1)=((i+1:Nat):Int):=by rw[qd];omega
def uR{l:List Int}(h:dG l)(g:i<l.length):gn (l.getD i 0):=by rw[ie,jr g];exact h _ (List.getElem_mem _)
def iN(l:List Int)(o k:Nat)(h:o+(k+1)<=l.length):(l.drop o).take (k+1)=l.getD o 0::(l.drop (o+1)).take k:=by rw[ie,jr O,CN,uX O,Gu]
def qw(l L:List Int)(o:Nat)(v:Int)(h:o<l.length):dC (l.set o v) L (o+1)=dC l (v::L) o:=by
  unfold dC;rw[s9 l o v h];simp only[eI]
  have T:(l.take o++[v]++l.drop (o+1)).take (o+1)=l.take o++[v]:=by rw[jO gp]
  have f:(l.take o++[v]++l.drop (o+1)).drop (o+1+L.length)=l.drop (o+(L.length+1)):=by
    rw[s6,sV gp,sP,lR]
    congr 1
    simp;omega
  rw[T,f];simp
def jQ:Int->List Int->List Int->List Int×Int
  |c,x::H,y::p=>((x-y-c)%18446744073709551616::(jQ (if x<y+c then 1 else 0) H p).1,(jQ (if x<y+c then 1 else 0) H p).2)
  |c,_,_=>([],c)
noncomputable abbrev acz:List Item:=gQ (dB f129) 0 []
def GL(x:Int):gn (x%18446744073709551616):=⟨O,O⟩
def gu{l:List Int}(h:dG l){v:Int}(Q:gn v):dG (l.set i v):=by
  intro x L;rcases List.mem_or_eq_of_mem_set L with M|M
  .exact h x M
  .rw [M];exact Q
def oL(l:List Int)(i o:Nat)(v:Int)(h:i<o):(l.set i v).drop o=l.drop o:=by rw[B9 h]
def Fa{R:Nat->Option Nat}{f:FuncId}{T:List Item}{m H t n cz cx cy xi yi:Nat}{M:List Int->dE}{X s:List Int->List Int}{W:List Int->Prop}{S C:Int->Int->Int->Int}{o:List Int->Bool}{w:Int->List Int->List Int->List Int×Int}{z:List Int}(L:B.funcs[f]?=E fn)(hb:fn.body=E c)(aj:Nat.ble 3 fn.ntmps=G):letI a:V:= .s (E (xi,H)) n cx;letI b:V:= .s (E (yi,t)) n cy;letI e:V:= .s (E (0,m)) n cz;letI g:=(n:Nat);letI h:List Int×Int:=w 0 (((X z).drop H).take n) (((s z).drop t).take n);letI j:Nat×V:=(24,.i .i64 g);letI k:=((n:Int)!=(n:Int))==A;letI l:=C2 R;∀(k0:(oS (eC l fn.ntmps 100 [0,1,2,6,24,25] [.code c] ⟨fo 0 [e,a,b],M z,[A,A],[]⟩))=(T,[(0,e),(1,a),(2,b),(6,.i .u64 0),j,(25,.i .i64 ((0:Nat):Int))],M z,[G,k,G,G,k,G,G]))(u: ∀(i:Nat)(F:List Int)(d:Int),(oS (eC l fn.ntmps 100 [0,1,2,6,24,25] T ⟨[(0,e),(1,a),(2,b),(6,.i .u64 d),j,(25,.i .i64 (i:Nat))],M F,[G],[]⟩))=(T,[(0,e),(1,a),(2,b),(6,.i .u64 (C ((X F).getD (dH H i 1) 0) ((s F).getD (dH t i 1) 0) d)),j,(25,.i .i64 (U.i64.wrap ((i:Int)+1)))],M (F.set (dH m i 1) (S ((X F).getD (dH H i 1) 0) ((s F).getD (dH t i 1) 0) d)),
     [D (1=1/\dH m i 1<F.length),D ((0:Int)<=(i:Nat)/\(i:Int)<g),o [(X F).getD (dH H i 1) 0,(s F).getD (dH t i 1) 0,d],D (dH t i 1<(s F).length),D ((0:Int)<=(i:Nat)/\(i:Int)<g),D (dH H i 1<(X F).length),D ((0:Int)<=(i:Nat)/\(i:Int)<g),D ((i:Int)<g)==G]))(k2: ∀(i:Nat)(F:List Int)(d:Int),(gi fn.results.toList (et l fn.ntmps N 100 T ⟨[(0,e),(1,a),(2,b),(6,.i .u64 d),j,(25,.i .i64 (i:Nat))],M F,[A],[]⟩))=(G,E (.i .u64 d),M F,[D ((i:Int)<g)==A]))(hn:n<4294967296)(hz:m+n<=z.length)(ad:W z)(hX: ∀F,F.length=z.length->W F->H+n<=(X F).length/\dG (X F))(hY: ∀F,F.length=z.length->W F->t+n<=(s F).length/\dG (s F))(ab: ∀F i v,(X (F.set (m+i) v)).drop (H+(i+1))=(X F).drop (H+(i+1)))(aa: ∀F i v,(s (F.set (m+i) v)).drop (t+(i+1))=(s F).drop (t+(i+1)))(ac: ∀F i v,W F->gn v->W (F.set i v))(hS: ∀x y d,gn x->gn y->0<=d->d<=1->gn (S x y d)/\0<=C x y d/\C x y d<=1/\o [x,y,d]=G)(af: ∀d p,w d [] p=([],d))(ae: ∀d x xs y p,w d (x::xs) (y::p)=(S x y d::(w (C x y d) xs p).1,(w (C x y d) xs p).2)),eM B R f [e,a,b] (M z)
     (λr m'=>r= .i .u64 h.2/\m'=M (dC z h.1 m)):=by
  intro k0 u k2 hn hz ad hX hY ab aa ac hS af ae
  have q: ∀(b k i:Nat)(F:List Int)(d:Int),i+k=n->F.length=z.length->0<=d->d<=1->W F->
   Ev B (C2 R) f fn.ntmps b [] T [(0,.s (E (0,m)) n cz),(1,.s (E (xi,H)) n cx),(2,.s (E (yi,t)) n cy),(6,.i .u64 d),(24,.i .i64 (n:Nat)),(25,.i .i64 (i:Nat))] (M F)
    (λr m'=>r= .i .u64 (w d (((X F).drop (H+i)).take k) (((s F).drop (t+i)).take k)).2/\m'=M (dC F (w d (((X F).drop (H+i)).take k) (((s F).drop (t+i)).take k)).1 (m+i))):=by
    intro b k
    induction k with
    |zero=>
     intro i F d hi hN Q P hw;refine Ev.done (eB (CO R)) (d:=L) (k2 i F d) ?_ ?_
     .rw [dX];refine⟨?_,K⟩;have: ¬(i:Int)<(n:Nat):=O;simp[this]
     .simp only[tF,af,dC];simp
    |succ k ih=>
     intro i F d hi hN Q P hw;obtain⟨hx,ah⟩:=hX F hN hw;obtain⟨hy,ag⟩:=hY F hN hw;have h1:=uR ah (i:=H+i) O;have h2:=uR ag (i:=t+i) O;have e1:dH H i 1=H+i:=by rw[eE];omega
     have e2:dH t i 1=t+i:=by rw[eE];omega
     have e3:dH m i 1=m+i:=by rw[eE];omega
     have u:=u i F d;rw[e1,e2,e3,lM i O]at u;obtain⟨s1,s2,s3,s4⟩:=hS _ _ d h1 h2 Q P;refine fa (eB (CO R)) u ?_ K ?_
     .have a1:m+i<F.length:=O;have a2:(i:Int)<(n:Nat):=O;have a3:t+i<(s F).length:=O;have a4:H+i<(X F).length:=O;simp only[dX,s4];simp[a1,a2,a3,a4,eb]
     .have:=ih (i+1) (F.set (m+i) (S ((X F).getD (H+i) 0) ((s F).getD (t+i) 0) d)) (C ((X F).getD (H+i) 0) ((s F).getD (t+i) 0) d) O gp s2 s3 (ac _ _ _ hw s1);refine this.mono λr m' hq=>?_
      rw[iN (X F) (H+i) k O,iN (s F) (t+i) k O];rw[ab,aa]at hq;simp only[ae];rw[<-qw _ _ _ _ O];exact hq
  refine eM.of (C:=C2 R) K (fn:=fn) (c:=c) L hb aj ?_;refine fa (eB (CO R)) k0 (by simp[eb]) K ?_;exact q _ n 0 z 0 O K O O ad
def SP{d:Int}(M:gn x)(S:gn y)(l:0<=d)(u:d<=1):letI a:Int:=18446744073709551616;gn ((x+y+d)%a)/\0<=(x+y+d)/a/\(x+y+d)/a<=1/\kI [x,y,d]=G:=by obtain⟨a,b⟩:=M;obtain⟨e,f⟩:=S;exact⟨GL _,O,O,by simp only[kI,eG];exact⟨a,e,l,u⟩⟩
def abm{d:Int}(M:gn x)(S:gn y)(l:0<=d)(u:d<=1):letI a:Int:=if x<y+d then(1:Int)else 0;gn ((x-y-d)%18446744073709551616)/\0<=a/\(a)<=1/\qB [x,y,d]=G:=by refine⟨GL _,by split<;>omega,by split<;>omega,?_⟩;simp only[qB,eG];exact⟨M.1,S.1,S.2,l,u⟩
def WI(R:Nat->Option Nat)(m j e n h q s:Nat)(F H p:List Int)(P t ty:es)(g:n<4294967296)(d:m+n<=F.length)(L:j+n<=H.length)(Q:e+n<=p.length)(l:dG H)(f:dG p):letI a:List Int×Int:=gP 0 ((H.drop j).take n) ((p.drop e).take n);letI b:dI:=⟨.ws .u64 H,t⟩;letI c:dI:=⟨.ws .u64 p,ty⟩;eM B R 127 [.s (E (0,m)) n h,.s (E (1,j)) n q,.s (E (2,e)) n s] [⟨.ws .u64 F,P⟩,b,c]
      (λr u=>r= .i .u64 a.2/\u=[⟨.ws .u64 (dC F a.1 m),P⟩,b,c]):=
  Fa (M:=λz=>[⟨.ws .u64 (z),P⟩,⟨.ws .u64 H,t⟩,⟨.ws .u64 p,ty⟩]) (X:=λz=>H) (s:=λz=>p) (W:=λz=>True) (S:=λx y c=>(x+y+c)%18446744073709551616) (C:=λx y c=>(x+y+c)/18446744073709551616) (o:=kI) (w:=gP) (fn:=f127) (c:=dB f127) (T:=agm) I I I I (λ_ _ _=>I) (λ_ _ _=>I) g d dD (λ_ _ _=>⟨L,l⟩) (λ_ _ _=>⟨Q,f⟩) (λ_ _ _=>rfl) (λ_ _ _=>rfl) (λ_ _ _ _ _=>trivial) (λ_ _ _=>SP) (λ_ _=>by simp[gP]) (λ_ _ _ _ _=>rfl)
def U4(R:Nat->Option Nat)(m j e n t H w:Nat)(F p:List Int)(P ty:es)(s:n<4294967296)(k:m+n<=F.length)(L:j+n<=F.length)(l:e+n<=p.length)(f:dG p)(g:dG F)(q:m<=j):letI a:List Int×Int:=gP 0 ((F.drop j).take n) ((p.drop e).take n);letI b:dI:=⟨.ws .u64 p,ty⟩;eM B R 127 [.s (E (0,m)) n t,.s (E (0,j)) n H,.s (E (1,e)) n w] [⟨.ws .u64 F,P⟩,b]
      (λr u=>r= .i .u64 a.2/\u=[⟨.ws .u64 (dC F a.1 m),P⟩,b]):=
  Fa (M:=λz=>[⟨.ws .u64 (z),P⟩,⟨.ws .u64 p,ty⟩]) (X:=λz=>z) (s:=λz=>p) (W:=λz=>dG z) (S:=λx y c=>(x+y+c)%18446744073709551616) (C:=λx y c=>(x+y+c)/18446744073709551616) (o:=kI) (w:=gP) (fn:=f127) (c:=dB f127) (T:=agm) I I I I (λ_ _ _=>I) (λ_ _ _=>I) s k g (λz h d=>⟨by rw[h];exact L,d⟩) (λ_ _ _=>⟨l,f⟩) (λz i v=>oL z _ _ v O) (λ_ _ _=>rfl) (λ_ _ _ h Q=>gu h Q) (λ_ _ _=>SP) (λ_ _=>by simp[gP]) (λ_ _ _ _ _=>rfl)
def WS(R:Nat->Option Nat)(m j e n s cx w:Nat)(F H:List Int)(P t:es)(p:n<4294967296)(f:m+n<=F.length)(L:j+n<=H.length)(k:e+n<=F.length)(l:dG H)(g:dG F)(q:m<=e):letI a:List Int×Int:=gP 0 ((H.drop j).take n) ((F.drop e).take n);letI b:dI:=⟨.ws .u64 H,t⟩;eM B R 127 [.s (E (0,m)) n s,.s (E (1,j)) n cx,.s (E (0,e)) n w] [⟨.ws .u64 F,P⟩,b]
      (λr u=>r= .i .u64 a.2/\u=[⟨.ws .u64 (dC F a.1 m),P⟩,b]):=
  Fa (M:=λz=>[⟨.ws .u64 (z),P⟩,⟨.ws .u64 H,t⟩]) (X:=λz=>H) (s:=λz=>z) (W:=λz=>dG z) (S:=λx y c=>(x+y+c)%18446744073709551616) (C:=λx y c=>(x+y+c)/18446744073709551616) (o:=kI) (w:=gP) (fn:=f127) (c:=dB f127) (T:=agm) I I I I (λ_ _ _=>I) (λ_ _ _=>I) p f g (λ_ _ _=>⟨L,l⟩) (λz h d=>⟨by rw[h];exact k,d⟩) (λ_ _ _=>rfl) (λz i v=>oL z _ _ v O) (λ_ _ _ h Q=>gu h Q) (λ_ _ _=>SP) (λ_ _=>by simp[gP]) (λ_ _ _ _ _=>rfl)
def Yg(R:Nat->Option Nat)(m j e n h q s:Nat)(F H p:List Int)(P t ty:es)(g:n<4294967296)(d:m+n<=F.length)(L:j+n<=H.length)(Q:e+n<=p.length)(l:dG H)(f:dG p):letI a:List Int×Int:=jQ 0 ((H.drop j).take n) ((p.drop e).take n);letI b:dI:=⟨.ws .u64 H,t⟩;letI c:dI:=⟨.ws .u64 p,ty⟩;eM B R 129 [.s (E (0,m)) n h,.s (E (1,j)) n q,.s (E (2,e)) n s] [⟨.ws .u64 F,P⟩,b,c]
      (λr u=>r= .i .u64 a.2/\u=[⟨.ws .u64 (dC F a.1 m),P⟩,b,c]):=
  Fa (M:=λz=>[⟨.ws .u64 (z),P⟩,⟨.ws .u64 H,t⟩,⟨.ws .u64 p,ty⟩]) (X:=λz=>H) (s:=λz=>p) (W:=λz=>True) (S:=λx y c=>(x-y-c)%18446744073709551616) (C:=λx y c=>if x<y+c then 1 else 0) (o:=qB) (w:=jQ) (fn:=f129) (c:=dB f129) (T:=acz) I I I I (λ_ _ _=>I) (λ_ _ _=>I) g d dD (λ_ _ _=>⟨L,l⟩) (λ_ _ _=>⟨Q,f⟩) (λ_ _ _=>rfl) (λ_ _ _=>rfl) (λ_ _ _ _ _=>trivial) (λ_ _ _=>abm) (λ_ _=>by simp[jQ]) (λ_ _ _ _ _=>rfl)
def W6(R:Nat->Option Nat)(m j e n t H w:Nat)(F p:List Int)(P ty:es)(s:n<4294967296)(k:m+n<=F.length)(L:j+n<=F.length)(l:e+n<=p.length)(f:dG p)(g:dG F)(q:m<=j):letI a:List Int×Int:=jQ 0 ((F.drop j).take n) ((p.drop e).take n);letI b:dI:=⟨.ws .u64 p,ty⟩;eM B R 129 [.s (E (0,m)) n t,.s (E (0,j)) n H,.s (E (1,e)) n w] [⟨.ws .u64 F,P⟩,b]
      (λr u=>r= .i .u64 a.2/\u=[⟨.ws .u64 (dC F a.1 m),P⟩,b]):=
  Fa (M:=λz=>[⟨.ws .u64 (z),P⟩,⟨.ws .u64 p,ty⟩]) (X:=λz=>z) (s:=λz=>p) (W:=λz=>dG z) (S:=λx y c=>(x-y-c)%18446744073709551616) (C:=λx y c=>if x<y+c then 1 else 0) (o:=qB) (w:=jQ) (fn:=f129) (c:=dB f129) (T:=acz) I I I I (λ_ _ _=>I) (λ_ _ _=>I) s k g (λz h d=>⟨by rw[h];exact L,d⟩) (λ_ _ _=>⟨l,f⟩) (λz i v=>oL z _ _ v O) (λ_ _ _=>rfl) (λ_ _ _ h Q=>gu h Q) (λ_ _ _=>abm) (λ_ _=>by simp[jQ]) (λ_ _ _ _ _=>rfl)
def YF(R:Nat->Option Nat)(m j e n s cx w:Nat)(F H:List Int)(P t:es)(p:n<4294967296)(f:m+n<=F.length)(L:j+n<=H.length)(k:e+n<=F.length)(l:dG H)(g:dG F)(q:m<=e):letI a:List Int×Int:=jQ 0 ((H.drop j).take n) ((F.drop e).take n);letI b:dI:=⟨.ws .u64 H,t⟩;eM B R 129 [.s (E (0,m)) n s,.s (E (1,j)) n cx,.s (E (0,e)) n w] [⟨.ws .u64 F,P⟩,b]
      (λr u=>r= .i .u64 a.2/\u=[⟨.ws .u64 (dC F a.1 m),P⟩,b]):=
  Fa (M:=λz=>[⟨.ws .u64 (z),P⟩,⟨.ws .u64 H,t⟩]) (X:=λz=>H) (s:=λz=>z) (W:=λz=>dG z) (S:=λx y c=>(x-y-c)%18446744073709551616) (C:=λx y c=>if x<y+c then 1 else 0) (o:=qB) (w:=jQ) (fn:=f129) (c:=dB f129) (T:=acz) I I I I (λ_ _ _=>I) (λ_ _ _=>I) p f g (λ_ _ _=>⟨L,l⟩) (λz h d=>⟨by rw[h];exact k,d⟩) (λ_ _ _=>rfl) (λz i v=>oL z _ _ v O) (λ_ _ _ h Q=>gu h Q) (λ_ _ _=>abm) (λ_ _=>by simp[jQ]) (λ_ _ _ _ _=>rfl)
def fu{α:Type}{l:List α}{x:α}(h:l[i]?=E x):l.set i x=l:=by
  apply AP;intro j;by_cases d:i=j
  .subst d;rw[qj (fQ.1 h).1,h]
  .rw [lI d]
def EZ(w:List Int->List Int->List Int×Int):jB:=λargs m=>
  match args with
  |[.s (E z) n _,.s (E x) l _,.s (E y) i _]=>match m[z.1]?,m[x.1]?,m[y.1]? with
   |some ⟨.ws .u64 F,P⟩,E ⟨.ws .u64 H,_⟩,E ⟨.ws .u64 p,_⟩=>
    E (.i .u64 (w ((H.drop x.2).take n) ((p.drop y.2).take n)).2,m.set z.1 ⟨.ws .u64 (dC F (w ((H.drop x.2).take n) ((p.drop y.2).take n)).1 z.2),P⟩,
      ed (D (l=n/\i=n/\n<4294967296/\z.2+n<=F.length/\x.2+n<=H.length/\y.2+n<=p.length/\dG H/\dG p))
       (bif Nat.beq x.1 y.1 then A else bif Nat.beq z.1 x.1 then ed (D (z.2<=x.2)) (ek m.length m)else bif Nat.beq z.1 y.1 then ed (D (z.2<=y.2)) (ek m.length m)else ek m.length m))
   |_,_,_=>N
  |_=>N
def gW{a b:Nat}(h:Nat.beq a b=A):a≠b:=λe=>by subst e;simp at h
def H0{f:Nat}{g:List Int->List Int->List Int×Int}:letI a:U:= .u64;letI b:Nat:=4294967296;∀(hD: ∀(R:Nat->Option Nat)(u j o n C q s:Nat)(F H p:List Int)(P t ty:es),n<b->u+n<=F.length->j+n<=H.length->o+n<=p.length->dG H->dG p->
      eM B R f [.s (E (0,u)) n C,.s (E (1,j)) n q,.s (E (2,o)) n s] [⟨.ws a F,P⟩,⟨.ws a H,t⟩,⟨.ws a p,ty⟩]
       (λr m'=>r= .i a (g ((H.drop j).take n) ((p.drop o).take n)).2/\m'=[⟨.ws a (dC F (g ((H.drop j).take n) ((p.drop o).take n)).1 u),P⟩,⟨.ws a H,t⟩,⟨.ws a p,ty⟩]))(hX: ∀(R:Nat->Option Nat)(u j o n C q s:Nat)(F p:List Int)(P ty:es),n<b->u+n<=F.length->j+n<=F.length->o+n<=p.length->dG p->dG F->u<=j->
      eM B R f [.s (E (0,u)) n C,.s (E (0,j)) n q,.s (E (1,o)) n s] [⟨.ws a F,P⟩,⟨.ws a p,ty⟩]
       (λr m'=>r= .i a (g ((F.drop j).take n) ((p.drop o).take n)).2/\m'=[⟨.ws a (dC F (g ((F.drop j).take n) ((p.drop o).take n)).1 u),P⟩,⟨.ws a p,ty⟩]))(hY: ∀(R:Nat->Option Nat)(u j o n C q s:Nat)(F H:List Int)(P t:es),n<b->u+n<=F.length->j+n<=H.length->o+n<=F.length->dG H->dG F->u<=o->
      eM B R f [.s (E (0,u)) n C,.s (E (1,j)) n q,.s (E (0,o)) n s] [⟨.ws a F,P⟩,⟨.ws a H,t⟩]
       (λr m'=>r= .i a (g ((H.drop j).take n) ((F.drop o).take n)).2/\m'=[⟨.ws a (dC F (g ((H.drop j).take n) ((F.drop o).take n)).1 u),P⟩,⟨.ws a H,t⟩]))(R:Nat->Option Nat),qI B R f (EZ g):=by
  intro hD hX hY R;intro ρ m w args r m' T hr hg;unfold EZ at T;split at T
  .rename_i z n C x n1 q y i s;split at T
   .rename_i F P H t p ty hz hx hy;simp only[eJ,ef]at T;obtain⟨rfl,rfl,ho⟩:=T;obtain⟨ad,c⟩:=dN ho;simp only[eG]at ad;obtain⟨rfl,rfl,hn,lz,lx,ly,wx,wy⟩:=ad;cases M:Nat.beq x.1 y.1 with
    |true=>rw[M]at c;cases c
    |false=>
     rw[M]at c;simp only[gr]at c;have ac:=gW M;cases Q:Nat.beq z.1 x.1 with
     |true=>
      rw[Q]at c;obtain⟨h1,h2⟩:=dN c;have h1:=fU h1;have aa:=iB Q;have e:E (⟨.ws .u64 F,P⟩:dI)=E ⟨.ws .u64 H,t⟩:=by rw[<-hz,<-hx,aa]
      cases e;have S:z.1≠y.1:=by rw[aa];exact ac
      have:=(hX (λ_=>N) z.2 x.2 y.2 i C q s F p P ty hn lz lx ly wy wx h1).lift (gl:=R) [z.1,y.1] ⟨hz,K,hy,K,dD⟩ (by simp[S]) (λ_ _ h=>by cases h) h2
      have v:ml (sg [z.1,y.1] m.length) [.s (E (0,z.2)) i C,.s (E (0,x.2)) i q,.s (E (1,y.2)) i s]=[.s (E z) i C,.s (E x) i q,.s (E y) i s]:=by show [V.s (E (z.1,z.2)) i C,.s (E (z.1,x.2)) i q,.s (E (y.1,y.2)) i s]=_;rw[show((z.1,x.2):Nat×Nat)=x from yw aa K]
      rw[v]at this;refine(this ρ w hr hg).mono ?_;rintro en w'⟨l,r1,m1,L,rfl,r0,ab,⟨rfl,rfl⟩,_,rfl,rfl⟩;refine⟨l,?_,K⟩
      have hm:fW m [z.1,y.1] [⟨.ws .u64 (dC F (g ((F.drop x.2).take i) ((p.drop y.2).take i)).1 z.2),P⟩,⟨.ws .u64 p,ty⟩]=m.set z.1 ⟨.ws .u64 (dC F (g ((F.drop x.2).take i) ((p.drop y.2).take i)).1 z.2),P⟩:=by simp only[fW,iC,ft,kw,eI,fb,jx];exact fu (by rw[lI S];exact hy)
      rw[hm]at L;exact L.whole
     |false=>
      rw[Q]at c;simp only[gr]at c;have d:=gW Q;cases k:Nat.beq z.1 y.1 with
      |true=>
       rw[k]at c;obtain⟨h1,h2⟩:=dN c;have h1:=fU h1;have ae:=iB k;have e:E (⟨.ws .u64 F,P⟩:dI)=E ⟨.ws .u64 p,ty⟩:=by rw[<-hz,<-hy,ae]
       cases e;have:=(hY (λ_=>N) z.2 x.2 y.2 i C q s F H P t hn lz lx ly wx wy h1).lift (gl:=R) [z.1,x.1] ⟨hz,K,hx,K,dD⟩ (by simp[d]) (λ_ _ h=>by cases h) h2
       have v:ml (sg [z.1,x.1] m.length) [.s (E (0,z.2)) i C,.s (E (1,x.2)) i q,.s (E (0,y.2)) i s]=[.s (E z) i C,.s (E x) i q,.s (E y) i s]:=by show [V.s (E (z.1,z.2)) i C,.s (E (x.1,x.2)) i q,.s (E (z.1,y.2)) i s]=_;rw[show((z.1,y.2):Nat×Nat)=y from yw ae K]
       rw[v]at this;refine(this ρ w hr hg).mono ?_;rintro en w'⟨l,r1,m1,L,rfl,r0,ab,⟨rfl,rfl⟩,_,rfl,rfl⟩;refine⟨l,?_,K⟩
       have hm:fW m [z.1,x.1] [⟨.ws .u64 (dC F (g ((H.drop x.2).take i) ((F.drop y.2).take i)).1 z.2),P⟩,⟨.ws .u64 H,t⟩]=m.set z.1 ⟨.ws .u64 (dC F (g ((H.drop x.2).take i) ((F.drop y.2).take i)).1 z.2),P⟩:=by simp only[fW,iC,ft,kw,eI,fb,jx];exact fu (by rw[lI d];exact hx)
       rw[hm]at L;exact L.whole
      |false=>
       rw[k]at c;simp only[gr]at c;have S:=gW k;have:=(hD (λ_=>N) z.2 x.2 y.2 i C q s F H p P t ty hn lz lx ly wx wy).lift (gl:=R) [z.1,x.1,y.1] ⟨hz,K,hx,K,hy,K,dD⟩ (by simp[d,S,ac]) (λ_ _ h=>by cases h) c
       have v:ml (sg [z.1,x.1,y.1] m.length) [.s (E (0,z.2)) i C,.s (E (1,x.2)) i q,.s (E (2,y.2)) i s]=[.s (E z) i C,.s (E x) i q,.s (E y) i s]:=by rfl
       rw[v]at this;refine(this ρ w hr hg).mono ?_;rintro en w'⟨l,r1,m1,L,rfl,r0,ab,⟨rfl,rfl⟩,_,rfl,rfl⟩;refine⟨l,?_,K⟩
       have hm:fW m [z.1,x.1,y.1] [⟨.ws .u64 (dC F (g ((H.drop x.2).take i) ((p.drop y.2).take i)).1 z.2),P⟩,⟨.ws .u64 H,t⟩,⟨.ws .u64 p,ty⟩]=m.set z.1 ⟨.ws .u64 (dC F (g ((H.drop x.2).take i) ((p.drop y.2).take i)).1 z.2),P⟩:=by
         simp only[fW,iC,ft,kw,eI,fb,jx]
         have e1:(m.set z.1 (dI.iU (sg [z.1,x.1,y.1] m.length) ⟨.ws .u64 (dC F (g ((H.drop x.2).take i) ((p.drop y.2).take i)).1 z.2),P⟩)).set x.1 (dI.iU (sg [z.1,x.1,y.1] m.length) ⟨.ws .u64 H,t⟩)=m.set z.1 ⟨.ws .u64 (dC F (g ((H.drop x.2).take i) ((p.drop y.2).take i)).1 z.2),P⟩:=
           fu (by rw[lI d];exact hx)
         rw[e1];exact fu (by rw[lI S];exact hy)
       rw[hm]at L;exact L.whole
   .cases T
  .cases T
abbrev Z6:jB:=EZ (gP 0)
abbrev aim:jB:=EZ (jQ 0)
def Wu(R:Nat->Option Nat):qI B R 127 Z6:=H0 WI U4 WS R
def VE(R:Nat->Option Nat):qI B R 129 aim:=H0 Yg W6 YF R
def nS{m:dE}{x:dI}(h:m[i]?=E x):Nat.blt i m.length=G:=by rw[nD];exact(fQ.1 h).1
def Ap{w:List Int->List Int->List Int×Int}{args:List V}{m u:dE}{r:V}{b:Bool}(h:EZ w args m=E (r,u,b)):
    ∃z n C x l q y i s,args=[.s (E z) n C,.s (E x) l q,.s (E y) i s]/\Nat.blt z.1 m.length=G/\Nat.blt x.1 m.length=G/\Nat.blt y.1 m.length=G:=by
  unfold EZ at h;split at h
  .rename_i z n C x l q y i s;split at h
   .rename_i F P H t p j o L Q;exact⟨z,n,C,x,l,q,y,i,s,K,nS o,nS L,nS Q⟩
   .cases h
  .cases h
def XX(R:Nat->Option Nat):qI B R 106 Z6:=by
  refine jR λargs m r u T=>?_
  obtain⟨z,n,C,x,l,q,y,i,s,rfl,o,L,Q⟩:=Ap T;refine dL (C2 R) f106 ?_
  refine Ev.call (Q1:=λv M=>v=r/\M=u) (eB (CO R)) 100 [] [7,8,9] [] (g:=127) (vs:=[.s (E z) n C,.s (E x) l q,.s (E y) i s]) (d:=E 10)
    (T:=[(7,.s (E z) n C),(8,.s (E x) l q),(9,.s (E y) i s)]) (q:=m) I K K K (ga f127) (qI.Zb (Wu R) T)
    (by simp[fZ,V.wf,tQ,o,L,Q]) ?_
  rintro v M⟨rfl,rfl⟩_;exact⟨_,K,Ev.done (fn:=f106) (eB (CO R)) (j:=100) (z:=[]) (s:=[]) (r:=v) (u:=M) I K ⟨K,K⟩⟩
def Vb(R:Nat->Option Nat):qI B R 108 aim:=by
  refine jR λargs m r u T=>?_
  obtain⟨z,n,C,x,l,q,y,i,s,rfl,o,L,Q⟩:=Ap T;refine dL (C2 R) f108 ?_
  refine Ev.call (Q1:=λv M=>v=r/\M=u) (eB (CO R)) 100 [] [7,8,9] [] (g:=129) (vs:=[.s (E z) n C,.s (E x) l q,.s (E y) i s]) (d:=E 10)
    (T:=[(7,.s (E z) n C),(8,.s (E x) l q),(9,.s (E y) i s)]) (q:=m) I K K K (ga f129) (qI.Zb (VE R) T)
    (by simp[fZ,V.wf,tQ,o,L,Q]) ?_
  rintro v M⟨rfl,rfl⟩_;exact⟨_,K,Ev.done (fn:=f108) (eB (CO R)) (j:=100) (z:=[]) (s:=[]) (r:=v) (u:=M) I K ⟨K,K⟩⟩
def amq:List Int->V
  |[x,y,c]=> .t [.i .u64 ((x*y+c)/18446744073709551616),.i .u64 ((x*y+c)%18446744073709551616)]
  |_=> .t []
def Jo:List Int->Bool
  |[x,y,c]=>D (gn x/\gn y/\gn c)
  |_=>A
abbrev awq:QF:=yG [.u64,.u64,.u64] amq Jo
def GF(x y:Int)(L:gn x)(Q:gn y):0<=x*y/\x*y<=18446744073709551615*18446744073709551615:=
  ⟨jL L.1 Q.1,SO (by have:=L.2;omega) (by have:=Q.2;omega) Q.1 O⟩
def Vf(R:Nat->Option Nat):oR B R 210 awq:=by
  refine mJ (L:=[]) dD (Jd R) (fn:=f210) (c:=dB f210) I I 100 ?_;intro l m f h
  match l,f with
  |[x,y,c],_=>
   have F:gn x/\gn y/\gn c:=by simpa[Jo]using h
   have g:=GF x y F.1 F.2.1;refine⟨[],[kI [x*y%18446744073709551616,c,0],m6 [x,y]],?_,?_⟩
   .have e:qW (ep R [] L2) f210.ntmps N 100 (dB f210) f210.results.toList (FR [.u64,.u64,.u64] [x,y,c]) m []=
     E (.t [.i .u64 (U.u64.wrap (x*y/18446744073709551616+(x*y%18446744073709551616+c+0)/18446744073709551616)),.i .u64 ((x*y%18446744073709551616+c+0)%18446744073709551616)],m,
       [kI [x*y%18446744073709551616,c,0],m6 [x,y]]):=I
    rw[e];have s:=F.2.2;simp only[amq,kq];generalize x*y=p at*
    have T:(p/18446744073709551616+(p%18446744073709551616+c+0)/18446744073709551616)%18446744073709551616=(p+c)/18446744073709551616:=by have:=s.1;have:=s.2;omega
    have a:(p%18446744073709551616+c+0)%18446744073709551616=(p+c)%18446744073709551616:=O;rw[T,a]
   .have M:kI [x*y%18446744073709551616,c,0]=G:=by simp only[kI,eG];have:=F.2.2.1;omega
    have S:m6 [x,y]=G:=by simp only[m6,eG];exact⟨F.1,F.2.1⟩
    rw[M,S];rfl
abbrev L3:List (Nat×QF):=(210,awq)::(163,JY)::L2
def ZK(R:Nat->Option Nat):gf R L3:=
  ⟨⟨ga f210,Vf R⟩,⟨ga f163,Vy R⟩,Jd R⟩
def jX(y:Int):Int->List Int->List Int×Int
  |c,x::H=>((x*y+c)%18446744073709551616::(jX y ((x*y+c)/18446744073709551616) H).1,(jX y ((x*y+c)/18446744073709551616) H).2)
  |c,[]=>([],c)
abbrev C3(R:Nat->Option Nat):fw:=ep R [] L3
def j9(R:Nat->Option Nat):ji B (C3 R):=gy dD (ZK R)
noncomputable abbrev adr:List Item:=gQ (dB f199) 0 []
def ON{c:Int}(L:gn x)(Q:gn y)(s:gn c):gn ((x*y+c)/18446744073709551616):=by have:=GF x y L Q;have M:=s.1;have S:=s.2;generalize x*y=p at*;exact⟨O,O⟩
def B4(R:Nat->Option Nat)(m j n C q:Nat)(H:List Int)(y:Int)(P t:es)(x:n<4294967296)(L:j+n<=H.length)(b:dG H)(Q:gn y):letI a:dI:=⟨.ws .u64 H,t⟩;∀
      (k i:Nat)(F:List Int)(c:Int),i+k=n->m+n<=F.length->gn c->
      Ev B (C3 R) 199 36 2 [] adr [(0,.s (E (0,m)) n C),(1,.s (E (1,j)) n q),(2,.i .u64 y),(8,.i .u64 c),(18,.i .i64 (n:Nat)),(19,.i .i64 (i:Nat))]
       [⟨.ws .u64 F,P⟩,a]
       (λr u=>r= .i .u64 (jX y c ((H.drop (j+i)).take k)).2/\u=[⟨.ws .u64 (dC F (jX y c ((H.drop (j+i)).take k)).1 (m+i)),P⟩,a]):=by
  intro k
  induction k with
  |zero=>
   intro i F c g o s;refine Ev.done (fn:=f199) (eB (j9 R)) (j:=100) (z:=[A]) (s:=[D ((i:Int)<(n:Nat))==A]) (r:= .i .u64 c) (u:=[⟨.ws .u64 F,P⟩,⟨.ws .u64 H,t⟩]) I ?_ ?_
   .rw [dX];refine⟨?_,K⟩;have: ¬(i:Int)<(n:Nat):=O;simp[this]
   .simp only[tF,jX,dC];simp
  |succ k v=>
   intro i F c g o s;have M:=uR b (i:=j+i) O;have T:dH j i 1=j+i:=by rw[eE];omega
   have d:dH m i 1=m+i:=by rw[eE];omega
   refine fa (eB (j9 R)) (j:=100) (z:=[G]) (l:=[0,1,2,8,18,19]) (s:=[D (1=1/\dH m i 1<F.length),D ((0:Int)<=(i:Nat)/\(i:Int)<(n:Nat)),Jo [H.getD (dH j i 1) 0,y,c],
       D (dH j i 1<H.length),D ((0:Int)<=(i:Nat)/\(i:Int)<(n:Nat)),D ((i:Int)<(n:Nat))==G]) (a:=adr) (y:=[(0,.s (E (0,m)) n C),(1,.s (E (1,j)) n q),(2,.i .u64 y),(8,.i .u64 ((H.getD (dH j i 1) 0*y+c)/18446744073709551616)),(18,.i .i64 (n:Nat)),(19,.i .i64 (U.i64.wrap ((i:Int)+1)))]) (u:=[⟨.ws .u64 (F.set (dH m i 1) ((H.getD (dH j i 1) 0*y+c)%18446744073709551616)),P⟩,⟨.ws .u64 H,t⟩]) I ?_ K ?_
   .rw [T,d];have h:m+i<F.length:=O;have f:(i:Int)<(n:Nat):=O;have e:j+i<H.length:=O
    have p:Jo [H.getD (j+i) 0,y,c]=G:=by simp only[Jo,eG];exact⟨M,Q,s⟩
    simp only[dX,p];simp[h,f,e,eb]
   .rw [T,d,lM i O];have:=v (i+1) (F.set (m+i) ((H.getD (j+i) 0*y+c)%18446744073709551616)) ((H.getD (j+i) 0*y+c)/18446744073709551616) O gp (ON M Q s);refine this.mono λr u z=>?_
    rw[iN H (j+i) k O];simp only[jX];rw[<-qw _ _ _ _ O];exact z
def aev(R:Nat->Option Nat)(m j n C q:Nat)(F H:List Int)(y r:Int)(P t:es)(x:n<4294967296)(o:m+n<=F.length)(L:j+n<=H.length)(c:dG H)(Q:gn y)(d:gn r):letI a:=jX y r ((H.drop j).take n);letI b:dI:=⟨.ws .u64 H,t⟩;eM B R 199 [.s (E (0,m)) n C,.s (E (1,j)) n q,.i .u64 y,.i .u64 r] [⟨.ws .u64 F,P⟩,b]
      (λv u=>v= .i .u64 a.2/\u=[⟨.ws .u64 (dC F a.1 m),P⟩,b]):=by
  refine dL (C3 R) f199 ?_;refine fa (eB (j9 R)) (j:=100) (z:=[A]) (l:=[0,1,2,8,18,19]) (s:=[G,((n:Int)!=(n:Int))==A,G,G]) (a:=adr) (y:=[(0,.s (E (0,m)) n C),(1,.s (E (1,j)) n q),(2,.i .u64 y),(8,.i .u64 r),(18,.i .i64 (n:Nat)),(19,.i .i64 ((0:Nat):Int))]) (u:=[⟨.ws .u64 F,P⟩,⟨.ws .u64 H,t⟩]) I (by simp[eb]) K ?_;exact B4 R m j n C q H y P t x L c Q n 0 F r O o d
def fN(w:Int):Int->List Int->List Int->List Int×Int
  |c,x::H,y::p=>((y*w+x+c)%18446744073709551616::(fN w ((y*w+x+c)/18446744073709551616) H p).1,(fN w ((y*w+x+c)/18446744073709551616) H p).2)
  |c,_,_=>([],c)
noncomputable abbrev ahj:List Item:=gQ (dB f202) 0 []
def aif{w c:Int}(L:gn x)(Q:gn y)(d:gn w)(s:gn c):letI a:Int:=18446744073709551616;letI b:=y*w+x;U.u64.wrap (((b)%a+c+0)/a+(b)/a)=(b+c)/a/\
    ((b)%a+c+0)%a=(b+c)%a/\gn ((b+c)/a):=by
  have:=GF y w Q d;have M:=s.1;have S:=s.2;have l:=L.1;have u:=L.2;rw[kq];generalize y*w=p at*;exact⟨O,O,O,O⟩
def IB(R:Nat->Option Nat)(m e n C q x o:Nat)(p:List Int)(w:Int)(P ty:es)(hn:n<4294967296)(hy:e+n<=p.length)(h:dG p)(d:gn w):letI a:dI:=⟨.ws .u64 p,ty⟩;∀
      (k i:Nat)(F:List Int)(c:Int),i+k=n->F.length=o->m+n<=o->gn c->dG F->
      Ev B (C3 R) 202 63 2 [] ahj [(0,.s (E (0,m)) n C),(1,.s (E (0,m)) n q),(2,.s (E (1,e)) n x),(3,.i .u64 w),(10,.i .u64 c),(31,.i .i64 (n:Nat)),(32,.i .i64 (i:Nat))]
       [⟨.ws .u64 F,P⟩,a]
       (λr u=>r= .i .u64 (fN w c ((F.drop (m+i)).take k) ((p.drop (e+i)).take k)).2/\
         u=[⟨.ws .u64 (dC F (fN w c ((F.drop (m+i)).take k) ((p.drop (e+i)).take k)).1 (m+i)),P⟩,a]):=by
  intro k
  induction k with
  |zero=>
   intro i F c g j t s b;refine Ev.done (fn:=f202) (eB (j9 R)) (j:=100) (z:=[A]) (s:=[D ((i:Int)<(n:Nat))==A]) (r:= .i .u64 c) (u:=[⟨.ws .u64 F,P⟩,⟨.ws .u64 p,ty⟩]) I ?_ ?_
   .rw [dX];refine⟨?_,K⟩;have: ¬(i:Int)<(n:Nat):=O;simp[this]
   .simp only[tF,fN,dC];simp
  |succ k v=>
   intro i F c g j t s b;have M:=uR b (i:=m+i) O;have S:=uR h (i:=e+i) O;have f:dH e i 1=e+i:=by rw[eE];omega
   have Q:dH m i 1=m+i:=by rw[eE];omega
   obtain⟨L,H,y⟩:=aif M S d s
   refine fa (eB (j9 R)) (j:=100) (z:=[G]) (l:=[0,1,2,3,10,31,32]) (s:=[D (1=1/\dH m i 1<F.length),D ((0:Int)<=(i:Nat)/\(i:Int)<(n:Nat)),
       kI [(p.getD (dH e i 1) 0*w+F.getD (dH m i 1) 0)%18446744073709551616,c,0],Jo [p.getD (dH e i 1) 0,w,F.getD (dH m i 1) 0],
       D (dH m i 1<F.length),D ((0:Int)<=(i:Nat)/\(i:Int)<(n:Nat)),D (dH e i 1<p.length),D ((0:Int)<=(i:Nat)/\(i:Int)<(n:Nat)),D ((i:Int)<(n:Nat))==G]) (a:=ahj) (y:=[(0,.s (E (0,m)) n C),(1,.s (E (0,m)) n q),(2,.s (E (1,e)) n x),(3,.i .u64 w),
       (10,.i .u64 (U.u64.wrap (((p.getD (dH e i 1) 0*w+F.getD (dH m i 1) 0)%18446744073709551616+c+0)/18446744073709551616+(p.getD (dH e i 1) 0*w+F.getD (dH m i 1) 0)/18446744073709551616))),
       (31,.i .i64 (n:Nat)),(32,.i .i64 (U.i64.wrap ((i:Int)+1)))]) (u:=[⟨.ws .u64 (F.set (dH m i 1) (((p.getD (dH e i 1) 0*w+F.getD (dH m i 1) 0)%18446744073709551616+c+0)%18446744073709551616)),P⟩,⟨.ws .u64 p,ty⟩]) I ?_ K ?_
   .rw [f,Q];have a1:m+i<F.length:=O;have a2:(i:Int)<(n:Nat):=O;have a3:e+i<p.length:=O
    have a5:Jo [p.getD (e+i) 0,w,F.getD (m+i) 0]=G:=by simp only[Jo,eG];exact⟨S,d,M⟩
    have T:kI [(p.getD (e+i) 0*w+F.getD (m+i) 0)%18446744073709551616,c,0]=G:=by simp only[kI,eG];have:=s.1;omega
    simp only[dX,a5,T];simp[a1,a2,a3,eb]
   .rw [f,Q,lM i O,L,H];have:=v (i+1) (F.set (m+i) ((p.getD (e+i) 0*w+F.getD (m+i) 0+c)%18446744073709551616)) _ O gp t y (gu b (GL _));refine this.mono λr u z=>?_
    rw[iN F (m+i) k O,iN p (e+i) k O];simp only[fN];rw[<-qw _ _ _ _ O];rw[oL _ _ _ _ O]at z;exact z
def adb(R:Nat->Option Nat)(m e n C q s:Nat)(F p:List Int)(w a:Int)(P ty:es)(x:n<4294967296)(o:m+n<=F.length)(Q:e+n<=p.length)(g:dG F)(f:dG p)(d:gn w)(t:gn a):letI b:=fN w a ((F.drop m).take n) ((p.drop e).take n);letI c:dI:=⟨.ws .u64 p,ty⟩;eM B R 202 [.s (E (0,m)) n C,.s (E (0,m)) n q,.s (E (1,e)) n s,.i .u64 w,.i .u64 a] [⟨.ws .u64 F,P⟩,c]
      (λv u=>v= .i .u64 b.2/\u=[⟨.ws .u64 (dC F b.1 m),P⟩,c]):=by
  refine dL (C3 R) f202 ?_;refine fa (eB (j9 R)) (j:=100) (z:=[A,A]) (l:=[0,1,2,3,10,31,32]) (s:=[G,((n:Int)!=(n:Int))==A,G,G,((n:Int)!=(n:Int))==A,G,G]) (a:=ahj) (y:=[(0,.s (E (0,m)) n C),(1,.s (E (0,m)) n q),(2,.s (E (1,e)) n s),(3,.i .u64 w),(10,.i .u64 a),(31,.i .i64 (n:Nat)),(32,.i .i64 ((0:Nat):Int))]) (u:=[⟨.ws .u64 F,P⟩,⟨.ws .u64 p,ty⟩]) I (by simp[eb]) K ?_;exact IB R m e n C q s F.length p w P ty x Q f d n 0 F a O K o t g
def pw(n:Nat):Int:=18446744073709551616^n
def gV(n:Nat):pw (n+1)=18446744073709551616*pw n:=by rw[pw,Gi,eD];rfl
def sr(s w i c P:Int):letI a:Int:=18446744073709551616;∀(h:w+c*P=i+s/a),s%a+a*w+c*(a*P)=s+a*i:=by
  intro h;have M:=JS s 18446744073709551616;have S:c*(18446744073709551616*P)=18446744073709551616*(c*P):=by rw[<-fO,eD c,fO]
  rw[S];generalize c*P=q at*;omega
def Jt: ∀(H p:List Int)(c:Int),H.length=p.length->val (gP c H p).1+(gP c H p).2*pw H.length=val H+val p+c/\(gP c H p).1.length=H.length
  |[],[],c,_=>by simp[gP,val,pw]
  |[],_::_,_,h=>by simp at h
  |_::_,[],_,h=>by simp at h
  |x::H,y::p,c,h=>by obtain⟨M,S⟩:=Jt H p ((x+y+c)/18446744073709551616) (by simpa using h);simp only[gP,val,eI,S,im];rw[gV,sr (x+y+c) _ (val H+val p) _ _ M];omega
def uc(y:Int): ∀(H:List Int)(c:Int),val (jX y c H).1+(jX y c H).2*pw H.length=val H*y+c/\(jX y c H).1.length=H.length
  |[],c=>by simp[jX,val,pw]
  |x::H,c=>by obtain⟨M,S⟩:=uc y H ((x*y+c)/18446744073709551616);simp only[jX,val,eI,S,im];rw[gV,sr (x*y+c) _ (val H*y) _ _ M,jN,fO];omega
def rm(w:Int): ∀(H p:List Int)(c:Int),H.length=p.length->val (fN w c H p).1+(fN w c H p).2*pw H.length=val H+val p*w+c/\(fN w c H p).1.length=H.length
  |[],[],c,_=>by simp[fN,val,pw]
  |[],_::_,_,h=>by simp at h
  |_::_,[],_,h=>by simp at h
  |x::H,y::p,c,h=>by obtain⟨M,S⟩:=rm w H p ((y*w+x+c)/18446744073709551616) (by simpa using h);simp only[fN,val,eI,S,im];rw[gV,sr (y*w+x+c) _ (val H+val p*w) _ _ M,jN,fO,fh];omega
def pR: ∀(H p:List Int)(c:Int),H.length=p.length->dG H->dG p->0<=c->c<=1->val (jQ c H p).1-(jQ c H p).2*pw H.length=val H-val p-c/\(jQ c H p).1.length=H.length/\0<=(jQ c H p).2/\(jQ c H p).2<=1
  |[],[],c,_,_,_,C,M=>by simp[jQ,val,pw,C,M]
  |[],_::_,_,h,_,_,_,_=>by simp at h
  |_::_,[],_,h,_,_,_,_=>by simp at h
  |x::H,y::p,c,h,L,Q,C,M=>by
   have S:gn x:=L x jt;have j:gn y:=Q y jt
   have a:(if x<y+c then(1:Int)else 0)= -((x-y-c)/18446744073709551616):=by have F:=S.1;have l:=S.2;have k:=j.1;have g:=j.2;split<;>omega
   have i:(0:Int)<=(if x<y+c then(1:Int)else 0)/\(if x<y+c then(1:Int)else 0)<=1:=by split<;>omega
   obtain⟨T,f,d,b⟩:=pR H p (if x<y+c then 1 else 0) (by simpa using h) (λz o=>L z (jh _ o)) (λz o=>Q z (jh _ o)) i.1 i.2;simp only[jQ,val,eI,f,fV];refine⟨?_,d,b⟩
   have t:val (jQ (if x<y+c then 1 else 0) H p).1+ -(jQ (if x<y+c then 1 else 0) H p).2*pw H.length=(val H-val p)+(x-y-c)/18446744073709551616:=by rw[Gj];rw[a]at T⊢;omega
   have e:=sr (x-y-c) _ (val H-val p) _ _ t;rw[Gj]at e;rw[gV];omega
def gb: ∀(H p:List Int),val (H++p)=val H+pw H.length*val p
  |[],p=>by simp[val,pw]
  |x::H,p=>by simp only[ym,val,gb H p,eI,gV,fh,fO];omega
def ez: ∀(H:List Int),dG H->0<=val H/\val H<pw H.length
  |[],_=>by simp[val,pw]
  |x::H,h=>by have L:=h x jt;obtain⟨M,S⟩:=ez H (λz o=>h z (jh _ o));simp only[val,eI,gV];have F:=L.1;have y:=L.2;omega
instance(x:Int):Decidable (gn x):=inferInstanceAs(Decidable (_/\_))
def Sa:jB:=λargs m=>
  match args with
  |[.s (E z) n _,.s (E x) l _,.i .u64 y,.i .u64 r]=>match m[z.1]?,m[x.1]? with
   |some ⟨.ws .u64 F,P⟩,E ⟨.ws .u64 H,_⟩=>
    E (.i .u64 (jX y r ((H.drop x.2).take n)).2,m.set z.1 ⟨.ws .u64 (dC F (jX y r ((H.drop x.2).take n)).1 z.2),P⟩,
      ed (D (l=n/\n<4294967296/\z.2+n<=F.length/\x.2+n<=H.length/\dG H/\gn y/\gn r)) (bif Nat.beq z.1 x.1 then A else ek m.length m))
   |_,_=>N
  |_=>N
def Ud:jB:=λargs m=>
  match args with
  |[.s (E z) n _,.s (E x) l _,.s (E y) i _,.i .u64 w,.i .u64 a]=>match m[z.1]?,m[y.1]? with
   |some ⟨.ws .u64 F,P⟩,E ⟨.ws .u64 p,_⟩=>
    E (.i .u64 (fN w a ((F.drop z.2).take n) ((p.drop y.2).take n)).2,m.set z.1 ⟨.ws .u64 (dC F (fN w a ((F.drop z.2).take n) ((p.drop y.2).take n)).1 z.2),P⟩,
      ed (D (l=n/\i=n/\z.1=x.1/\z.2=x.2/\n<4294967296/\z.2+n<=F.length/\y.2+n<=p.length/\dG F/\dG p/\gn w/\gn a)) (bif Nat.beq z.1 y.1 then A else ek m.length m))
   |_,_=>N
  |_=>N
def Xh(R:Nat->Option Nat):qI B R 199 Sa:=by
  intro q m w args v m' T k hg;unfold Sa at T;split at T
  .rename_i z n cz x f cx y r;split at T
   .rename_i F P H t o L;simp only[eJ,ef]at T;obtain⟨rfl,rfl,p⟩:=T;obtain⟨g,c⟩:=dN p;simp only[eG]at g;obtain⟨s,u,i,b,S,j,C⟩:=g;subst s;cases Q:Nat.beq z.1 x.1 with
    |true=>rw[Q]at c;cases c
    |false=>
     rw[Q]at c;simp only[gr]at c;have d:=gW Q;have:=(aev (λ_=>N) z.2 x.2 f cz cx F H y r P t u i b S j C).lift (gl:=R) [z.1,x.1] ⟨o,K,L,K,dD⟩ (by simp[d]) (λ_ _ h=>by cases h) c;refine(this q w k hg).mono ?_;rintro en w'⟨l,r1,m1,a,rfl,r0,e,⟨rfl,rfl⟩,_,rfl,rfl⟩;refine⟨l,?_,K⟩
     have M:fW m [z.1,x.1] [⟨.ws .u64 (dC F (jX y r ((H.drop x.2).take f)).1 z.2),P⟩,⟨.ws .u64 H,t⟩]=m.set z.1 ⟨.ws .u64 (dC F (jX y r ((H.drop x.2).take f)).1 z.2),P⟩:=by simp only[fW,iC,ft,kw,eI,fb,jx];exact fu (by rw[lI d];exact L)
     rw[M]at a;exact a.whole
   .cases T
  .cases T
def Yj(R:Nat->Option Nat):qI B R 202 Ud:=by
  intro q m w args v m' T hr hg;unfold Ud at T;split at T
  .rename_i z n cz x n1 cx y i cy b a;split at T
   .rename_i F P p j hz Q;simp only[eJ,ef]at T;obtain⟨rfl,rfl,ho⟩:=T;obtain⟨g,c⟩:=dN ho;simp only[eG]at g;obtain⟨s,f,H,d,hn,t,M,u,o,r,C⟩:=g;subst s;subst f;have ex:z=x:=yw H d;subst ex;cases k:Nat.beq z.1 y.1 with
    |true=>rw[k]at c;cases c
    |false=>
     rw[k]at c;simp only[gr]at c;have S:=gW k;have:=(adb (λ_=>N) z.2 y.2 i cz cx cy F p b a P j hn t M u o r C).lift (gl:=R) [z.1,y.1] ⟨hz,K,Q,K,dD⟩ (by simp[S]) (λ_ _ h=>by cases h) c;refine(this q w hr hg).mono ?_;rintro en w'⟨l,r1,m1,L,rfl,r0,e,⟨rfl,rfl⟩,_,rfl,rfl⟩;refine⟨l,?_,K⟩
     have hm:fW m [z.1,y.1] [⟨.ws .u64 (dC F (fN b a ((F.drop z.2).take i) ((p.drop y.2).take i)).1 z.2),P⟩,⟨.ws .u64 p,j⟩]=m.set z.1 ⟨.ws .u64 (dC F (fN b a ((F.drop z.2).take i) ((p.drop y.2).take i)).1 z.2),P⟩:=by simp only[fW,iC,ft,kw,eI,fb,jx];exact fu (by rw[lI S];exact Q)
     rw[hm]at L;exact L.whole
   .cases T
  .cases T
def gm(f:Nat->Int):Nat->Nat
  |0=>0
  |i+1=>if f i=0 then gm f i else i+1
noncomputable abbrev agi:List Item:=gQ (dB f104) 0 []
def nq(i:Nat)(h:i<4294967296):U.i64.wrap (((i+1:Nat):Int)-1)=(i:Nat):=by rw[qd];omega
def PC(R:Nat->Option Nat)(m n C:Nat)(F:List Int)(P:es)(x:n<4294967296)(o:m+n<=F.length)(s:n<=C):letI a:dE:=[⟨.ws .u64 F,P⟩];∀(i:Nat),i<=n->Ev B (C3 R) 104 21 1 [] agi [(0,.s (E (0,m)) n C),(3,.i .i64 (i:Nat))] a
        (λr u=>r= .s (E (0,m)) (gm (λj=>F.getD (m+j) 0) i) C/\u=a):=by
  intro i
  induction i with
  |zero=>
   intro g;refine Ev.done (fn:=f104) (eB (j9 R)) (j:=100) (z:=[A]) (s:=[ed (D ((0:Int)<=((0:Nat):Int)/\((0:Nat):Int)<=(C:Nat))) G,G]) (r:= .s (E (0,m)) 0 C) (u:=[⟨.ws .u64 F,P⟩]) I ?_ ?_
   .simp [eb,ed]
   .exact⟨K,K⟩
  |succ i v=>
   intro g;have Q:dH m i 1=m+i:=by rw[eE];omega
   have d:=nq i O;by_cases b:F.getD (m+i) 0=0
   .refine fa (eB (j9 R)) (j:=100) (z:=[G,G]) (l:=[0,3]) (s:=[(
        F.getD (dH m (U.i64.wrap (((i+1:Nat):Int)-1)).toNat 1) 0==0)==G,D (dH m (U.i64.wrap (((i+1:Nat):Int)-1)).toNat 1<F.length),
        D (0<=U.i64.wrap (((i+1:Nat):Int)-1)/\U.i64.wrap (((i+1:Nat):Int)-1)<(n:Nat)),D (((i+1:Nat):Int)>0)==G]) (a:=agi) (y:=[(0,.s (E (0,m)) n C),(3,.i .i64 (U.i64.wrap (((i+1:Nat):Int)-1)))]) (u:=[⟨.ws .u64 F,P⟩]) I ?_ K ?_
    .rw [d,dU,Q];have c:m+i<F.length:=O;have y:(i:Int)<(n:Nat):=O;have H:((i+1:Nat):Int)>0:=O;simp only[dX,b];simp[c,y,H,eb]
    .rw [d];refine(v O).mono λr u z=>?_
     simp only[gm,b,oH];exact z
   .refine Ev.done (fn:=f104) (eB (j9 R)) (j:=100) (z:=[G,A]) (s:=[ed (D ((0:Int)<=((i+1:Nat):Int)/\((i+1:Nat):Int)<=(C:Nat))) (D ((0:Int)<=0/\(0:Int)<=((i+1:Nat):Nat))),(F.getD (dH m (U.i64.wrap (((i+1:Nat):Int)-1)).toNat 1) 0==0)==A,D (dH m (U.i64.wrap (((i+1:Nat):Int)-1)).toNat 1<F.length),
        D (0<=U.i64.wrap (((i+1:Nat):Int)-1)/\U.i64.wrap (((i+1:Nat):Int)-1)<(n:Nat)),D (((i+1:Nat):Int)>0)==G]) (r:= .s (E (0,m)) (i+1) C) (u:=[⟨.ws .u64 F,P⟩]) I ?_ ?_
    .rw [d,dU,Q];have c:m+i<F.length:=O;have y:(i:Int)<(n:Nat):=O;have H:((i+1:Nat):Int)>0:=O;have M:(F.getD (m+i) 0==0)=A:=by simpa using b
     have p:ed (D ((0:Int)<=((i+1:Nat):Int)/\((i+1:Nat):Int)<=(C:Nat))) (D ((0:Int)<=0/\(0:Int)<=((i+1:Nat):Nat)))=G:=by rw[fG (O:(0:Int)<=((i+1:Nat):Int)/\((i+1:Nat):Int)<=(C:Nat)),fG (O:(0:Int)<=0/\(0:Int)<=((i+1:Nat):Nat))];rfl
     simp only[dX,M,p];simp[c,y,H,eb]
    .skip
     simp only[gm,b,kT];exact⟨dD,dD⟩
def ahc(R:Nat->Option Nat)(m n C:Nat)(F:List Int)(P:es)(x:n<4294967296)(o:m+n<=F.length)(s:n<=C):letI a:dE:=[⟨.ws .u64 F,P⟩];eM B R 104 [.s (E (0,m)) n C] a (λr u=>r= .s (E (0,m)) (gm (λj=>F.getD (m+j) 0) n) C/\u=a):=by refine dL (C3 R) f104 ?_;refine fa (eB (j9 R)) (j:=100) (z:=[]) (l:=[0,3]) (s:=[G]) (a:=agi) (y:=[(0,.s (E (0,m)) n C),(3,.i .i64 (n:Nat))]) (u:=[⟨.ws .u64 F,P⟩]) I K K ?_;exact PC R m n C F P x o s n (eT _)
def PR:QF:=λargs m=>
  match args with
  |[.s (E z) n c]=>match m[z.1]? with
   |some ⟨.ws .u64 F,_⟩=>E (.s (E z) (gm (λj=>F.getD (z.2+j) 0) n) c,ed (D (n<4294967296/\z.2+n<=F.length/\n<=c)) (ek m.length m))
   |_=>N
  |_=>N
def NV(R:Nat->Option Nat):oR B R 104 PR:=by
  intro q m w args v T y p;unfold PR at T;split at T
  .rename_i z n c;split at T
   .rename_i F P o;simp only[eJ,ef]at T;obtain⟨rfl,b⟩:=T;obtain⟨g,a⟩:=dN b;simp only[eG]at g;have:=(ahc (λ_=>N) z.2 n c F P g.1 g.2.1 g.2.2).lift (gl:=R) [z.1] ⟨o,K,dD⟩ Y (λ_ _ h=>by cases h) a;refine(this q w y p).mono ?_;rintro i S⟨l,k,f,L,rfl,C,e,⟨rfl,rfl⟩,_,rfl,rfl⟩;refine⟨l,?_,K⟩
    have d:fW m [z.1] [⟨.ws .u64 F,P⟩]=m:=by simp only[fW,iC,ft,kw,eI,fb,jx];exact fu o
    rw[d]at L;exact L.whole
   .cases T
  .cases T
def row(f:Nat->Int)(n:Nat):List Int:=(List.range n).map f
def yg(f:Nat->Int)(n:Nat):row f (n+1)=row f n++[f n]:=by simp[row,List.range_succ]
def fD(f:Nat->Int)(n:Nat):(row f n).length=n:=by simp[row]
def Iw(f:Nat->Int): ∀n,gm f n<=n
  |0=>eT _
  |n+1=>by
   unfold gm;split
   .have:=Iw f n;omega
   .exact eT _
def E3(f:Nat->Int): ∀n,gm f n=0∨f (gm f n-1)≠0
  |0=> .inl K
  |n+1=>by
   unfold gm;split
   .exact E3 f n
   .rename_i h;exact .inr (by simpa using h)
def Eu(f:Nat->Int): ∀n,val (row f (gm f n))=val (row f n)
  |0=>rfl
  |n+1=>by
   unfold gm;split
   .rename_i h;rw[Eu f n,yg,gb,h];simp[val]
   .rfl
def xM(l:List Int)(o n:Nat)(h:o+n<=l.length):(l.drop o).take n=row (λj=>l.getD (o+j) 0) n:=by
  apply AP;intro i;simp only[row,uf,nF,jY];by_cases g:i<n
  .rw [if_pos g];have M:o+i<l.length:=O;simp[g,ie,M]
  .rw [if_neg g];simp[g]
def Sc(a b:Nat)(t:a<2^64)(H:b<2^64):eA .or .u64 (a:Int) (b:Int)=((a|||b:Nat):Int):=by
  have T:(BitVec.ofInt U.u64.bits (a:Int)).toNat=a:=jG 64 a t;have f:(BitVec.ofInt U.u64.bits (b:Int)).toNat=b:=jG 64 b H;simp only[eA,KU,T,f];have:a|||b<2^64:=JT t H
  rw[kq];omega
def H2(s:Nat)(v:0<s)(w:s<64)(a b:Nat)(H:b<2^64):
    eA .or .u64 ((a*2^s%2^64:Nat):Int) ((b/2^(64-s):Nat):Int)=((a*2^s%2^64+b/2^(64-s):Nat):Int):=by
  have j:2^64=2^(64-s)*2^s:=by rw[<-nu];congr 1;omega
  have M:a*2^s%2^64=(a%2^(64-s))*2^s:=by rw[j,Q7]
  have S:b/2^(64-s)<2^s:=by rw[Cy (zk _),kP,<-j];exact H
  have l:2^s<=2^64:=zU O O;rw[Sc _ _ (iD _ (zk _)) O,M,<-Nat.shiftLeft_eq,<-Nat.shiftLeft_add_eq_or_of_lt S]
noncomputable abbrev HZ:List Item:=gQ (dB f161) 0 []
def AR(s t:Int)(H:List Int)(o:Nat):Nat->Int
  |0=>U.u64.wrap (H.getD o 0*2^min s.toNat U.u64.bits)
  |i+1=>eA .or .u64 (U.u64.wrap (H.getD (o+(i+1)) 0*2^min s.toNat U.u64.bits)) ((H.getD (o+i) 0).fdiv (2^min t.toNat U.u64.bits))
def qQ(w:Nat->Int)(o:Nat):Nat->List Int->List Int
  |0,F=>F.set o (w 0)
  |i+1,F=>qQ w o i (F.set (o+(i+1)) (w (i+1)))
def Q4(R:Nat->Option Nat)(m j n C q:Nat)(H:List Int)(s t c:Int)(P b:es)(S:n<4294967296)(L:j+n<=H.length)(v:0<=s)(w:0<=t):letI a:dI:=⟨.ws .u64 H,b⟩;∀
      (i:Nat)(F:List Int),i<n->m+n<=F.length->
      Ev B (C3 R) 161 68 2 [] HZ [(0,.s (E (0,m)) n C),(1,.s (E (1,j)) n q),(2,.i .u64 s),(6,.i .u64 c),(7,.i .u64 t),(8,.i .i64 (i:Nat))] [⟨.ws .u64 F,P⟩,a]
       (λr u=>r= .i .u64 c/\u=[⟨.ws .u64 (qQ (AR s t H j) m i F),P⟩,a]):=by
  intro i
  induction i with
  |zero=>
   intro F g o;refine Ev.done (fn:=f161) (eB (j9 R)) (j:=100) (z:=[A]) (s:=[D (1=1/\dH m 0 1<F.length),D ((0:Int)<=0/\(0:Int)<(n:Nat)),D (0<=s),D (dH j 0 1<H.length),D ((0:Int)<=0/\(0:Int)<(n:Nat)),D (((0:Nat):Int)>0)==A]) (r:= .i .u64 c) (u:=[⟨.ws .u64 (F.set (dH m 0 1) (U.u64.wrap (H.getD (dH j 0 1) 0*2^min s.toNat U.u64.bits))),P⟩,⟨.ws .u64 H,b⟩]) I ?_ ?_
   .have T:dH j 0 1=j:=by rw[eE];omega
    have Q:dH m 0 1=m:=by rw[eE];omega
    rw[T,Q];have e:m<F.length:=O;have y:j<H.length:=O;have M:0<n:=O;simp[eb,e,y,M,v]
   .have T:dH j 0 1=j:=by rw[eE];omega
    have Q:dH m 0 1=m:=by rw[eE];omega
    rw[T,Q];exact⟨K,K⟩
  |succ i k=>
   intro F g o;have d:=nq i O;have T:dH j (i+1) 1=j+(i+1):=by rw[eE];omega
   have f:dH j i 1=j+i:=by rw[eE];omega
   have Q:dH m (i+1) 1=m+(i+1):=by rw[eE];omega
   refine fa (eB (j9 R)) (j:=100) (z:=[G]) (l:=[0,1,2,6,7,8]) (s:=[D (1=1/\dH m (i+1) 1<F.length),D ((0:Int)<=((i+1:Nat):Int)/\((i+1:Nat):Int)<(n:Nat)),D (0<=t),D (dH j (U.i64.wrap (((i+1:Nat):Int)-1)).toNat 1<H.length),
       D (0<=U.i64.wrap (((i+1:Nat):Int)-1)/\U.i64.wrap (((i+1:Nat):Int)-1)<(n:Nat)),D (0<=s),D (dH j (i+1) 1<H.length),D ((0:Int)<=((i+1:Nat):Int)/\((i+1:Nat):Int)<(n:Nat)),
       D (((i+1:Nat):Int)>0)==G]) (a:=HZ) (y:=[(0,.s (E (0,m)) n C),(1,.s (E (1,j)) n q),(2,.i .u64 s),(6,.i .u64 c),(7,.i .u64 t),(8,.i .i64 (U.i64.wrap (((i+1:Nat):Int)-1)))]) (u:=[⟨.ws .u64 (F.set (dH m (i+1) 1) (eA .or .u64 (U.u64.wrap (H.getD (dH j (i+1) 1) 0*2^min s.toNat U.u64.bits)) ((H.getD (dH j (U.i64.wrap (((i+1:Nat):Int)-1)).toNat 1) 0).fdiv (2^min t.toNat U.u64.bits)))),P⟩,⟨.ws .u64 H,b⟩]) I ?_ K ?_
   .rw [d,dU,T,f,Q];have e:m+(i+1)<F.length:=O;have y:j+(i+1)<H.length:=O;have z:j+i<H.length:=O;have M:((i+1:Nat):Int)<(n:Nat):=O;have p:(i:Int)<(n:Nat):=O;have x:((i+1:Nat):Int)>0:=O;have h:(0:Int)<=((i+1:Nat):Int):=O;simp only[dX,eG,nY,fV];exact⟨e,⟨h,M⟩,w,z,⟨O,p⟩,v,y,⟨h,M⟩,x,K⟩
   .rw [d,dU,T,f,Q];exact k _ O gp
def su(s:Int):Int:=eA .and .u64 s 63
def j4(s:Int):Int:=eA .and .u64 (U.u64.wrap (64-eA .and .u64 s 63)) 63
def js(a b:Int):0<=eA .and .u64 a b:=by simp only[eA];rw[kq];omega
def adp(R:Nat->Option Nat)(m j k C q:Nat)(F H:List Int)(s:Int)(P t:es)(x:k+1<4294967296)(o:m+(k+1)<=F.length)(L:j+(k+1)<=H.length)(v:s≠0):letI a:dI:=⟨.ws .u64 H,t⟩;eM B R 161 [.s (E (0,m)) (k+1) C,.s (E (1,j)) (k+1) q,.i .u64 s] [⟨.ws .u64 F,P⟩,a]
      (λr u=>r= .i .u64 ((H.getD (j+k) 0).fdiv (2^min (j4 s).toNat U.u64.bits))/\u=[⟨.ws .u64 (qQ (AR (su s) (j4 s) H j) m k F),P⟩,a]):=by
  have d:=nq k O;have T:dH j k 1=j+k:=by rw[eE];omega
  refine dL (C3 R) f161 ?_
  refine fa (eB (j9 R)) (j:=100) (z:=[A,A,A]) (l:=[0,1,2,6,7,8]) (s:=[G,D (0<=j4 s),D (dH j (U.i64.wrap (((k+1:Nat):Int)-1)).toNat 1<H.length),D (0<=U.i64.wrap (((k+1:Nat):Int)-1)/\U.i64.wrap (((k+1:Nat):Int)-1)<((k+1:Nat):Int)),G,
      (((k+1:Nat):Int)==0)==A,G,(s==0)==A,(((k+1:Nat):Int)!=((k+1:Nat):Int))==A,G,G]) (a:=HZ) (y:=[(0,.s (E (0,m)) (k+1) C),(1,.s (E (1,j)) (k+1) q),(2,.i .u64 (su s)),(6,.i .u64 ((H.getD (dH j (U.i64.wrap (((k+1:Nat):Int)-1)).toNat 1) 0).fdiv (2^min (j4 s).toNat U.u64.bits))),(7,.i .u64 (j4 s)),(8,.i .i64 (U.i64.wrap (((k+1:Nat):Int)-1)))]) (u:=[⟨.ws .u64 F,P⟩,⟨.ws .u64 H,t⟩]) I ?_ K ?_
  .rw [d,dU,T];have c:j+k<H.length:=O;have y:(k:Int)<((k+1:Nat):Int):=O;have b:0<=j4 s:=js _ _
   have M:(((k+1:Nat):Int)==0)=A:=by rw[kZ];omega
   have p:(s==0)=A:=by rw[kZ];exact v
   simp only[dX,eG,M,p,fV];exact⟨b,c,⟨O,y⟩,by simp[eb]⟩
  .rw [d,dU,T];exact Q4 R m j (k+1) C q H (su s) (j4 s) _ P t x L (js _ _) (js _ _) k F O o
noncomputable abbrev HB:List Item:=gQ (dB f162) 0 []
def DK(s t:Int)(H:List Int)(o i:Nat):Int:=
  eA .or .u64 ((H.getD (o+i) 0).fdiv (2^min s.toNat U.u64.bits)) (U.u64.wrap (H.getD (o+(i+1)) 0*2^min t.toNat U.u64.bits))
def BM(s:Int)(H:List Int)(o i:Nat):Int:=(H.getD (o+i) 0).fdiv (2^min s.toNat U.u64.bits)
def pW(w:Nat->Int)(v:Int)(o:Nat):Nat->Nat->List Int->List Int
  |0,i,F=>F.set (o+i) v
  |k+1,i,F=>pW w v o k (i+1) (F.set (o+i) (w i))
def Ql(R:Nat->Option Nat)(m j n C q:Nat)(H:List Int)(s t c:Int)(P e:es)(z:n<4294967295)(L:j+n<=H.length)(v:0<=s)(x:0<=t):letI a:dI:=⟨.ws .u64 H,e⟩;∀
      (k i:Nat)(F:List Int),i+1+k=n->m+n<=F.length->
      Ev B (C3 R) 162 71 2 [] HB [(0,.s (E (0,m)) n C),(1,.s (E (1,j)) n q),(2,.i .u64 s),(6,.i .u64 c),(7,.i .u64 t),(8,.i .i64 ((i+1:Nat):Int))] [⟨.ws .u64 F,P⟩,a]
       (λr u=>r= .i .u64 c/\u=[⟨.ws .u64 (pW (DK s t H j) (BM s H j (n-1)) m k i F),P⟩,a]):=by
  intro k
  induction k with
  |zero=>
   intro i F g o;have d:U.i64.wrap ((n:Int)-1)=(i:Nat):=by rw[qd];omega
   have T:dH j i 1=j+i:=by rw[eE];omega
   have Q:dH m i 1=m+i:=by rw[eE];omega
   refine Ev.done (fn:=f162) (eB (j9 R)) (j:=100) (z:=[A]) (s:=[D (1=1/\dH m (U.i64.wrap ((n:Int)-1)).toNat 1<F.length),D (0<=U.i64.wrap ((n:Int)-1)/\U.i64.wrap ((n:Int)-1)<(n:Nat)),D (0<=s),
       D (dH j (U.i64.wrap ((n:Int)-1)).toNat 1<H.length),D (0<=U.i64.wrap ((n:Int)-1)/\U.i64.wrap ((n:Int)-1)<(n:Nat)),G,G,D (((i+1:Nat):Int)<(n:Nat))==A,G]) (r:= .i .u64 c) (u:=[⟨.ws .u64 (F.set (dH m (U.i64.wrap ((n:Int)-1)).toNat 1) ((H.getD (dH j (U.i64.wrap ((n:Int)-1)).toNat 1) 0).fdiv (2^min s.toNat U.u64.bits))),P⟩,⟨.ws .u64 H,e⟩]) I ?_ ?_
   .rw [d,dU,T,Q];have h:m+i<F.length:=O;have y:j+i<H.length:=O;have b:(i:Int)<(n:Nat):=O;have M: ¬((i+1:Nat):Int)<(n:Nat):=O;simp only[dX,eG,fV,nB M];exact⟨h,⟨O,b⟩,v,y,⟨O,b⟩,by simp[eb]⟩
   .rw [d,dU,T,Q];have:n-1=i:=O;simp only[pW,BM,this];exact⟨dD,dD⟩
  |succ k w=>
   intro i F g o;have d:=nq i O;have T:dH j (i+1) 1=j+(i+1):=by rw[eE];omega
   have f:dH j i 1=j+i:=by rw[eE];omega
   have Q:dH m i 1=m+i:=by rw[eE];omega
   refine fa (eB (j9 R)) (j:=100) (z:=[G]) (l:=[0,1,2,6,7,8]) (s:=[D (1=1/\dH m (U.i64.wrap (((i+1:Nat):Int)-1)).toNat 1<F.length),D (0<=U.i64.wrap (((i+1:Nat):Int)-1)/\U.i64.wrap (((i+1:Nat):Int)-1)<(n:Nat)),D (0<=t),
       D (dH j (i+1) 1<H.length),D ((0:Int)<=((i+1:Nat):Int)/\((i+1:Nat):Int)<(n:Nat)),D (0<=s),D (dH j (U.i64.wrap (((i+1:Nat):Int)-1)).toNat 1<H.length),
       D (0<=U.i64.wrap (((i+1:Nat):Int)-1)/\U.i64.wrap (((i+1:Nat):Int)-1)<(n:Nat)),D (((i+1:Nat):Int)<(n:Nat))==G,G]) (a:=HB) (y:=[(0,.s (E (0,m)) n C),(1,.s (E (1,j)) n q),(2,.i .u64 s),(6,.i .u64 c),(7,.i .u64 t),(8,.i .i64 (U.i64.wrap (((i+1:Nat):Int)+1)))]) (u:=[⟨.ws .u64 (F.set (dH m (U.i64.wrap (((i+1:Nat):Int)-1)).toNat 1) (eA .or .u64 ((H.getD (dH j (U.i64.wrap (((i+1:Nat):Int)-1)).toNat 1) 0).fdiv (2^min s.toNat U.u64.bits)) (U.u64.wrap (H.getD (dH j (i+1) 1) 0*2^min t.toNat U.u64.bits)))),P⟩,⟨.ws .u64 H,e⟩]) I ?_ K ?_
   .rw [d,dU,T,f,Q];have h:m+i<F.length:=O;have y:j+(i+1)<H.length:=O;have b:j+i<H.length:=O;have M:((i+1:Nat):Int)<(n:Nat):=O;have p:(i:Int)<(n:Nat):=O;simp only[dX,eG,nY,fV];exact⟨h,⟨O,p⟩,x,y,⟨O,M⟩,v,b,⟨O,p⟩,M,K⟩
   .rw [d,dU,T,f,Q,lM (i+1) O];exact w (i+1) _ O gp
def aby(R:Nat->Option Nat)(m j k C q:Nat)(F H:List Int)(s:Int)(P t:es)(x:k+1<4294967295)(o:m+(k+1)<=F.length)(L:j+(k+1)<=H.length)(v:s≠0):letI a:dI:=⟨.ws .u64 H,t⟩;eM B R 162 [.s (E (0,m)) (k+1) C,.s (E (1,j)) (k+1) q,.i .u64 s] [⟨.ws .u64 F,P⟩,a]
      (λr u=>r= .i .u64 (U.u64.wrap (H.getD j 0*2^min (j4 s).toNat U.u64.bits))/\u=[⟨.ws .u64 (pW (DK (su s) (j4 s) H j) (BM (su s) H j k) m k 0 F),P⟩,a]):=by
  have T:dH j 0 1=j:=by rw[eE];omega
  refine dL (C3 R) f162 ?_;refine fa (eB (j9 R)) (j:=100) (z:=[A,A,A]) (l:=[0,1,2,6,7,8]) (s:=[D (0<=j4 s),D (dH j 0 1<H.length),D ((0:Int)<=0/\(0:Int)<((k+1:Nat):Int)),(((k+1:Nat):Int)==0)==A,G,(s==0)==A,(((k+1:Nat):Int)!=((k+1:Nat):Int))==A,G,G]) (a:=HB) (y:=[(0,.s (E (0,m)) (k+1) C),(1,.s (E (1,j)) (k+1) q),(2,.i .u64 (su s)),(6,.i .u64 (U.u64.wrap (H.getD (dH j 0 1) 0*2^min (j4 s).toNat U.u64.bits))),(7,.i .u64 (j4 s)),(8,.i .i64 ((0+1:Nat):Int))]) (u:=[⟨.ws .u64 F,P⟩,⟨.ws .u64 H,t⟩]) I ?_ K ?_
  .rw [T];have c:j<H.length:=O;have y:(0:Int)<((k+1:Nat):Int):=O;have b:0<=j4 s:=js _ _
   have M:(((k+1:Nat):Int)==0)=A:=by rw[kZ];omega
   have p:(s==0)=A:=by rw[kZ];exact v
   simp only[dX,eG,M,p,fV];exact⟨b,c,⟨O,y⟩,by simp[eb]⟩
  .rw [T];exact Ql R m j (k+1) C q H (su s) (j4 s) _ P t x L (js _ _) (js _ _) k 0 F O o
def bT(b:Bool):((b==G)=G)=(b=G):=by cases b<;>rfl
def bF(b:Bool):((b==A)=G)=(b=A):=by cases b<;>decide
def fM:(eb []=G)=True:=by simp[eb]
def iO(a b:Bool):(ed a b=G)=(a=G/\b=G):=by cases a<;>cases b<;>simp[ed]
def iy{n:Int}(h: -9223372036854775808<=n/\n<=9223372036854775807):U.i64.wrap n=n:=by rw[qd];omega
def mP{n:Int}(h:0<=n/\n<=18446744073709551615):U.u64.wrap n=n:=by rw[kq];omega
def V8(a b:Int):a+b-a=b:=O
def lj(a n:Nat):dH a n 1=a+n:=by rw[eE];omega
def kE{o F l:Nat}(h:F≠l):eO o F l 1=o+l:=by rw[uM,if_neg h];omega
def TY(R:Nat->Option Nat)(m n C q:Nat)(s t c:Int)(P:es)(F:List Int):letI a:Nat:=dH m 0 1;letI b:Prop:=(0:Int)<=0/\0<(n:Int);(gi f161.results.toList (et (C3 R) 68 N 200 HZ ⟨[(0,.s (E (0,m)) n C),(1,.s (E (0,m)) n q),(2,.i .u64 s),(6,.i .u64 c),(7,.i .u64 t),(8,.i .i64 0)],[⟨.ws .u64 F,P⟩],[A],[]⟩))=(G,E (.i .u64 c),[⟨.ws .u64 (F.set a (U.u64.wrap (F.getD a (0:Int)*2^min s.toNat 64))),P⟩],[D (1=1/\a<F.length),decide b,D (0<=s),D (a<F.length),decide b,G]):=I
def V7(R:Nat->Option Nat)(m n C q i:Nat)(s t c:Int)(P:es)(F:List Int):letI a:Int:=(↑(i+1):Int);letI b:Int:=U.i64.wrap (a-1);letI d:Nat:=dH m a.toNat 1;letI e:Prop:=0<=a/\a<(n:Int);letI f:V:= .s (E (0,m)) n C;letI g:V:= .s (E (0,m)) n q;letI h:U:= .u64;(oS (eC (C3 R) 68 200 [0,1,2,6,7,8] HZ ⟨[(0,f),(1,g),(2,.i h s),(6,.i h c),(7,.i h t),(8,.i .i64 ((i+1:Nat):Int))],[⟨.ws h F,P⟩],[G],[]⟩))=(HZ,[(0,f),(1,g),(2,.i h s),(6,.i h c),(7,.i h t),(8,.i .i64 b)],[⟨.ws h (F.set d (eA BinOp.or h (U.u64.wrap (F.getD d (0:Int)*2^min s.toNat 64)) ((F.getD (dH m b.toNat 1) 0).fdiv (2^min t.toNat 64)))),P⟩],[D (1=1/\d<F.length),decide e,D (0<=t),D (dH m b.toNat 1<F.length),D (0<=b/\b<(n:Int)),D (0<=s),D (d<F.length),decide e,D (a>0)==G]):=I
def KW(s t:Int)(o:Nat){F w:List Int}: ∀i,(∀j,j<=i->w.getD (o+j) 0=F.getD (o+j) 0)->AR s t w o i=AR s t F o i
  |0,h=>by have:=h 0 (eT _);simp only[j3]at this;simp only[AR,this]
  |i+1,h=>by simp only[AR,h (i+1) (eT _),h i O]
def AQ(o:Nat){w S:Nat->Int}: ∀(i:Nat)(F:List Int),(∀j,j<=i->S j=w j)->qQ S o i F=qQ w o i F
  |0,F,h=>by simp only[qQ,h 0 (eT _)]
  |i+1,F,h=>by simp only[qQ,h (i+1) (eT _)];exact AQ o i _ λj H=>h j O
def pz{l:List Int}{j:Nat}{v:Int}(h:i≠j):(l.set i v).getD j 0=l.getD j 0:=by simp[ie,lI h]
def Ph(R:Nat->Option Nat)(m n C q:Nat)(s t c:Int)(P:es)(x:n<4294967296)(v:0<=s)(e:0<=t):
    ∀
     (i:Nat)(F:List Int),i<n->m+n<=F.length->
     Ev B (C3 R) 161 68 1 [] HZ [(0,.s (E (0,m)) n C),(1,.s (E (0,m)) n q),(2,.i .u64 s),(6,.i .u64 c),(7,.i .u64 t),(8,.i .i64 (i:Nat))] [⟨.ws .u64 F,P⟩]
      (λr u=>r= .i .u64 c/\u=[⟨.ws .u64 (qQ (AR s t F m) m i F),P⟩]):=by
  intro i
  induction i with
  |zero=>
   intro F g o;refine Ev.done (eB (j9 R)) (TY R m n C q s t c P F) ?_ ?_
   .simp only[nD,eI,fb,Nat.reduceAdd,Nat.reduceLT,dX,fM,bT,bF,eG,rF,nY,kZ,kY,uH,ne_eq,iO,iv,qd,eE,jq,dU,fV,im];omega
   .simp only[eE,jq,j3,GW];exact⟨dD,K⟩
  |succ i a=>
   intro F g o;have d:=nq i O;refine fa (eB (j9 R)) (V7 R m n C q i s t c P F) ?_ K ?_
   .simp only[nD,eI,fb,Nat.reduceAdd,Nat.reduceLT,dX,fM,bT,bF,eG,rF,nY,kZ,kY,uH,ne_eq,iO,iv,qd,eE,jq,dU,fV,im];omega
   .simp only[d,dU,eE,jq];refine(a _ O gp).mono λr u z=>?_
    refine⟨z.1,?_⟩
    have b: ∀w,qQ (AR s t (F.set (m+(i+1)) w) m) m i=qQ (AR s t F m) m i:=λw=>by
      funext l
      exact AQ m i l λj H=>KW s t m j λk f=>pz O
    rw[z.2,b];rfl
def Ln(R:Nat->Option Nat)(m k C q:Nat)(s:Int)(P:es)(F:List Int):letI c:Int:=(↑(k+1):Int);letI a:Int:=U.i64.wrap (c-1);letI g:Int:=eA BinOp.and .u64 s 63;letI b:Int:=eA BinOp.and .u64 (U.u64.wrap (64-g)) 63;letI d:dE:=[⟨.ws .u64 F,P⟩];letI e:V:= .s (E (0,m)) (k+1) C;letI f:V:= .s (E (0,m)) (k+1) q;(oS (eC (C3 R) 68 200 [0,1,2,6,7,8] [.code (dB f161)] ⟨[(0,e),(1,f),(2,.i .u64 s)],d,[A,A,A],[]⟩))=(HZ,[(0,e),(1,f),(2,.i .u64 g),(6,.i .u64 ((F.getD (dH m a.toNat 1) 0).fdiv (2^min b.toNat 64))),(7,.i .u64 b),(8,.i .i64 a)],d,[G,G,D (dH m a.toNat 1<F.length),D (0<=a/\a<c),G,G,G,(s==0)==A,(c !=c)==A,G,G]):=I
def Xt(R:Nat->Option Nat)(m k C q:Nat)(F:List Int)(s:Int)(P:es)(x:k+1<4294967296)(o:m+(k+1)<=F.length)(v:s≠0):
    eM B R 161 [.s (E (0,m)) (k+1) C,.s (E (0,m)) (k+1) q,.i .u64 s] [⟨.ws .u64 F,P⟩]
     (λr u=>r= .i .u64 ((F.getD (m+k) 0).fdiv (2^min (j4 s).toNat U.u64.bits))/\u=[⟨.ws .u64 (qQ (AR (su s) (j4 s) F m) m k F),P⟩]):=by
  have d:=nq k O;refine dL _ f161 (fa (eB (j9 R)) (Ln R m k C q s P F) ?_ K ?_)
  .have H:0<=j4 s:=js _ _;unfold j4 at H;simp only[nD,eI,fb,Nat.reduceAdd,Nat.reduceLT,dX,fM,bT,bF,eG,rF,nY,kZ,kY,uH,ne_eq,iO,iv,qd,eE,jq,dU,fV,im];omega
  .simp only[d,dU,eE,jq];exact Ph R m (k+1) C q (su s) (j4 s) _ P x (js _ _) (js _ _) k F O o
def PS(R:Nat->Option Nat)(m n C q i:Nat)(s t c:Int)(P:es)(F:List Int):letI d:=(n:Int);letI a:Int:=U.i64.wrap (d-1);letI b:Nat:=dH m a.toNat 1;(gi f162.results.toList (et (C3 R) 71 N 200 HB ⟨[(0,.s (E (0,m)) n C),(1,.s (E (0,m)) n q),(2,.i .u64 s),(6,.i .u64 c),(7,.i .u64 t),(8,.i .i64 ((i+1:Nat):Int))],[⟨.ws .u64 F,P⟩],[A],[]⟩))=(G,E (.i .u64 c),[⟨.ws .u64 (F.set b ((F.getD b 0).fdiv (2^min s.toNat 64))),P⟩],[D (1=1/\b<F.length),D (0<=a/\a<d),D (0<=s),D (b<F.length),D (0<=a/\a<d),G,G,D ((↑(i+1):Int)<d)==A,G]):=I
def Xp(R:Nat->Option Nat)(m n C q i:Nat)(s t c:Int)(P:es)(F:List Int):letI b:Int:=(↑(i+1):Int);letI a:Int:=U.i64.wrap (b-1);letI d:Nat:=dH m a.toNat 1;letI e:=(n:Int);letI f:V:= .s (E (0,m)) n C;letI g:V:= .s (E (0,m)) n q;letI h:U:= .u64;(oS (eC (C3 R) 71 200 [0,1,2,6,7,8] HB ⟨[(0,f),(1,g),(2,.i h s),(6,.i h c),(7,.i h t),(8,.i .i64 ((i+1:Nat):Int))],[⟨.ws h F,P⟩],[G],[]⟩))=(HB,[(0,f),(1,g),(2,.i h s),(6,.i h c),(7,.i h t),(8,.i .i64 (U.i64.wrap (b+1)))],[⟨.ws h (F.set d (eA BinOp.or h ((F.getD d 0).fdiv (2^min s.toNat 64)) (U.u64.wrap (F.getD (dH m b.toNat 1) (0:Int)*2^min t.toNat 64)))),P⟩],[D (1=1/\d<F.length),D (0<=a/\a<e),D (0<=t),D (dH m b.toNat 1<F.length),D (0<=b/\b<e),D (0<=s),D (d<F.length),D (0<=a/\a<e),D (b<e)==G,G]):=I
def AM(o:Nat){w S:Nat->Int}(v:Int): ∀(k i:Nat)(F:List Int),(∀j,i<=j->j<i+k->S j=w j)->pW S v o k i F=pW w v o k i F
  |0,i,F,h=>rfl
  |k+1,i,F,h=>by simp only[pW,h i (eT _) O];exact AM o v k (i+1) _ λj H Q=>h j O O
def Pb(R:Nat->Option Nat)(m n C q:Nat)(s t c:Int)(P:es)(x:n<4294967295)(h:0<=s)(f:0<=t):
    ∀
     (k i:Nat)(F:List Int),i+1+k=n->m+n<=F.length->
     Ev B (C3 R) 162 71 1 [] HB [(0,.s (E (0,m)) n C),(1,.s (E (0,m)) n q),(2,.i .u64 s),(6,.i .u64 c),(7,.i .u64 t),(8,.i .i64 ((i+1:Nat):Int))] [⟨.ws .u64 F,P⟩]
      (λr u=>r= .i .u64 c/\u=[⟨.ws .u64 (pW (DK s t F m) (BM s F m (n-1)) m k i F),P⟩]):=by
  intro k
  induction k with
  |zero=>
   intro i F g o;have d:U.i64.wrap ((n:Int)-1)=(i:Nat):=by rw[qd];omega
   have e:n-1=i:=O;refine Ev.done (eB (j9 R)) (PS R m n C q i s t c P F) ?_ ?_
   .simp only[nD,eI,fb,Nat.reduceAdd,Nat.reduceLT,dX,fM,bT,bF,eG,rF,nY,kZ,kY,uH,ne_eq,iO,iv,qd,eE,jq,dU,fV,im];omega
   .simp only[d,eE,jq,dU,pW,BM,e];exact⟨dD,K⟩
  |succ k a=>
   intro i F g o;have d:=nq i O;have S:=lM (i+1) O;refine fa (eB (j9 R)) (Xp R m n C q i s t c P F) ?_ K ?_
   .simp only[nD,eI,fb,Nat.reduceAdd,Nat.reduceLT,dX,fM,bT,bF,eG,rF,nY,kZ,kY,uH,ne_eq,iO,iv,qd,eE,jq,dU,fV,im];omega
   .simp only[d,S,dU,eE,jq];refine(a (i+1) _ O gp).mono λr u z=>?_
    refine⟨z.1,?_⟩
    have T: ∀w,BM s (F.set (m+i) w) m (n-1)=BM s F m (n-1):=λw=>by simp only[BM,pz (O:m+i≠m+(n-1))]
    have b: ∀w l v,pW (DK s t (F.set (m+i) w) m) v m k (i+1) l=pW (DK s t F m) v m k (i+1) l:=λw l v=>
      AM m v k (i+1) l λj H Q=>by simp only[DK,pz (O:m+i≠m+j),pz (O:m+i≠m+(j+1))]
    rw[z.2,b,T];rfl
def Kb(R:Nat->Option Nat)(m k C q:Nat)(s:Int)(P:es)(F:List Int):letI f:Int:=eA BinOp.and .u64 s 63;letI a:Int:=eA BinOp.and .u64 (U.u64.wrap (64-f)) 63;letI b:Int:=(↑(k+1):Int);letI c:dE:=[⟨.ws .u64 F,P⟩];letI d:V:= .s (E (0,m)) (k+1) C;letI e:V:= .s (E (0,m)) (k+1) q;(oS (eC (C3 R) 71 200 [0,1,2,6,7,8] [.code (dB f162)] ⟨[(0,d),(1,e),(2,.i .u64 s)],c,[A,A,A],[]⟩))=(HB,[(0,d),(1,e),(2,.i .u64 f),(6,.i .u64 (U.u64.wrap (F.getD (dH m 0 1) (0:Int)*2^min a.toNat 64))),(7,.i .u64 a),(8,.i .i64 1)],c,[G,D (dH m 0 1<F.length),D ((0:Int)<=0/\0<b),G,G,(s==0)==A,(b !=b)==A,G,G]):=I
def Yq(R:Nat->Option Nat)(m k C q:Nat)(F:List Int)(s:Int)(P:es)(x:k+1<4294967295)(o:m+(k+1)<=F.length)(v:s≠0):
    eM B R 162 [.s (E (0,m)) (k+1) C,.s (E (0,m)) (k+1) q,.i .u64 s] [⟨.ws .u64 F,P⟩]
     (λr u=>r= .i .u64 (U.u64.wrap (F.getD m 0*2^min (j4 s).toNat U.u64.bits))/\u=[⟨.ws .u64 (pW (DK (su s) (j4 s) F m) (BM (su s) F m k) m k 0 F),P⟩]):=by
  refine dL _ f162 (fa (eB (j9 R)) (Kb R m k C q s P F) ?_ K ?_)
  .have H:0<=j4 s:=js _ _;unfold j4 at H;simp only[nD,eI,fb,Nat.reduceAdd,Nat.reduceLT,dX,fM,bT,bF,eG,rF,nY,kZ,kY,uH,ne_eq,iO,iv,qd,eE,jq,dU,fV,im];omega
  .simp only[eE,jq,j3];exact Pb R m (k+1) C q (su s) (j4 s) _ P x (js _ _) (js _ _) k 0 F O o
end Go.Proofs.YtiggidfngfkanaaGreatDoor
