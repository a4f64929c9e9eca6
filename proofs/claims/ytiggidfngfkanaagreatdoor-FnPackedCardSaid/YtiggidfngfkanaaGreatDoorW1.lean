/- FnPacked, part 1. No condition. -/
import Derived.ChangeKeysEq
import Derived.ChangeOld
import Derived.ChangeSame
import Derived.ChangeSlices
import Derived.ChangeVars
import Derived.Deep.LoopGhost
import Derived.Defers
import Derived.Handed
import Derived.JoinedOf
import Derived.KernelRfl
import Derived.LaidEql
import Derived.LaidHandle
import Derived.LaidLaws
import Derived.Laws.AppendOwn
import Derived.Laws.BytesString
import Derived.Laws.CopyRow
import Derived.Laws.StructEq
import Derived.Lay
import Derived.Lib.Mul64
import Derived.Lib.SlicesMore
import Derived.Lib.TrailingZeros
import Derived.Lib.Walk
import Derived.LoopN
import Derived.OpenShut
import Derived.Recover
import Derived.RowKit
import Derived.SevenTiedAt
import Derived.Shelf.Lays
import Derived.Shelf.RegionOpenPlain
import Derived.Shelf.Spec.BitsCarry
import Derived.Shelf.Spec.SlicesGrow
import Derived.Sort.WalkB12
import Derived.Still
import Derived.StillTail
import Derived.Stop.Joined
import Derived.WalkKit
import Derived.WideKeyArgs
namespace Go.Proofs.YtiggidfngfkanaaGreatDoor
open Go
set_option maxRecDepth 100000
set_option maxHeartbeats 4000000
set_option linter.all false
open Bool renaming false->A, true->G
open Decidable renaming decide->D
open Go renaming IntKind->U, TypeId->es, Value->ip, World->ii
open List renaming drop->kw
open Option renaming none->N, some->E
variable{c:Array Bool}{H:BinOp}{ops:List Oper}{b g i j k n:Nat}{q:Nat->Nat}{S:Nat->Prop}{o:Oper}{x:Operand}{P:Program}{t:es}{a w:ii}
def I{P:Prop}(h:P:=by kernel_rfl):P:=h
def O{P:Prop}(h:P:=by omega):P:=h
def J{P:Prop}(h:P:=by decide):P:=h
def Y{P:Prop}(h:P:=by simp):P:=h
def dR{P:Prop}(h:P:=by show _=_;kernel_rfl):P:=h
def K.{u}{α:Sort u}{a:α}:a=a:=rfl
def dD:True:=True.intro
def gp{P:Prop}(h:P:=by simp;omega):P:=h
def Li:= @_root_.Array.getElem?_setIfInBounds_ne
def Rd:= @_root_.Array.getD_eq_getD_getElem?
def abz:= @_root_.List.any_eq_true
def iv:= @_root_.Bool.and_eq_true
def nY:= @_root_.beq_iff_eq
def iB:= @_root_.Nat.eq_of_beq_eq_true
def AY:= @_root_.Bool.or_eq_true
def kh:= @_root_.List.mem_cons
def ph:= @_root_.List.getElem?_cons_zero
def eJ:= @_root_.Option.some.injEq
def yM:= @_root_.List.all_eq_true
def C4:= @_root_.Bool.not_eq_true'
def nD:= @_root_.Nat.blt_eq
def kz:= @_root_.List.getElem?_cons_succ
def sm:= @Go.mem_ready
def fQ:= @_root_.List.getElem?_eq_some_iff
def eT:= @_root_.Nat.le_refl
def NN:= @_root_.List.eq_nil_iff_forall_not_mem
def kC:= @_root_.congrArg
def lR:= @_root_.List.drop_drop
def mE:= @_root_.Nat.add_comm
def Uy:= @_root_.List.getElem?_toArray
def Zy:= @_root_.List.mem_iff_getElem?
def jY:= @_root_.List.getElem?_drop
def jr:= @_root_.List.getElem?_eq_getElem
def j3:= @_root_.Nat.add_zero
def eG:= @_root_.decide_eq_true_eq
def qM:= @_root_.Nat.zero_le
def AA:= @_root_.List.mem_range
def nA:= @_root_.List.map_cons
def Co:= @_root_.Array.getElem?_eq_some_iff
def xN:= @_root_.Iff.rfl
def mh:= @_root_.Nat.le_trans
def pY:= @_root_.Nat.lt_of_lt_of_le
def oF:= @_root_.List.getElem?_append_left
def pP:= @_root_.List.getElem?_append_right
def gw:= @_root_.List.length_append
def eI:= @_root_.List.length_cons
def fb:= @_root_.List.length_nil
def qj:= @_root_.List.getElem?_set_self
def lI:= @_root_.List.getElem?_set_ne
def gU:= @_root_.List.length_set
def pd:= @Go.run_underlying
def fr:= @Go.Sem.run_bind
def gv:= @Go.Result.andThen_ok
def PO:= @_root_.Option.map_eq_some_iff
def Mx:= @_root_.List.map_take
def Ew:= @_root_.List.map_drop
def gq:= @_root_.cond_true
def ef:= @_root_.Prod.mk.injEq
def oH:= @_root_.if_true
def iV:= @Go.Sem.run_pure
def nh:= @_root_.Array.ext'
def gr:= @_root_.cond_false
def oP:= @_root_.Bool.false_eq_true
def kT:= @_root_.if_false
def nF:= @_root_.List.getElem?_take
def im:= @_root_.and_true
def oQ:= @_root_.Option.map_some
def M6:= @_root_.Option.map_none
def ir:= @_root_.Nat.zero_add
def jq:= @_root_.Nat.mul_one
def sa:= @_root_.Array.toList_inj
def Ro:= @_root_.List.map_map
def AP:= @_root_.List.ext_getElem?
def EF:= @_root_.List.getElem?_eq_none
def Iu:= @_root_.Nat.beq_refl
def yw:= @_root_.Prod.ext
def uY:= @_root_.Nat.add_assoc
def mi:= @_root_.Nat.le_of_ble_eq_true
def Mq:= @_root_.List.mapM_cons
def Uv:= @_root_.List.mapM_toArray
def ie:= @_root_.List.getD_eq_getElem?_getD
def pc:= @_root_.List.length_map
def uf:= @_root_.List.getElem?_map
def YZ:= @_root_.List.getElem?_replicate
def qd:= @Go.IntKind.wrap_i64
def SO:= @_root_.Int.mul_le_mul
def LF:= @Go.run_program
def gR:= @_root_.List.length_take
def jK:= @_root_.List.length_drop
def tN:= @_root_.List.size_toArray
def Mc:= @_root_.List.mem_map
def SG:= @_root_.List.map_toArray
def Nw:= @_root_.List.map_nil
def fJ:= @_root_.List.length_replicate
def jx:= @_root_.List.append_nil
def Ae:= @_root_.List.take_append_drop
def uK:= @Go.Comes.of_steps
def Ib:= @Go.step_lone_go
def ym:= @_root_.List.cons_append
def Zc:= @_root_.List.set_eq_take_append_cons_drop
def yA:= @Go.Oper.upon_value
def Jl:= @_root_.not_true_eq_false
def Am:= @Go.Oper.upon_enter
def jo:= @_root_.Nat.sub_zero
def Mb:= @_root_.Array.size_append
def M3:= @_root_.Array.size_replicate
def UL:= @Go.Oper.upon_defer
def ra:= @_root_.Ne.symm
def Aa:= @_root_.List.nodup_cons
def Qz:= @_root_.List.pairwise_iff_getElem
def nf:= @_root_.Nat.lt_trichotomy
def BC:= @_root_.List.mem_of_getElem?
def np:= @_root_.Nat.eq_zero_or_pos
def uN:= @_root_.Nat.mul_le_mul
def CN:= @_root_.Option.getD_some
def xA:= @_root_.Nat.not_lt_zero
def jh:= @_root_.List.mem_cons_of_mem
def jt:= @_root_.List.mem_cons_self
def fU:= @_root_.of_decide_eq_true
def mS:= @_root_.of_decide_eq_false
def qt:= @Go.getD_replicate_false
def C9:= @Go.getD_set_ne
def Ka:= @_root_.List.length_eq_zero_iff
def J0:= @_root_.List.length_erase_of_mem
def Kg:= @Go.wp_region_any
def Dn:= @_root_.Nat.testBit_mod_two_pow
def ju:= @_root_.Nat.lt_or_ge
def qk:= @_root_.Nat.min_eq_left
def sV:= @_root_.List.drop_eq_nil_of_le
def tA:= @_root_.Classical.byContradiction
def uX:= @_root_.List.drop_eq_getElem_cons
def zL:= @_root_.Option.some.inj
def fG:= @_root_.decide_eq_true
def fy:= @_root_.Int.eq_ofNat_of_zero_le
def kB:= @_root_.Int.fdiv_eq_ediv_of_nonneg
def zU:= @_root_.Nat.pow_le_pow_right
def Cl:= @_root_.Nat.pow_pos
def Gk:= @_root_.BitVec.toNat_and
def Cs:= @_root_.Nat.and_two_pow_sub_one_eq_mod
def iD:= @_root_.Nat.mod_lt
def uC:= @_root_.Int.natCast_emod
def jL:= @_root_.Int.mul_nonneg
def nB:= @_root_.decide_eq_false
def K1:= @_root_.Int.lt_of_lt_of_le
def tI:= @_root_.List.mem_singleton
def zi:= @_root_.Nat.mod_two_eq_zero_or_one
def ud:= @_root_.Nat.two_pow_add_eq_or_of_lt
def Hb:= @_root_.Nat.or_comm
def dU:= @_root_.Int.toNat_natCast
def J2:= @Go.IntKind.wrap_u64
def gF:= @_root_.Int.mul_le_mul_of_nonneg_left
def gA:= @_root_.Int.le_of_lt
def FX:= @_root_.Int.mul_lt_mul_of_pos_right
def fO:= @_root_.Int.mul_assoc
def fh:= @_root_.Int.mul_add
def jN:= @_root_.Int.add_mul
def lO:= @_root_.List.not_mem_nil
def lN:= @_root_.or_false
def eD:= @_root_.Int.mul_comm
def lJ:= @_root_.Int.natCast_mul
def xe:= @_root_.Int.natCast_ediv
def rJ:= @_root_.Int.natCast_add
def FM:= @_root_.List.cons.injEq
def fV:= @_root_.true_and
def JW:= @_root_.List.map_congr_left
def sP:= @_root_.List.nil_append
def Re:= @_root_.List.replicate_append_replicate
def jO:= @_root_.List.take_left'
def oW:= @_root_.Nat.add_sub_cancel
def mN:= @_root_.Int.zero_mul
def wP:= @_root_.Nat.mul_zero
def tF:= @_root_.List.take_zero
def s6:= @_root_.List.drop_append
def o4:= @_root_.Int.mul_zero
def jP:= @_root_.Int.add_zero
def y9:= @_root_.Nat.pos_of_ne_zero
def dK:= @_root_.List.set_cons_succ
def dJ:= @_root_.List.set_cons_zero
def k9:= @_root_.Int.lt_or_le
def gh:= @_root_.List.drop_zero
def zq:= @_root_.Nat.lt_irrefl
def BF:= @_root_.Int.mul_pos
def JN:= @_root_.Nat.mod_eq_zero_of_dvd
def ua:= @_root_.Nat.dvd_trans
def rz:= @_root_.Nat.pow_succ
def uG:= @_root_.Nat.mod_eq_of_lt
def nr:= @_root_.Nat.mul_mod
def xj:= @_root_.Nat.mod_mod
def kP:= @_root_.Nat.mul_comm
def lH:= @_root_.Nat.mul_assoc
def sX:= @_root_.Nat.one_mul
def zC:= @_root_.Nat.div_eq_of_lt
def Cj:= @_root_.Nat.div_one
def nu:= @_root_.Nat.pow_add
def GM:= @_root_.Nat.and_assoc
def yZ:= @_root_.Nat.dvd_of_mod_eq_zero
def zF:= @_root_.Nat.div_add_mod
def oZ:= @_root_.Nat.mul_add
def Fu:= @_root_.Int.natCast_pow
def xu:= @_root_.Nat.add_mod
def Kq:= @_root_.Nat.mul_left_comm
def ot:= @_root_.Nat.add_mul
def uD:= @_root_.Nat.le_of_dvd
def Fx:= @_root_.Nat.pow_mul
def Rh:= @_root_.Nat.sub_mod_eq_zero_of_mod_eq
def GC:= @_root_.Nat.add_sub_cancel_left
def F7:= @Go.IntKind.wrap_u32
def JI:= @Go.IntKind.wrap_u8
def zk:= @_root_.Nat.two_pow_pos
def KU:= @_root_.BitVec.toNat_or
def JT:= @_root_.Nat.or_lt_two_pow
def Q7:= @_root_.Nat.mul_mod_mul_right
def Cy:= @_root_.Nat.div_lt_iff_lt_mul
def Gi:= @_root_.Int.pow_succ
def JS:= @_root_.Int.emod_add_mul_ediv
def Gj:= @_root_.Int.neg_mul
def tH:= @_root_.Int.mul_ediv_add_emod
def Gp:= @_root_.Int.pow_zero
def jU:= @_root_.Int.mul_one
def jT:= @_root_.Int.one_mul
def mO:= @_root_.Int.zero_add
def j7:= @_root_.Int.emod_nonneg
def xk:= @_root_.Int.ne_of_gt
def j6:= @_root_.Int.emod_lt_of_pos
def qg:= @_root_.Int.mul_le_mul_of_nonneg_right
def ui:= @_root_.Int.sub_mul
def n9:= @_root_.Int.ediv_nonneg
def rD:= @_root_.Int.ediv_lt_of_lt_mul
def pU:= @_root_.Int.mul_sub
def P5:= @_root_.Int.add_mul_ediv_right
def CL:= @_root_.Int.ediv_eq_zero_of_lt
def xm:= @_root_.Int.pow_pos
def Dc:= @_root_.Int.pow_add
def B9:= @_root_.List.drop_set_of_lt
def JZ:= @_root_.List.take_set_of_le
def Gv:= @_root_.List.mem_of_mem_drop
def K8:= @_root_.List.eq_of_mem_replicate
def CI:= @_root_.List.replicate_succ
def Ry:= @_root_.List.take_succ_eq_append_getElem
def qx:= @_root_.List.append_assoc
def eU:= @_root_.And.intro
def rF:= @_root_.decide_eq_false_iff_not
def kZ:= @_root_.beq_eq_false_iff_ne
def kY:= @_root_.bne_iff_ne
def uH:= @_root_.bne_eq_false_iff_eq
def wO:= @_root_.Int.add_assoc
def wZ:= @_root_.Nat.sub_self
def mo:= @_root_.Nat.min_self
def Gm:= @_root_.Nat.mul_le_mul_right
def Lq:= @_root_.Nat.le_div_iff_mul_le
def KY:= @_root_.Nat.lt_of_le_of_lt
def G9:= @_root_.Int.mul_neg
def pM:= @_root_.Int.add_mul_emod_self_left
def og:= @_root_.Int.emod_eq_of_lt
def KA:= @_root_.Int.toNat_of_nonneg
def xq:= @_root_.Nat.pow_zero
def K9:= @_root_.Nat.mul_add_div
def GW:= @_root_.Nat.zero_mul
def uh:= @_root_.Int.le_refl
def Le:= @_root_.Int.lt_of_mul_lt_mul_left
def sQ:= @_root_.List.take_of_length_le
def um:= @_root_.Int.mul_left_comm
def JQ:= @_root_.List.take_append
def BJ:= @_root_.Int.natCast_pos
def wT:= @_root_.List.set_append_right
def QY:= @_root_.Int.mul_ediv_cancel_left
def P9:= @_root_.Int.add_mul_ediv_left
def Cn:= @_root_.Int.mul_emod
def Gc:= @_root_.Int.add_emod
def JC:= @_root_.Int.add_comm
def Km:= @_root_.List.take_append_of_le_length
def BR:= @_root_.List.take_take
def Sd:= @_root_.Nat.add_mul_mod_self_left
def Sw:= @_root_.Nat.Coprime.mul_dvd_of_dvd_of_dvd
def zg:= @_root_.Nat.div_le_self
def xn:= @_root_.Bool.and_self
def S3:= @_root_.List.drop_append_of_le_length
def iT:= @_root_.not_false_eq_true
def La:= @_root_.Int.ofNat_tdiv
def JD:= @_root_.Nat.mul_lt_mul_of_pos_right
def Rc:= @_root_.Nat.mul_div_mul_right
def Dd:= @_root_.Bool.true_and
def BH:= @_root_.Bool.and_true
def FH:= @_root_.Int.ediv_one
def G3:= @_root_.Int.ediv_le_self
def Cx:= @_root_.gt_iff_lt
def PK:= @_root_.Int.le_ediv_of_mul_le
def Gu:= @_root_.List.take_succ_cons
def Dq:= @_root_.List.take_replicate
def GB:= @Go.Lib.half_mul_le
def JP:= @_root_.Array.length_toList
def FU:= @_root_.getElem!_pos
def KC:= @_root_.List.length_reverse
def CK:= @_root_.Nat.div_div_eq_div_mul
def K6:= @_root_.Classical.epsilon_spec
def rH:= @_root_.decide_eq_decide
def fI:= @_root_.Nat.lt_trans
def xd:= @_root_.decide_false
def JV:= @_root_.List.append_inj
def FE:= @_root_.Int.tdiv_eq_ediv_of_nonneg
def Kl:= @_root_.Int.tmod_eq_emod_of_nonneg
def JU:= @_root_.Nat.testBit_div_two_pow
def T3:= @_root_.Nat.testBit_eq_decide_div_mod_eq
def uP:= @_root_.List.cons_eq_cons
def nM:= @_root_.Prod.mk.inj
def Kd:= @_root_.List.length_singleton
def JF:= @_root_.Nat.not_lt_of_le
def KN:= @_root_.List.getElem_map
def FD:= @_root_.List.mem_append_left
def JG:= @_root_.List.mem_append_right
def zX(e:Edge):Bool:=Region.binds .any e
def rp(o:Oper)(i:Nat):Bool:=o.after.toList.any λe=>zX e&&Nat.beq e.on i
def Cc(ops:Array Oper)(i:Oper)(k:Nat):List Oper->Bool
  |[]=>G
  |q::r=>(rp q k||Oper.apart ops i q)&&Cc ops i k r
def yB(ops:Array Oper):Nat->Nat->List Oper->Bool
  |0,_,_=>G
  |_+1,_,[]=>A
  |f+1,k,o::r=>Cc ops o k r&&yB ops f (k+1) r
def my:Nat->List Oper->Bool
  |_,[]=>G
  |k,o::r=>(o.after.toList.all λe=>!zX e||Nat.blt e.on k)&&my (k+1) r
def GX:Nat->List Oper->Bool
  |_,[]=>G
  |t,o::r=>rp o (t-1)&&GX (t+1) r
def Ol(k:Nat):Nat->List Oper->Bool
  |0,_=>A
  |_+1,[]=>A
  |f+1,o::r=>rp o k||Ol k f r
def IN:Nat->Nat->List Oper->Bool
  |0,_,_=>G
  |_+1,_,[]=>A
  |f+1,k,_::r=>Ol k (f+1) r&&IN f (k+1) r
def Cf:List Oper->Bool
  |[]=>G
  |o::r=>(match o.op with| .select .. =>A|_=>G)&&Cf r
def uQ(ops:List Oper):Bool:=Cf ops&&my 0 ops&&yB ops.toArray ops.length 0 ops
def pK(ops:List Oper)(n:Nat):Bool:=
  Cf ops&&Nat.blt n ops.length&&IN n 0 ops&&GX (n+1) (ops.drop (n+1))&&my 0 ops&&yB ops.toArray n 0 ops
structure LI(n k:Nat)(listed:Array Bool):Prop where
  size:listed.size=n
  at_: ∀j,j<n->listed[j]?=E (D (j<k))
def LI.zero(n:Nat):LI n 0 (Array.replicate n A):=⟨Y,λj H=>by simp[H]⟩
def LI.next{l:Array Bool}(h:LI n k l)(R:k<n):LI n (k+1) (l.setIfInBounds k G):=by
  refine⟨by simp[h.size],λj H=>?_⟩;by_cases q:k=j
  .subst q;rw[Array.getElem?_setIfInBounds_self_of_lt (by rw[h.size];exact R)];simp
  .rw [Li q,h.at_ j H]
   congr 1
   simp;omega
def LI.getD{l:Array Bool}(h:LI n k l)(H:j<n)(d:Bool):l.getD j d=D (j<k):=by rw[Rd,h.at_ j H];rfl
def wV(h:rp o i=G):(o.after.any λe=>Region.binds .any e&&e.on==i)=G:=by unfold rp at h;rw[<-Array.any_toList];obtain⟨e,j,H⟩:=abz.1 h;simp only[iv]at H;exact abz.2 ⟨e,j,by simp only[iv,nY];exact⟨H.1,iB H.2⟩⟩
def BW{ops:Array Oper}{i:Oper}: ∀{l:List Oper},Cc ops i k l=G-> ∀q∈l,rp q k=G∨Oper.apart ops i q=G
  |[],_,_,h=>by cases h
  |o::r,h,q,hm=>by
   simp only[Cc,iv,AY]at h;rcases kh.1 hm with rfl|hm
   .exact h.1
   .exact BW h.2 q hm
def mv: ∀{l:List Oper}{k:Nat},my k l=G-> ∀(j:Nat)(o:Oper),l[j]?=E o-> ∀e∈o.after,Region.binds .any e=G->e.on<k+j
  |[],_,_,j,o,h=>by simp at h
  |c::r,k,h,j,o,a=>by
   simp only[my,iv]at h;intro e b H;cases j with
   |zero=>
    simp only[ph,eJ]at a;subst a;have:=yM.1 h.1 e (by simpa using b);simp only[AY,C4,zX,H,Bool.true_eq_false,false_or]at this;simpa[nD]using this
   |succ j=>
    simp only[kz]at a;have:=mv h.2 j o a e b H;omega
section
variable{ops:List Oper}
def zP(H:my 0 ops=G)(h:LI ops.length k c)(i:Nat):
    i∈Region.ready .any ops.toArray c↔k<=i/\ ∃o,ops[i]?=E o/\ ∀e∈o.after,Region.binds .any e=G->e.on<k:=by
  rw[sm];constructor
  .rintro⟨M,o,F,R⟩;have u:ops[i]?=E o:=by simpa using F
   have g:i<ops.length:=(fQ.1 u).1;rw[h.getD g]at M;refine⟨by simpa using M,o,u,λe j s=>?_⟩;have S:=R e j s;have l:=mv H i o u e j s;rw[h.getD O]at S;simpa using S
  .rintro⟨M,o,F,R⟩;have g:i<ops.length:=(fQ.1 F).1;refine⟨by rw[h.getD g];simp;omega,o,by simpa using F,λe j s=>?_⟩;have S:=R e j s;have l:=mv H i o F e j s;rw[h.getD O];simpa using S
def wR(H:my 0 ops=G)(h:LI ops.length k c)(R:k<ops.length):k∈Region.ready .any ops.toArray c:=by refine(zP H h k).2 ⟨eT _,ops[k],by simp[R],λe j s=>?_⟩;have:=mv H k ops[k] (by simp[R]) e j s;omega
def CX(H:my 0 ops=G)(h:LI ops.length ops.length c):(Region.ready .any ops.toArray c).isEmpty=G:=by
  rw[List.isEmpty_iff];refine NN.2 λi g=>?_
  obtain⟨M,o,F,_⟩:=(zP H h i).1 g;have:=(fQ.1 F).1;omega
def Ma(h:LI ops.length k c){r:List Oper}(z:ops.drop k=o::r)(f:Cc ops.toArray o k r=G):
    Region.free .any ops.toArray c k=G:=by
  have R:ops[k]?=E o:=by have:=kC (λl=>l[0]?) z;simpa using this
  have y:ops.drop (k+1)=r:=by have:=kC (kw 1) z;simpa[lR,mE]using this
  unfold Region.free;simp only[Uy,R];refine yM.2 λj H=>?_
  have i:j<ops.length:=by simpa using H
  rw[h.getD i];by_cases q:j<=k
  .rcases Nat.lt_or_eq_of_le q with M|M
   .simp [M]
   .simp [M]
  .have d:ops[j]∈r:=by rw[<-y];refine Zy.2 ⟨j-(k+1),?_⟩;rw[jY,(O:k+1+(j-(k+1))=j)];simp[i]
   have:=BW f _ d;simp only[jr i,AY];rcases this with S|S
   .exact .inr (.inl (wV S))
   .exact .inr (.inr S)
def Hp(H:my 0 ops=G)(p: ∀(k:Nat)(c:Array Bool),LI ops.length k c->k+g=ops.length->Region.seqB .any ops.toArray g k c=G):
    ∀
     (f k:Nat)(l:List Oper)(c:Array Bool),LI ops.length k c->ops.drop k=l->yB ops.toArray f k l=G->k+f+g=ops.length->
     Region.lexHead .any ops.toArray g f k c=G
  |0,k,_,c,h,_,_,x=>by simp only[Region.lexHead];exact p k c h O
  |f+1,k,[],_,_,_,P,_=>by simp[yB]at P
  |f+1,k,o::r,c,h,z,P,x=>by
   simp only[yB,iv]at P;have R:k<ops.length:=O;simp only[Region.lexHead,iv];refine⟨⟨by simpa using wR H h R,Ma h z P.1⟩,?_⟩
   exact Hp H p f (k+1) r _ (h.next R) (by
     have:=kC (kw 1) z
     simpa[lR,mE]using this) P.2 O
def MT(H:my 0 ops=G): ∀(f k:Nat)(l:List Oper)(c:Array Bool),LI ops.length k c->ops.drop k=l->yB ops.toArray f k l=G->k+f=ops.length->
      Region.lexFrom .any ops.toArray f k c=G
  |0,k,_,c,h,_,_,x=>by simp only[Region.lexFrom];have:k=ops.length:=O;subst this;exact CX H h
  |f+1,k,[],_,_,_,P,_=>by simp[yB]at P
  |f+1,k,o::r,c,h,z,P,x=>by
   simp only[yB,iv]at P;have R:k<ops.length:=O;simp only[Region.lexFrom,iv];refine⟨⟨by simpa using wR H h R,Ma h z P.1⟩,?_⟩
   exact MT H f (k+1) r _ (h.next R) (by
     have:=kC (kw 1) z
     simpa[lR,mE]using this) P.2 O
end
def ET: ∀{l:List Oper},Cf l=G->Region.noSelect l.toArray=G:=by
  intro l h;unfold Region.noSelect;rw[<-Array.all_toList];refine yM.2 λo F=>?_
  simp only at F
  induction l with
  |nil=>cases F
  |cons x r v=>
   simp only[Cf,iv]at h;rcases kh.1 F with rfl|F
   .exact h.1
   .exact v h.2 F
def II(h:uQ ops=G):Region.lexB .any ops.toArray=G:=by simp only[uQ,iv]at h;simp only[Region.lexB,iv];refine⟨ET h.1.1,?_⟩;have:=MT h.1.2 ops.length 0 ops (Array.replicate ops.length A) (.zero _) Y h.2 O;simpa using this
def MF: ∀{f:Nat}{l:List Oper},Ol k f l=G-> ∃(j:Nat)(o:Oper),j<f/\l[j]?=E o/\rp o k=G
  |0,_,h=>by simp[Ol]at h
  |_+1,[],h=>by simp[Ol]at h
  |f+1,o::r,h=>by
   simp only[Ol,AY]at h;rcases h with h|h
   .exact⟨0,o,O,K,h⟩
   .obtain⟨j,c,H,F,d⟩:=MF h;exact⟨j+1,c,O,by simpa using F,d⟩
def Il: ∀(f k:Nat)(l:List Oper),ops.drop k=l->k+f=n->IN f k l=G->
    ∀i,k<=i->i<n-> ∃(j:Nat)(o:Oper),i<j/\j<=n/\ops[j]?=E o/\rp o i=G
  |0,k,_,_,x,_,i,M,S=>O
  |f+1,k,[],_,_,h,_,_,_=>by simp[IN]at h
  |f+1,k,o::r,z,x,h,i,M,S=>by
   simp only[IN,iv]at h
   have y:ops.drop (k+1)=r:=by have:=kC (kw 1) z;simpa[lR,mE]using this
   by_cases q:i=k
   .subst q;obtain⟨j,c,H,F,d⟩:=MF h.1;refine⟨i+1+j,c,O,O,?_,d⟩;rw[<-y,jY]at F;exact F
   .exact Il f (k+1) r y O h.2 i O S
def Fm: ∀(t:Nat)(l:List Oper),ops.drop t=l->GX t l=G-> ∀(j:Nat)(o:Oper),t<=j->ops[j]?=E o->rp o (j-1)=G
  |t,[],z,_,j,o,H,F=>by
   have M:=(fQ.1 F).1;have S:ops.length<=t:=by simpa using z
   omega
  |t,x::r,z,h,j,o,H,F=>by
   simp only[GX,iv]at h;by_cases q:j=t
   .subst q;have:=kC (λl=>l[0]?) z;simp only[jY,j3,ph]at this;rw[this]at F;cases F;exact h.1
   .exact Fm (t+1) r (by
      have:=kC (kw 1) z
      simpa[lR,mE]using this) h.2 j o O F
def Aw(H:ops[j]?=E o)(h:rp o i=G):Region.waitsFor .any ops.toArray j i=G:=by unfold Region.waitsFor;simp only[Uy,H];exact wV h
def xS(h:pK ops n=G):Region.lexTailB .any ops.toArray n=G:=by
  simp only[pK,iv]at h;obtain⟨⟨⟨⟨⟨h1,h2⟩,h3⟩,h4⟩,z⟩,h6⟩:=h;have p:n<ops.length:=by simpa[nD]using h2
  have m:=Fm (n+1) _ K h4;simp only[Region.lexTailB,iv,eG];refine⟨⟨⟨⟨ET h1,by simpa using p⟩,?_⟩,?_⟩,?_⟩
  .unfold Region.sinkB;refine yM.2 λi C=>?_
   obtain⟨j,o,S,ac,F,d⟩:=Il (ops:=ops) n 0 ops K O h3 i (qM _) (AA.1 C);refine abz.2 ⟨j,AA.2 O,?_⟩;simp only[iv,eG];exact⟨S,Aw F d⟩
  .unfold Region.chainB;refine yM.2 λt ht=>?_
   have a:t<ops.length:=by simpa using ht
   simp only[AY,eG];by_cases Q:t<=n
   .exact .inl Q
   .exact .inr (Aw (by simp[a]) (m t ops[t] O (by simp[a])))
  .have l: ∀(g k:Nat)(c:Array Bool),n<=k->LI ops.length k c->k+g=ops.length->Region.seqB .any ops.toArray g k c=G:=by
     intro g
     induction g with
     |zero=>
      intro k c _ f R;have:k=ops.length:=O;subst this;exact CX z f
     |succ g v=>
      intro k c aa f R;have H:k<ops.length:=O;simp only[Region.seqB,iv,eG];refine⟨?_,v (k+1) _ O (f.next H) O⟩;have u:=wR z f H
      have w: ∀i∈Region.ready .any ops.toArray c,i=k:=by
        intro i C;obtain⟨ab,o,F,b⟩:=(zP z f i).1 C;by_cases q:i=k
        .exact q
        .have d:=wV (m i o O F);obtain⟨e,he,s⟩:=Array.any_eq_true'.1 d;simp only[iv,nY]at s;have:=b e he s.1;omega
      have P:(Region.ready .any ops.toArray c).Nodup:=by unfold Region.ready;exact List.Pairwise.filter _ List.nodup_range
      generalize Region.ready .any ops.toArray c=L at*
      match L,u,w,P with
      |[],hs,_,_=>cases hs
      |[x],_,F,_=>rw[F x Y]
      |x::y::r,_,F,p=>
       have T:=F x Y;have M:=F y Y;rw[T,M]at p;simp at p
   have:=Hp z (g:=ops.length-n) (λk c f R=>l (ops.length-n) k c O f O) n 0 ops (Array.replicate ops.length A) (.zero _) Y h6 O;simpa using this
inductive V where
  |i(k:U)(n:Int)
  |b(x:Bool)
  |p(a:Option (Nat×Nat))
  |s(a:Option (Nat×Nat))(len cap:Nat)
  |g(l:List V)
  |t(l:List V)
  |y(ty:es)(v:V)
  |f(g:Nat)(caps:List V)
  |r(v:ip)
variable{v:V}
def pI(q:Nat->Nat)(a:Nat×Nat):Addr:=⟨q a.1,a.2,N⟩
mutual
def V.ee(q:Nat->Nat):V->ip
  | .i k n=> .int k n
  | .b x=> .bool x
  | .p a=> .pointer (a.map (pI q))
  | .s a l c=> .slice (a.map (pI q)) l c
  | .g l=> .agg (dZ q l).toArray
  | .t l=> .tuple (dZ q l).toArray
  | .y j v=> .iface j (V.ee q v)
  | .f g l=> .func (.func g) #[] (dZ q l).toArray
  | .r v=>v
def dZ(q:Nat->Nat):List V->List ip
  |[]=>[]
  |x::H=>V.ee q x::dZ q H
end
def lX(q:Nat->Nat)(l:List V):dZ q l=l.map (V.ee q):=by
  induction l with
  |nil=>rfl
  |cons x H v=>simp only[dZ,v,nA]
def tQ(m:Nat):Option (Nat×Nat)->Bool
  |none=>G
  |some a=>Nat.blt a.1 m
mutual
def V.wf(m:Nat):V->Bool
  | .i _ _=>G
  | .b _=>G
  | .p a=>tQ m a
  | .s a _ _=>tQ m a
  | .g l=>nd m l
  | .t l=>nd m l
  | .y _ v=>V.wf m v
  | .f _ l=>nd m l
  | .r _=>G
def nd(m:Nat):List V->Bool
  |[]=>G
  |x::H=>V.wf m x&&nd m H
end
def Em{l:Nat->Nat}{m:Nat}(h: ∀i,i<m->l i=q i)(a:Option (Nat×Nat))(t:tQ m a=G):
    a.map (pI l)=a.map (pI q):=by
  cases a with
  |none=>rfl
  |some a=>
   have:a.1<m:=by simpa[tQ]using t
   simp[pI,h _ this]
mutual
def gx{b:Nat->Nat}{m:Nat}(h: ∀i,i<m->b i=q i): ∀v:V,v.wf m=G->v.ee b=v.ee q
  | .i _ _,_=>rfl
  | .b _,_=>rfl
  | .p a,Q=>by simp only[V.ee];rw[Em h a (by simpa[V.wf]using Q)]
  | .s a _ _,Q=>by simp only[V.ee];rw[Em h a (by simpa[V.wf]using Q)]
  | .g l,Q=>by simp only[V.ee];rw[lU h l (by simpa[V.wf]using Q)]
  | .t l,Q=>by simp only[V.ee];rw[lU h l (by simpa[V.wf]using Q)]
  | .y _ v,Q=>by simp only[V.ee];rw[gx h v (by simpa[V.wf]using Q)]
  | .f _ l,Q=>by simp only[V.ee];rw[lU h l (by simpa[V.wf]using Q)]
  | .r _,_=>rfl
def lU{a:Nat->Nat}{m:Nat}(h: ∀i,i<m->a i=q i): ∀l:List V,nd m l=G->dZ a l=dZ q l
  |[],_=>rfl
  |x::H,Q=>by
   have s:x.wf m=G/\nd m H=G:=by simpa[nd]using Q
   simp only[dZ];rw[gx h x s.1,lU h H s.2]
end
def V.one:V->Bool
  | .g _=>A
  | .t _=>A
  | .r v=>v.oneCell'
  |_=>G
def V.T9(q:Nat->Nat)(h:v.one=G):(v.ee q).oneCell'=G:=by cases v<;>simp_all [V.one,V.ee,ip.oneCell']
def V.cells:V->List V
  | .g l=>l
  |v=>[v]
inductive eH where
  |lit(l:List V)
  |ws(k:U)(l:List Int)
  |int(v:Int)
  |dead
def eH.list:eH->List V
  | .lit l=>l
  | .ws k l=>l.map (V.i k)
  | .int _=>[]
  | .dead=>[]
def eH.live:eH->Bool
  | .lit _=>G
  | .ws _ _=>G
  |_=>A
def eH.isInt:eH->Bool
  | .int _=>G
  |_=>A
def eH.iQ:eH->Bool
  | .dead=>A
  |_=>G
structure dI where
  c:eH
  ty:es
abbrev dE:=List dI
variable{m:dE}
abbrev eZ:=List (Nat×V)
def dI.obj(q:Nat->Nat)(x:dI):Obj:= .cells (dZ q x.c.list).toArray x.ty (0,0)
def gn(x:Int):Prop:=0<=x/\x<18446744073709551616
instance(x:Int):Decidable (gn x):=inferInstanceAs(Decidable (_/\_))
def dG(l:List Int):Prop:= ∀x∈l,gn x
instance(l:List Int):Decidable (dG l):=inferInstanceAs(Decidable (∀x∈l,gn x))
def val:List Int->Int
  |[]=>0
  |x::H=>x+18446744073709551616*val H
structure fX(neg:Bool)(ws:List Int)(len:Nat)(v:Int):Prop where
  le:len<=ws.length
  cap:ws.length<=9223372036854775807
  mM:dG ws
  top:len=0∨ws.getD (len-1) 0≠0
  sign:neg=G->len≠0
  val:v=if neg=G then-val (ws.take len)else val (ws.take len)
def aae(w:ii)(b:Nat)(ty:es)(v:Int):Prop:=
  ∃
   (n:Bool)(u:Option Addr)(T F:Nat),w.heap[b]?=E (.cells #[.bool n,.slice u T F] ty (0,0))/\
   ((
    u=N/\T=0/\F=0/\n=A/\v=0)∨
    ∃h p L,u=E ⟨h,0,N⟩/\w.heap[h]?=E (.cells (p.map (ip.int .u64)).toArray L (0,0))/\p.length=F/\fX n p T v)
def JA(w:ii)(b:Nat):Option Nat:=
  match w.heap[b]? with
  |some (.cells o _ _)=>match o[1]? with
   |some (ip.slice (E a) _ _)=>E a.block
   |_=>N
  |_=>N
def uz(q:Nat->Nat)(w:ii)(b:Nat)(x:dI):Prop:=
  match x.c with
  | .dead=>True
  | .int v=>aae w b x.ty v
  |_=>w.heap[b]?=E (x.obj q)
def fp(w:ii)(b:Nat)(x:dI)(c:Nat):Prop:=
  match x.c with
  | .dead=>False
  | .int _=>c=b∨JA w b=E c
  |_=>c=b
def uz.kA{x:dI}(f:x.c.live=G):uz q w b x=(w.heap[b]?=E (x.obj q)):=by unfold uz;cases s:x.c<;>simp_all [eH.live]
def fp.kA{c:Nat}{x:dI}(f:x.c.live=G):fp w b x c=(c=b):=by unfold fp;cases s:x.c<;>simp_all [eH.live]
def fp.self{x:dI}(f:x.c.iQ=G):fp w b x b:=by unfold fp;cases s:x.c<;>simp_all [eH.iQ]
def fp.iQ{c:Nat}{x:dI}(h:fp w b x c):x.c.iQ=G:=by unfold fp at h;cases s:x.c<;>simp_all [eH.iQ]
def C6{c:eH}(h:c.live=G):c.iQ=G:=by cases c<;>simp_all [eH.live,eH.iQ]
def uz.lt{c:Nat}{x:dI}(h:uz q w b x)(F:fp w b x c):c<w.heap.size:=by
  have a: ∀{d:Nat}{o:Obj},w.heap[d]?=E o->d<w.heap.size:=λz=>(Co.1 z).1
  unfold uz fp at*;cases s:x.c with
  |dead=>rw[s]at F;exact F.elim
  |int v=>
   rw[s]at h F;obtain⟨n,u,T,f,H,e⟩:=h;rcases F with rfl|F
   .exact a H
   .rcases e with⟨rfl,_⟩ |⟨P,ws,L,rfl,S,_⟩
    .simp [JA,H]at F
    .simp [JA,H]at F;subst F;exact a S
  |lit l=>rw[s]at h F;subst F;exact a h
  |ws k l=>rw[s]at h F;subst F;exact a h
def uz.fq{x:dI}(h:uz q w b x)(R: ∀c,fp w b x c->a.heap[c]?=w.heap[c]?):
    uz q a b x/\ ∀c,fp a b x c↔fp w b x c:=by
  unfold uz fp at*;cases s:x.c with
  |dead=>exact⟨dD,λ_=>xN⟩
  |int v=>
   rw[s]at h R;simp only at h R⊢;have z:=R b (.inl K);have P:JA a b=JA w b:=by simp[JA,z]
   refine⟨?_,λc=>by rw[P]⟩;obtain⟨n,u,T,F,H,d⟩:=h;refine⟨n,u,T,F,by rw[z,H],?_⟩;rcases d with d|⟨P,ws,L,rfl,S,e⟩
   .exact .inl d
   .exact .inr ⟨P,ws,L,K,by rw[R P (.inr (by simp[JA,H])),S],e⟩
  |lit l=>rw[s]at h R;exact⟨by rw[R b K];exact h,λ_=>xN⟩
  |ws k l=>rw[s]at h R;exact⟨by rw[R b K];exact h,λ_=>xN⟩
structure jA(ρ:Nat->Nat)(m:dE)(w:ii):Prop where
  cells: ∀i x,m[i]?=E x->uz ρ w (ρ i) x
  inj: ∀i j x y c,m[i]?=E x->m[j]?=E y->fp w (ρ i) x c->fp w (ρ j) y c->i=j
  lt: ∀i,i<m.length->ρ i<w.heap.size
  next: ∀j,ρ (m.length+j)=w.heap.size+j
def jA.obj(h:jA q m w): ∀i x,m[i]?=E x->x.c.live=G->w.heap[q i]?=E (x.obj q):=λi x L f=>by
  have:=h.cells i x L
  rwa [uz.kA f]at this
def jA.aOx(h:jA q m w): ∀i j x y,m[i]?=E x->m[j]?=E y->x.c.iQ=G->y.c.iQ=G->q i=q j->i=j:=λi j x y L Q b k e=>h.inj i j x y (q i) L Q (fp.self b) (e▸fp.self k)
def jA.new(h:jA q m w)(i:Nat)(g:m.length<=i):w.heap.size<=q i:=by
  obtain⟨d,rfl⟩: ∃d,i=m.length+d:=⟨i-m.length,O⟩
  rw[h.next];omega
structure nG(S:Nat->Prop)(w w':ii):Prop where
  size:w.heap.size<=w'.heap.size
  fq: ∀b,b<w.heap.size-> ¬S b->w'.heap[b]?=w.heap[b]?
  os:w'.os=w.os
  output:w'.output=w.output
  tape:w'.tape=w.tape
def nG.refl(S:Nat->Prop)(w:ii):nG S w w:=⟨eT _,λ_ _ _=>rfl,K,K,K⟩
def nG.trans{z:ii}(h:nG S w a)(F:nG S a z):nG S w z:=
  ⟨mh h.size F.size,λb H v=>by rw[F.fq b (pY H h.size) v,h.fq b H v],
    F.os.trans h.os,F.output.trans h.output,F.tape.trans h.tape⟩
def nG.mono{q:Nat->Prop}(h:nG S w a)(v: ∀b,b<w.heap.size->S b->q b):nG q w a:=
  ⟨h.size,λb H x=>h.fq b H (λP=>x (v b H P)),h.os,h.output,h.tape⟩
def jA.draw(h:jA q m w)(n:Nat):jA q m {w with drawn:=n}:=⟨h.cells,h.inj,h.lt,h.next⟩
def nG.draw(n:Nat):nG S w {w with drawn:=n}:=⟨eT _,λ_ _ _=>rfl,K,K,K⟩
def kW(q:Nat->Nat)(m:dE)(w:ii)(b:Nat):Prop:=
  (∃i,i<m.length/\q i=b)∨ ∃i x,m[i]?=E x/\fp w (q i) x b
def jA.Wj(h:jA q m w)(H:kW q m w b):b<w.heap.size:=by
  rcases H with⟨i,g,rfl⟩ |⟨i,x,L,F⟩
  .exact h.lt i g
  .exact(h.cells i x L).lt F
structure qE(ρ:Nat->Nat)(m:dE)(w:ii)(ρ':Nat->Nat)(m':dE)(w':ii):Prop where
  ln: ∀i,i<m.length->ρ' i=ρ i
  len:m.length<=m'.length
  new: ∀b,kW ρ' m' w' b->w.heap.size<=b∨kW ρ m w b
  rel:jA ρ' m' w'
  iY:nG (kW ρ m w) w w'
def qE.refl(y:jA q m w):qE q m w q m w:=
  ⟨λ_ _=>rfl,eT _,λ_ h=> .inr h,y,.refl _ _⟩
def ur{q:Nat->Prop}{z:ii}(h:nG S w a)(F:nG q a z)(v: ∀b,q b->w.heap.size<=b∨S b):nG S w z:=by
  refine⟨mh h.size F.size,λb H x=>?_,F.os.trans h.os,F.output.trans h.output,F.tape.trans h.tape⟩;rw[F.fq b (pY H h.size) ?_,h.fq b H x];intro j;rcases v b j with M|M
  .omega
  .exact x M
def qE.trans{l d:Nat->Nat}{u j:dE}{S z:ii}(h:qE q m w l u S)(F:qE l u S d j z):qE q m w d j z:=by
  refine⟨λi g=>by rw[F.ln i (pY g h.len),h.ln i g],mh h.len F.len,λb H=>?_,F.rel,ur h.iY F.iY h.new⟩;rcases F.new b H with M|M
  .exact .inl (mh h.iY.size M)
  .exact h.new b M
def qE.draw(y:jA q m w)(n:Nat):qE q m w q m {w with drawn:=n}:=
  ⟨λ_ _=>rfl,eT _,λ_ h=> .inr h,y.draw n,.draw n⟩
def jA.push(h:jA q m w)(x:dI)(L:x.c.isInt=A):
    qE q m w q (m++[x]) {w with heap:=w.heap.push (x.obj q)}:=by
  have C:q m.length=w.heap.size:=by simpa using h.next 0
  have u: ∀i y,(m++[x])[i]?=E y->(i<m.length/\m[i]?=E y)∨(i=m.length/\y=x):=by
    intro i y Q;by_cases g:i<m.length
    .rw [oF g]at Q;exact .inl ⟨g,Q⟩
    .have f:i=m.length:=by have:=(fQ.1 Q).1;simp at this;omega
     subst f;rw[pP (eT _)]at Q;simp at Q;exact .inr ⟨K,Q.symm⟩
  have R: ∀c,c<w.heap.size->(w.heap.push (x.obj q))[c]?=w.heap[c]?:=λc s=>by simp only[Array.getElem?_push];rw[if_neg O]
  have p: ∀i y,m[i]?=E y->uz q {w with heap:=w.heap.push (x.obj q)} (q i) y/\ ∀c,fp {w with heap:=w.heap.push (x.obj q)} (q i) y c↔fp w (q i) y c:=λi y Q=>(h.cells i y Q).fq λc s=>R c ((h.cells i y Q).lt s)
  have r: ∀c,fp {w with heap:=w.heap.push (x.obj q)} (q m.length) x c->c=w.heap.size:=λc s=>by
    unfold fp at s;cases d:x.c with
    |dead=>rw[d]at s;exact s.elim
    |int v=>rw[d]at L;simp[eH.isInt]at L
    |lit l=>rw[d]at s;rw[s,C]
    |ws k l=>rw[d]at s;rw[s,C]
  have S:jA q (m++[x]) {w with heap:=w.heap.push (x.obj q)}:=by
    refine⟨λi y Q=>?_,λi j y z c Q o P T=>?_,λi g=>?_,λj=>?_⟩
    .rcases u i y Q with⟨g,Q⟩ |⟨rfl,rfl⟩
     .exact(p i y Q).1
     .unfold uz;cases d:y.c with
      |dead=>trivial
      |int v=>rw[d]at L;simp[eH.isInt]at L
      |lit l=>simp[C]
      |ws k l=>simp[C]
    .rcases u i y Q with⟨g,Q⟩ |⟨rfl,rfl⟩
     .rw [(p i y Q).2]at P;have a:=(h.cells i y Q).lt P;rcases u j z o with⟨n,o⟩ |⟨rfl,rfl⟩
      .rw [(p j z o).2]at T;exact h.inj i j y z c Q o P T
      .have:=r c T;omega
     .have e:=r c P;rcases u j z o with⟨n,o⟩ |⟨rfl,rfl⟩
      .rw [(p j z o).2]at T;have a:=(h.cells j z o).lt T;omega
      .rfl
    .simp only[gw,eI,fb,Array.size_push]at g⊢;by_cases f:i<m.length
     .have:=h.lt i f;omega
     .have:i=m.length:=O;subst this;omega
    .have:=h.next (1+j);simp only[gw,eI,fb,Array.size_push];rw[(O:m.length+(0+1)+j=m.length+(1+j)),this];omega
  refine⟨λ_ _=>rfl,Y,λb H=>?_,S,⟨Y,λb H _=>R b H,K,K,K⟩⟩;rcases H with⟨i,g,rfl⟩ |⟨i,y,Q,F⟩
  .by_cases f:i<m.length
   .exact .inr (.inl ⟨i,f,K⟩)
   .exact .inl (h.new i O)
  .rcases u i y Q with⟨g,Q⟩ |⟨rfl,rfl⟩
   .exact .inr (.inr ⟨i,y,Q,((p i y Q).2 b).1 F⟩)
   .exact .inl (by rw[r b F];exact eT _)
def jA.setRow(h:jA q m w){x:dI}(g:m[i]?=E x)(T:x.c.live=G)(o:eH)(R:o.isInt=A):
    qE q m w q (m.set i ⟨o,x.ty⟩) (w.setRow (q i) (dZ q o.list).toArray):=by
  have t:i<m.length:=(fQ.1 g).1
  have P: ∀j y c,j≠i->m[j]?=E y->fp w (q j) y c->(w.setRow (q i) (dZ q o.list).toArray).heap[c]?=w.heap[c]?:=λj y c H Q F=>by
    refine setRow_other w (q i) c _ λe=>H ?_
    exact h.inj j i y x c Q g F (by rw[fp.kA T];exact e)
  have p: ∀j y,j≠i->m[j]?=E y->uz q (w.setRow (q i) (dZ q o.list).toArray) (q j) y/\ ∀c,fp (w.setRow (q i) (dZ q o.list).toArray) (q j) y c↔fp w (q j) y c:=λj y H Q=>(h.cells j y Q).fq λc s=>P j y c H Q s
  have u: ∀c,fp (w.setRow (q i) (dZ q o.list).toArray) (q i) ⟨o,x.ty⟩ c->fp w (q i) x c:=λc s=>by
    rw[fp.kA T];unfold fp at s;cases o with
    |dead=>exact s.elim
    |int v=>simp[eH.isInt]at R
    |lit l=>exact s
    |ws k l=>exact s
  have n: ∀j y,(m.set i ⟨o,x.ty⟩)[j]?=E y->(j=i/\y=⟨o,x.ty⟩)∨(j≠i/\m[j]?=E y):=λj y Q=>by
    by_cases d:i=j
    .subst d;rw[qj t]at Q;cases Q;exact .inl ⟨K,K⟩
    .rw [lI d]at Q;exact .inr ⟨λe=>d e.symm,Q⟩
  have C: ∀j y c,(m.set i ⟨o,x.ty⟩)[j]?=E y->fp (w.setRow (q i) (dZ q o.list).toArray) (q j) y c-> ∃L,m[j]?=E L/\fp w (q j) L c:=λj y c Q F=>by
    rcases n j y Q with⟨rfl,rfl⟩ |⟨H,Q⟩
    .exact⟨x,g,u c F⟩
    .exact⟨y,Q,((p j y H Q).2 c).1 F⟩
  have S:jA q (m.set i ⟨o,x.ty⟩) (w.setRow (q i) (dZ q o.list).toArray):=by
    refine⟨λj y Q=>?_,λa b y z c Q hz ac ab=>?_,λj H=>?_,λj=>?_⟩
    .rcases n j y Q with⟨rfl,rfl⟩ |⟨H,Q⟩
     .have:=setRow_heap w (q j) _ (dZ q o.list).toArray x.ty (0,0) (h.obj j x g T);unfold uz;cases o with
      |dead=>trivial
      |int v=>simp[eH.isInt]at R
      |lit l=>exact this
      |ws k l=>exact this
     .exact(p j y H Q).1
    .obtain⟨L,f,ad⟩:=C a y c Q ac;obtain⟨z',M,r⟩:=C b z c hz ab;exact h.inj a b L z' c f M ad r
    .simp only[gU]at H;simpa[setRow_size]using h.lt j H
    .simp only[gU,setRow_size];exact h.next j
  refine⟨λ_ _=>rfl,Y,λb hb=> .inr ?_,S,⟨Y,λc _ hn=>?_,K,K,K⟩⟩
  .rcases hb with⟨j,H,rfl⟩ |⟨j,y,Q,F⟩
   .exact .inl ⟨j,by simpa using H,K⟩
   .obtain⟨L,f,aa⟩:=C j y b Q F;exact .inr ⟨j,L,f,aa⟩
  .exact setRow_other w (q i) c _ (λe=>hn (.inl ⟨i,t,e.symm⟩))
structure TD where
  size:Nat
  agg:Bool
  desc:TypeDesc
  zero:List V
variable{d:TD}
structure fw where
  kM:Nat->Option TD
  mw:Nat->Option Nat
  fn:Nat->Option (List V->dE->Option (V×dE×Bool))
  ext:Nat->Option (List V->Option (V×Bool))
  qf:Nat->Option (List V->dE->Option (V×Bool))
def Gd:TypeDesc->Bool
  | .struct _=>G
  | .array _ _=>G
  |_=>A
structure fz(P:Program)(t:Nat)(d:TD):Prop where
  deep: ∃k,P.depth=k+2
  YM:P.underlying t=E d.desc
  info: ∃i,P.info? t=E i/\i.size=d.size/\i.bytes<=65536/\ ∃z,i.zero=E z/\ ∀ρ,z.cells=(dZ ρ d.zero).toArray
  agg:d.agg=Gd d.desc
def iq(P:Program)(C:fw):Prop:= ∀t d,C.kM t=E d->fz P t d
section
variable{P:Program}{t:Nat}{d:TD}(h:fz P t d)(w:ii)
include h
theorem fz.run_underlying:(underlying t).run P w= .ok d.desc w:=pd h.YM w
theorem fz.run_sizeOf:(sizeOf t).run P w= .ok d.size w:=by obtain⟨i,g,v,_⟩:=h.info;simp[sizeOf,typeInfo,g,v]
theorem fz.vB:(isAgg t).run P w= .ok d.agg w:=by simp only[isAgg,fr,h.run_underlying,gv,h.agg];cases z:d.desc<;>simp[Gd]
theorem fz.ru: ∃z,(zeroValue t).run P w= .ok z w/\ ∀q,z.cells=(dZ q d.zero).toArray:=by obtain⟨i,g,_,_,z,o,s⟩:=h.info;exact⟨z,by simp[zeroValue,typeInfo,g,o],s⟩
end
def ofConst:ip->V
  | .int k n=> .i k n
  | .bool b=> .b b
  | .pointer N=> .p N
  | .slice N l c=> .s N l c
  |v=> .r v
theorem yJ(q:Nat->Nat)(v:ip):(ofConst v).ee q=v:=by unfold ofConst;split<;>simp[V.ee]
def eZ.get:eZ->Nat->Option V
  |[],_=>N
  |x::r,t=>bif Nat.beq x.1 t then E x.2 else eZ.get r t
def fC(C:fw)(e:eZ):Operand->Option V
  | .tmp t=>e.get t
  | .const v=>E (ofConst v)
  | .global g=>(C.mw g).map λi=> .p (E (i,0))
  | .func f=>E (.r (.func (.func f) #[] #[]))
def ik(q:Nat->Nat)(e:eZ)(a:Act):Prop:= ∀t v,e.get t=E v->a.tmps[t]?=E (v.ee q)
def OQ(q:Nat->Nat)(R:Nat->Option Nat)(m:Nat):Prop:= ∀g i,R g=E i->i<m/\q i=g
abbrev Gl(q:Nat->Nat)(C:fw)(m:Nat):Prop:=OQ q C.mw m
theorem ff{q:Nat->Nat}{C:fw}{e:eZ}{a:Act}{m:Nat}(j:ik q e a)(p:Gl q C m){x:Operand}{v:V}(h:fC C e x=E v):
    a.eval x=v.ee q:=by
  cases x with
  |tmp t=>
   have:=j t v h;simp[Act.eval,Rd,this]
  |const c=>simp only[fC,eJ]at h;subst h;simp[Act.eval,yJ]
  |global g=>
   simp only[fC,PO]at h;obtain⟨i,b,rfl⟩:=h;simp[Act.eval,V.ee,pI,(p g i b).2]
  |func f=>simp only[fC,eJ]at h;subst h;rfl
def eA(H:BinOp)(k:U)(x y:Int):Int:=
  let a:=BitVec.ofInt k.bits x;let b:=BitVec.ofInt k.bits y
  match H with
  | .and=>k.wrap (a&&&b).toNat
  | .or=>k.wrap (a|||b).toNat
  | .xor=>k.wrap (a^^^b).toNat
  |_=>k.wrap (a&&& ~~~b).toNat
def Ul(H:BinOp)(k:U)(x y:Int):Option (V×Bool):=
  match H with
  | .add=>E (.i k (k.wrap (x+y)),G)
  | .sub=>E (.i k (k.wrap (x-y)),G)
  | .mul=>E (.i k (k.wrap (x*y)),G)
  | .quo=>E (.i k (k.wrap (x.tdiv y)),y !=0)
  | .rem=>E (.i k (x.tmod y),y !=0)
  | .and=>E (.i k (eA .and k x y),G)
  | .or=>E (.i k (eA .or k x y),G)
  | .xor=>E (.i k (eA .xor k x y),G)
  | .andNot=>E (.i k (eA .andNot k x y),G)
  | .eql=>E (.b (x==y),G)
  | .neq=>E (.b (x !=y),G)
  | .lss=>E (.b (D (x<y)),G)
  | .leq=>E (.b (D (x<=y)),G)
  | .gtr=>E (.b (D (x>y)),G)
  | .geq=>E (.b (D (x≥y)),G)
  |_=>N
def FF(H:BinOp)(k:U)(x y:Int):Option (V×Bool):=
  match H with
  | .shl=>E (.i k (k.wrap (x*2^(min y.toNat k.bits))),D (0<=y))
  | .shr=>E (.i k (x.fdiv (2^(min y.toNat k.bits))),D (0<=y))
  |_=>N
def A7:BinOp->Bool
  | .shl=>G
  | .shr=>G
  |_=>A
def uA:U->U->Bool
  | .i8,.i8=>G
  | .i16,.i16=>G
  | .i32,.i32=>G
  | .i64,.i64=>G
  | .u8,.u8=>G
  | .u16,.u16=>G
  | .u32,.u32=>G
  | .u64,.u64=>G
  |_,_=>A
theorem sW{a b:U}(h:uA a b=G):a=b:=by cases a<;>cases b<;>simp_all [uA]
def adl(H:UnOp):V->Option V
  | .i k n=>match H with
    | .neg=>E (.i k (k.wrap (0-n)))
    | .xor=>E (.i k (eA .xor k (if k.signed then-1 else k.max) n))
    |_=>N
  | .b x=>match H with
    | .not=>E (.b !x)
    |_=>N
  |_=>N
def dH(a n s:Nat):Nat:=bif Nat.beq s 1 then(bif Nat.beq a 0 then n else a+n)else a+n*s
theorem eE(a n s:Nat):dH a n s=a+n*s:=by
  unfold dH;cases h:Nat.beq s 1 with
  |false=>rfl
  |true=>
   have:=iB h;subst this;cases F:Nat.beq a 0 with
   |false=>simp
   |true=>
    have:=iB F;subst this;simp
def ed(a b:Bool):Bool:=match b with|true=>a|false=>A
theorem IU{a b:Bool}(h:ed a b=G):a=G/\b=G:=by cases a<;>cases b<;>simp_all [ed]
def lf(C:fw)(e:eZ)(x:Option Operand)(q i:Nat):Option (Nat×Bool):=
  match x with
  |none=>E (q,D (q<=i))
  |some x=>match fC C e x with
   |some (.i _ n)=>E (n.toNat,D (0<=n/\n<=i))
   |_=>N
def vg(d:TD)(l:List V)(j:Nat):Option (V×Bool):=
  bif d.agg then E (.g ((l.drop j).take d.size),D (j+d.size<=l.length))else(match l[j]? with|some v=>E (v,G) |none=>N)
def zD(d:TD)(c:eH)(j:Nat):Option (V×Bool):=
  match c with
  | .lit l=>vg d l j
  | .ws k l=>bif d.agg then E (.g (((l.drop j).take d.size).map (V.i k)),D (j+d.size<=l.length))else E (.i k (l.getD j 0),D (j<l.length))
  |_=>N
theorem I1{c:eH}{v:V×Bool}(h:zD d c j=E v):c.live=G:=by
  cases c with
  |dead=>cases h
  |int v=>cases h
  |_=>rfl
def eO(o F l s:Nat):Nat:=bif Nat.beq l 0 then o else if F=l then o else o+l*s
theorem uM(o F l s:Nat):eO o F l s=if F=l then o else o+l*s:=by
  unfold eO;cases h:Nat.beq l 0 with
  |true=>
   have:=iB h;subst this;simp
  |false=>simp
def iu(C:fw)(m:dE)(e:eZ)(o:Op):Option (V×Bool):=
  match o with
  | .move x=>match fC C e x with|some v=>E (v,G) |none=>N
  | .assign x=>match fC C e x with|some v=>E (v,G) |none=>N
  | .load t a=>match fC C e a,C.kM t with
    |some (.p (E a)),E d=>match m[a.1]? with
     |some x=>zD d x.c a.2
     |none=>N
    |_,_=>N
  | .nilCheck x=>match fC C e x with
    |some (.p (E a))=>E (.p (E a),G)
    |_=>N
  | .binOp H _ x y _=>match fC C e x,fC C e y with
    |some (.i k a),E (.i z b)=>bif A7 H then FF H k a b else bif uA k z then Ul H k a b else N
    |_,_=>N
  | .unOp H _ x=>match fC C e x with
    |some v=>match adl H v with|some v=>E (v,G) |none=>N
    |none=>N
  | .convert S M x=>match C.kM S,C.kM M,fC C e x with
    |some _,E d,E (.i _ n)=>match d.desc with
     | .int z=>E (.i z (z.wrap n),G)
     |_=>N
    |_,_,_=>N
  | .slice t x i g N=>match C.kM t,fC C e x with
    |some d,E (.p (E a))=>match d.desc with
     | .array n j=>match C.kM j,lf C e g n n with
       |some Q,E (h,R)=>match lf C e i 0 h with
        |some (l,L)=>E (.s (E (a.1,eO a.2 n l Q.size)) (h-l) (n-l),ed R L)
        |none=>N
       |_,_=>N
     |_=>N
    |some d,E (.s (E a) T F)=>match d.desc with
     | .slice j=>match C.kM j,lf C e g T F with
       |some Q,E (h,R)=>match lf C e i 0 h with
        |some (l,L)=>E (.s (E (a.1,eO a.2 F l Q.size)) (h-l) (F-l),ed R L)
        |none=>N
       |_,_=>N
     |_=>N
    |some d,E (.s N T F)=>match d.desc with
     | .slice j=>match C.kM j,lf C e g T F with
       |some _,E (h,R)=>match lf C e i 0 h with
        |some (l,L)=>E (.s N (h-l) (F-l),ed R L)
        |none=>N
       |_,_=>N
     |_=>N
    |_,_=>N
  | .indexAddr t x p=>match C.kM t,fC C e x,fC C e p with
    |some d,E (.p (E a)),E (.i _ n)=>match d.desc with
     | .array T j=>match C.kM j with
       |some Q=>E (.p (E (a.1,dH a.2 n.toNat Q.size)),D (0<=n/\n<T))
       |none=>N
     |_=>N
    |some d,E (.s (E a) T _),E (.i _ n)=>match d.desc with
     | .slice j=>match C.kM j with
       |some Q=>E (.p (E (a.1,dH a.2 n.toNat Q.size)),D (0<=n/\n<T))
       |none=>N
     |_=>N
    |_,_,_=>N
  | .index t x p=>match C.kM t,fC C e x,fC C e p with
    |some d,E (.g l),E (.i _ n)=>match d.desc with
     | .array T j=>match C.kM j with
       |some Q=>match vg Q l (dH 0 n.toNat Q.size)with
        |some (v,o)=>E (v,ed o (D (0<=n/\n<T)))
        |none=>N
       |none=>N
     |_=>N
    |_,_,_=>N
  | .fieldAddr t x f=>match C.kM t,fC C e x with
    |some d,E (.p (E a))=>match d.desc with
     | .struct q=>match q[f]? with
       |some fd=>match C.kM fd.type with
        |some s=>E (.p (E (a.1,dH a.2 fd.offset 1)),D (s.size≠0))
        |none=>N
       |none=>N
     |_=>N
    |_,_=>N
  | .field t x f=>match C.kM t,fC C e x with
    |some d,E (.g l)=>match d.desc with
     | .struct q=>match q[f]? with
       |some fd=>match C.kM fd.type with
        |some s=>vg s l fd.offset
        |none=>N
       |none=>N
     |_=>N
    |_,_=>N
  | .extract x p=>match fC C e x with
    |some (.t l)=>match l[p]? with|some v=>E (v,G) |none=>N
    |_=>N
  | .call c=>match c.callee with
    | .builtin .len=>match c.args.toList,c.argTypes.toList with
      |[x],[t]=>match C.kM t,fC C e x with
       |some d,E (.s _ n _)=>match d.desc with
        | .slice _=>E (.i .i64 n,G)
        |_=>N
       |_,_=>N
      |_,_=>N
    | .builtin .cap=>match c.args.toList,c.argTypes.toList with
      |[x],[t]=>match C.kM t,fC C e x with
       |some d,E (.s _ _ n)=>match d.desc with
        | .slice _=>E (.i .i64 n,G)
        |_=>N
       |_,_=>N
      |_,_=>N
    |_=>N
  |_=>N
theorem nE(q:Nat->Nat)(a:Nat×Nat)(n:Nat):(pI q a).add n=pI q (a.1,a.2+n):=by
  unfold Addr.add pI;split
  .subst n;rfl
  .rfl
theorem jA.cell(h:jA q m w){x:dI}(H:m[b]?=E x)(f:x.c.live=G)(j:Nat):
    w.cell? (pI q (b,j))=(dZ q x.c.list)[j]?:=by
  simp[ii.cell?,pI,h.obj b x H f,dI.obj]
theorem gC(q:Nat->Nat)(l:List V):(dZ q l).length=l.length:=by rw[lX];simp
theorem vV{l:List V}(h:l[j]?=E v):(dZ q l)[j]?=E (v.ee q):=by rw[lX];simp[h]
theorem H8(q:Nat->Nat)(l:List V)(j n:Nat):dZ q ((l.drop j).take n)=((dZ q l).drop j).take n:=by simp[lX,Mx,Ew]
theorem HD{t:Nat}(h:fz P t d)(q:Nat->Nat)(l:List V)(j:Nat)(Q:vg d l j=E (v,G))(w:ii):
    (part t (dZ q l).toArray j).run P w= .ok (v.ee q) w:=by
  unfold vg at Q;simp only[part,fr,h.vB,gv];cases z:d.agg with
  |true=>
   rw[z]at Q;simp only[gq,eJ,ef,eG]at Q;obtain⟨rfl,e⟩:=Q;simp only[oH,fr,h.run_sizeOf,gv,iV,V.ee,H8]
   congr 2
   apply nh;simp[List.take_drop]
  |false=>
   rw[z]at Q;simp only[gr]at Q;split at Q
   .rename_i u F;cases Q;have:(dZ q l).toArray[j]?=E (v.ee q):=by simp[vV F]
    simp only[oP,kT,this];rfl
   .cases Q
theorem Cp{t:Nat}(h:fz P t d)(y:jA q m w){a:Nat×Nat}{x:dI}(H:m[a.1]?=E x)(Q:zD d x.c a.2=E (v,G)):(Instr.loadAt t (.pointer (E (pI q a)))).run P w= .ok (v.ee q) w:=by
  have i:=I1 Q
  have b: ∀u:V,vg d x.c.list a.2=E (u,G)->(Instr.loadAt t (.pointer (E (pI q a)))).run P w= .ok (u.ee q) w:=by
    intro u Q;unfold vg at Q;simp only[Instr.loadAt,Instr.sureAddr,loadVar,fr,iV,gv,h.vB];cases z:d.agg with
    |true=>
     rw[z]at Q;simp only[gq,eJ,ef,eG]at Q;obtain⟨rfl,e⟩:=Q;simp only[oH,fr,h.run_sizeOf,gv,iV,V.ee];have f:(dZ q ((x.c.list.drop a.2).take d.size)).length=d.size:=by rw[gC];simp;omega
     have:=run_loadCells_list (P:=P) w (pI q a) (dZ q ((x.c.list.drop a.2).take d.size)) (λj u c=>by
       rw[nE,y.cell H i];rw[H8]at c;simp only[nF,jY]at c;split at c
       .exact c
       .cases c)
     rw[f]at this;rw[this];rfl
    |false=>
     rw[z]at Q;simp only[gr]at Q;split at Q
     .rename_i T F;cases Q;simp only[oP,kT]
      have M:w.cell? (pI q a)=E (u.ee q):=by have:=y.cell H i a.2;rw[show((a.1,a.2):Nat×Nat)=a from K]at this;rw[this,vV F]
      rw[run_load,M]
     .cases Q
  unfold zD at Q;split at Q
  .rename_i l s;refine b v ?_;rw[s];exact Q
  .rename_i k l s;refine b v ?_;rw[s];unfold vg;cases z:d.agg with
   |true=>
    rw[z]at Q;simp only[gq,eJ,ef,eG]at Q⊢;obtain⟨rfl,e⟩:=Q;simp[eH.list,Mx,Ew,e]
   |false=>
    rw[z]at Q;simp only[gr,eJ,ef,eG]at Q⊢;obtain⟨rfl,e⟩:=Q;simp[eH.list,List.getD,e]
  .cases Q
theorem nP{k:U}{n:Int}{y:Nat}(c:BoundsCode)(h:0<=n/\n<=y):
    (Instr.sliceBound (.int k n) y c).run P w= .ok n.toNat w:=by
  simp[Instr.sliceBound,asIntOf,h]
theorem oT{C:fw}{e:eZ}{a:Act}{m:Nat}(j:ik q e a)(p:Gl q C m)(H:Bool){T F:Nat}{i g:Option Operand}{h l:Nat}(b:lf C e g T F=E (h,G))(f:lf C e i 0 h=E (l,G)):
    (Instr.sliceBounds H T F (i.map a.eval) (g.map a.eval) N).run P w= .ok (l,h,F) w:=by
  cases g with
  |none=>
   simp only[lf,eJ,ef,eG]at b;obtain⟨rfl,_⟩:=b;cases i with
   |none=>
    simp only[lf,eJ,ef,eG]at f;obtain⟨rfl,_⟩:=f;simp[Instr.sliceBounds]
   |some y=>
    simp only[lf]at f;split at f
    .rename_i k n L;simp only[eJ,ef,eG]at f;obtain⟨rfl,s⟩:=f;simp[Instr.sliceBounds,ff j p L,V.ee,nP _ s]
    .cases f
  |some x=>
   simp only[lf]at b;split at b
   .rename_i k n L;simp only[eJ,ef,eG]at b;obtain⟨rfl,s⟩:=b;cases i with
    |none=>
     simp only[lf,eJ,ef,eG]at f;obtain⟨rfl,_⟩:=f;simp[Instr.sliceBounds,ff j p L,V.ee,nP _ s]
    |some y=>
     simp only[lf]at f;split at f
     .rename_i z u Q;simp only[eJ,ef,eG]at f;obtain⟨rfl,r⟩:=f;simp[Instr.sliceBounds,ff j p L,ff j p Q,V.ee,nP _ s,nP _ r]
     .cases f
   .cases b
def O8{k:U}{x y:Int}(t:es)(b:A7 H=A)(h:Ul H k x y=E (v,G))(ρ:Nat->Nat):
    (Go.binOp H t (.int k x) (.int k y)).run P w= .ok (v.ee ρ) w:=by
  cases H<;>simp only[Ul,A7,eJ,ef,im]at h b<;>
    first
      |(cases b;done)
      |(subst h;simp[Go.binOp,Op.intArith,Op.intBits,Op.intCmp,eA,V.ee];done)
      |(
       obtain⟨rfl,Q⟩:=h;have i:y≠0:=by simpa using Q
       simp[Go.binOp,Op.intDiv,i,V.ee])
def Ic{k z:U}{x y:Int}(t:es)(h:FF H k x y=E (v,G))(ρ:Nat->Nat):
    (Go.binOp H t (.int k x) (.int z y)).run P w= .ok (v.ee ρ) w:=by
  have b:(H= .shl/\v= .i k (k.wrap (x*2^(min y.toNat k.bits)))/\0<=y)∨(H= .shr/\v= .i k (x.fdiv (2^(min y.toNat k.bits)))/\0<=y):=by
    unfold FF at h;split at h
    .simp only[eJ,ef,eG]at h;exact .inl ⟨K,h.1.symm,h.2⟩
    .simp only[eJ,ef,eG]at h;exact .inr ⟨K,h.1.symm,h.2⟩
    .cases h
  rcases b with⟨rfl,rfl,Q⟩ |⟨rfl,rfl,Q⟩
  .have i: ¬y<0:=O;simp[Go.binOp,Op.shift,i,V.ee]
  .have i: ¬y<0:=O;simp[Go.binOp,Op.shift,i,V.ee]
def AU{y:Operand}{k z:U}{a b:Int}:
    (eqGuard H t x y (.int k a) (.int z b)).run P w= .ok () w:=by
  unfold eqGuard;simp
def QZ{H:UnOp}{x:V}(h:adl H x=E v)(ρ:Nat->Nat):
    (Op.unary H (x.ee ρ)).run P w= .ok (v.ee ρ) w:=by
  cases x<;>cases H<;>simp only[adl]at h<;>first
    |cases h;done
    |(cases h;simp[V.ee,Op.unary,Op.intArith,Op.intBits,eA])
section
variable{P:Program}{C:fw}{ρ:Nat->Nat}{m:dE}{e:eZ}{a:Act}{w:ii}
def Wo(r:iq P C)(y:jA ρ m w)(j:ik ρ e a)(p:Gl ρ C m.length)(h:iu C m e (.load t x)=E (v,G)):(Instr.loadAt t (a.eval x)).run P w= .ok (v.ee ρ) w:=by
  simp only[iu]at h;split at h
  .rename_i l d M z;split at h
   .rename_i b H;rw[ff j p M];exact Cp (r _ _ z) y H h
   .cases h
  .cases h
def ajj(j:ik ρ e a)(c:Gl ρ C m.length){d:es}{y:Operand}(h:iu C m e (.binOp H t x y d)=E (v,G)):
    ((do eqGuard H t x y (a.eval x) (a.eval y);Go.binOp H t (a.eval x) (a.eval y):Sem ip)).run P w= .ok (v.ee ρ) w:=by
  simp only[iu]at h;split at h
  .rename_i k p z q M i;rw[ff j c M,ff j c i];simp only[fr,V.ee,AU,gv];cases b:A7 H with
   |true=>rw[b]at h;exact Ic _ h ρ
   |false=>
    rw[b]at h;simp only[gr]at h;cases R:uA k z with
    |false=>rw[R]at h;cases h
    |true=>
     rw[R]at h;have:=sW R;subst this;exact O8 _ b h ρ
  .cases h
def VK(r:iq P C)(j:ik ρ e a)(p:Gl ρ C m.length){s:es}(h:iu C m e (.convert s t x)=E (v,G)):(Go.convert s t (a.eval x)).run P w= .ok (v.ee ρ) w:=by
  simp only[iu]at h;split at h
  .rename_i c d k n M S l;split at h
   .rename_i z b;cases h;rw[ff j p l];simp only[V.ee,convert,fr,(r _ _ M).run_underlying,(r _ _ S).run_underlying,b,gv];simp[Conv.intToInt]
   .cases h
  .cases h
def dN{a b:Bool}(h:ed a b=G):a=G/\b=G:=IU h
def RG(r:iq P C)(j:ik ρ e a)(p:Gl ρ C m.length){i g:Option Operand}(h:iu C m e (.slice t x i g N)=E (v,G)):(Instr.sliceAt t (a.eval x) (i.map a.eval) (g.map a.eval) N).run P w= .ok (v.ee ρ) w:=by
  simp only[iu]at h;split at h
  .rename_i d o M S;split at h
   .rename_i n k z;split at h
    .rename_i Q f R b u;split at h
     .rename_i l L y;simp only[eJ,ef]at h;obtain⟨rfl,F⟩:=h;obtain⟨rfl,rfl⟩:=dN F;rw[ff j p S]
      simp only[Instr.sliceAt,fr,(r _ _ M).run_underlying,z,gv,V.ee,oQ,Instr.sureAddr,iV,
        oT j p A u y,(r _ _ b).run_sizeOf]
      rw[uM]
      congr 3
      split<;>simp[nE,eE]
     .cases h
    .cases h
   .cases h
  .rename_i d o T c M S;split at h
   .rename_i k z;split at h
    .rename_i Q f R b u;split at h
     .rename_i l L y;simp only[eJ,ef]at h;obtain⟨rfl,F⟩:=h;obtain⟨rfl,rfl⟩:=dN F;rw[ff j p S]
      simp only[Instr.sliceAt,Instr.slice,fr,(r _ _ M).run_underlying,z,gv,V.ee,oQ,iV,
        oT j p G u y,(r _ _ b).run_sizeOf]
      rw[uM]
      congr 3
      split<;>simp[nE,eE]
     .cases h
    .cases h
   .cases h
  .rename_i d T c M S;split at h
   .rename_i k z;split at h
    .rename_i Q f R b u;split at h
     .rename_i l L y;simp only[eJ,ef]at h;obtain⟨rfl,F⟩:=h;obtain⟨rfl,rfl⟩:=dN F;rw[ff j p S]
      simp only[Instr.sliceAt,Instr.slice,fr,(r _ _ M).run_underlying,z,gv,V.ee,M6,iV,
        oT j p G u y,(r _ _ b).run_sizeOf]
      congr 3
      split<;>rfl
     .cases h
    .cases h
   .cases h
  .cases h
def F4(r:iq P C)(j:ik ρ e a)(p:Gl ρ C m.length){R:Operand}(h:iu C m e (.indexAddr t x R)=E (v,G)):(Instr.indexAt t (a.eval x) (a.eval R)).run P w= .ok (v.ee ρ) w:=by
  simp only[iu]at h;split at h
  .rename_i d b k n M S l;split at h
   .rename_i T g z;split at h
    .rename_i Q u;simp only[eJ,ef,eG]at h;obtain⟨rfl,s⟩:=h;rw[ff j p S,ff j p l];simp only[Instr.indexAt,fr,V.ee,asIntOf,iV,gv,(r _ _ M).run_underlying,z,Instr.sureAddr,oQ];simp[s,(r _ _ u).run_sizeOf,nE,eE]
    .cases h
   .cases h
  .rename_i d b T F k n M S l;split at h
   .rename_i g z;split at h
    .rename_i Q u;simp only[eJ,ef,eG]at h;obtain⟨rfl,s⟩:=h;rw[ff j p S,ff j p l];simp only[Instr.indexAt,fr,V.ee,asIntOf,iV,gv,(r _ _ M).run_underlying,z,oQ];simp[s,(r _ _ u).run_sizeOf,nE,eE]
    .cases h
   .cases h
  .cases h
def SU(r:iq P C)(j:ik ρ e a)(p:Gl ρ C m.length){R:Operand}(h:iu C m e (.index t x R)=E (v,G)):(Instr.index t (a.eval x) (a.eval R)).run P w= .ok (v.ee ρ) w:=by
  simp only[iu]at h;split at h
  .rename_i d l k n M S c;split at h
   .rename_i T g z;split at h
    .rename_i Q b;split at h
     .rename_i u o y;simp only[eJ,ef]at h;obtain⟨rfl,F⟩:=h;obtain⟨rfl,s⟩:=dN F;simp only[eG]at s;rw[ff j p S,ff j p c];rw[eE,ir]at y;simp only[Instr.index,fr,V.ee,asIntOf,iV,gv,(r _ _ M).run_underlying,z];simp only[s,and_self,oH,fr,(r _ _ b).run_sizeOf,gv,HD (r _ _ b) ρ l _ y]
     .cases h
    .cases h
   .cases h
  .cases h
def G5(r:iq P C)(j:ik ρ e a)(p:Gl ρ C m.length){f:Nat}(h:iu C m e (.fieldAddr t x f)=E (v,G)):(Instr.fieldAt t (a.eval x) f).run P w= .ok (v.ee ρ) w:=by
  simp only[iu]at h;split at h
  .rename_i d c M S;split at h
   .rename_i q z;split at h
    .rename_i fd b;split at h
     .rename_i s l;simp only[eJ,ef,eG]at h;obtain⟨rfl,o⟩:=h;rw[ff j p S]
      simp only[Instr.fieldAt,fr,(r _ _ M).run_underlying,z,gv,b,V.ee,oQ,Instr.sureAddr,iV,fieldPlace,
        (r _ _ l).run_sizeOf,o,kT,nE,eE,jq]
     .cases h
    .cases h
   .cases h
  .cases h
def QS(r:iq P C)(j:ik ρ e a)(p:Gl ρ C m.length){f:Nat}(h:iu C m e (.field t x f)=E (v,G)):(Instr.field t (a.eval x) f).run P w= .ok (v.ee ρ) w:=by
  simp only[iu]at h;split at h
  .rename_i d l M S;split at h
   .rename_i q z;split at h
    .rename_i fd b;split at h
     .rename_i s c;rw[ff j p S];simp only[Instr.field,fr,(r _ _ M).run_underlying,z,gv,b,V.ee,asAgg,iV,HD (r _ _ c) ρ l _ h]
     .cases h
    .cases h
   .cases h
  .cases h
def Lj(j:ik ρ e a)(p:Gl ρ C m.length)(h:iu C m e (.extract x i)=E (v,G)):(Instr.extract (a.eval x) i).run P w= .ok (v.ee ρ) w:=by
  simp only[iu]at h;split at h
  .rename_i l M;split at h
   .rename_i u F;cases h;rw[ff j p M];have:(dZ ρ l).toArray[i]?=E (v.ee ρ):=by simp[vV F]
    simp[Instr.extract,V.ee,this]
   .cases h
  .cases h
def W9(r:iq P C)(hr:jA ρ m w)(j:ik ρ e a)(p:Gl ρ C m.length)(h:iu C m e o.op=E (v,G)):(execOp a.eval o).run P w= .ok (.value (v.ee ρ)) w:=by
  have T:= @ff ρ C e a m.length j p;obtain⟨ab,H,ty,aa,R,guard⟩:=o;simp only at h;unfold execOp;simp only;cases H with
  |move x=>
   simp only[iu]at h;split at h
   .rename_i u F;cases h;simp[T F]
   .cases h
  |assign x=>
   simp only[iu]at h;split at h
   .rename_i u F;cases h;simp[T F]
   .cases h
  |load t x=>simp only[fr,Wo r hr j p h];rfl
  |nilCheck x=>
   simp only[iu]at h;split at h
   .rename_i ad M;cases h;simp[T M,V.ee]
   .cases h
  |binOp H t x y t'=>
   have:=ajj (P:=P) (w:=w) j p h;simp only[fr]at this⊢;rw[this];rfl
  |unOp H t x=>
   simp only[iu]at h;split at h
   .rename_i u F;split at h
    .rename_i u' l;cases h;simp only[fr,T F,QZ l ρ];rfl
    .cases h
   .cases h
  |convert s t x=>simp only[fr,VK r j p h];rfl
  |slice t x lo hi mx=>
   cases mx with
   |none=>simp only[fr,M6,RG r j p h];rfl
   |some _=>simp[iu]at h
  |indexAddr t x ix=>simp only[fr,F4 r j p h];rfl
  |index t x ix=>simp only[fr,SU r j p h];rfl
  |fieldAddr t x f=>simp only[fr,G5 r j p h];rfl
  |field t x f=>simp only[fr,QS r j p h];rfl
  |extract x i=>simp only[fr,Lj j p h];rfl
  |call c=>
   obtain⟨ga,xs,g⟩:=c;simp only[iu]at h;split at h
   .split at h
    .rename_i x t L q;split at h
     .rename_i d b n cp k S;split at h
      .rename_i el z;cases h;have M:xs= #[x]:=by rw[<-sa];simpa using L
       have Q:g= #[t]:=by rw[<-sa];simpa using q
       subst M;subst Q;simp[resolve,invoke,builtin,Builtin.len_,T S,V.ee,(r _ _ k).run_underlying,z,goInt]
      .cases h
     .cases h
    .cases h
   .split at h
    .rename_i x t L q;split at h
     .rename_i d b n cp k S;split at h
      .rename_i el z;cases h;have M:xs= #[x]:=by rw[<-sa];simpa using L
       have Q:g= #[t]:=by rw[<-sa];simpa using q
       subst M;subst Q;simp[resolve,invoke,builtin,Builtin.cap_,T S,V.ee,(r _ _ k).run_underlying,z,goInt]
      .cases h
     .cases h
    .cases h
   .cases h
  |_=>simp[iu]at h
end
def vF(k:U):List V->Option (List Int)
  |[]=>E []
  | .i z n::r=>bif uA k z then(match vF k r with|some l=>E (n::l) |none=>N)else N
  |_=>N
def Ls(C:fw)(m:dE)(t:Nat)(x y:V):Option Bool:=
  match C.kM t with
  |some d=>match d.desc,x,y with
   | .bool,.b a,.b b=>E (a==b)
   | .pointer _,.p N,.p b=>E b.isNone
   | .pointer _,.p (E _),.p N=>E A
   | .pointer g,.p (E a),.p (E b)=>match C.kM g,m[a.1]?,m[b.1]? with
     |some Q,E F,E i=>bif !(Nat.beq Q.size 0)&&F.c.live&&i.c.live then E (Nat.beq a.1 b.1&&Nat.beq a.2 b.2)else N
     |_,_,_=>N
   | .slice _,.s N _ _,.s b _ _=>E b.isNone
   | .slice _,.s (E _) _ _,.s N _ _=>E A
   | .interface _,.r .nilIface,.y _ _=>E A
   | .interface _,.y _ _,.r .nilIface=>E A
   | .array n g,.g l,.g c=>match C.kM g with
     |some Q=>match Q.desc with
      | .int k=>match vF k l,vF k c with
        |some a,E b=>bif Nat.beq a.length n&&Nat.beq b.length n&&Nat.beq Q.size 1 then E (a==b)else N
        |_,_=>N
      |_=>N
     |none=>N
   |_,_,_=>N
  |none=>N
def isConst:Operand->Bool
  | .const _=>G
  |_=>A
def Ab{α:Type}:Nat->List α->List α->List α
  |_,[],l=>l
  |off,v::L,l=>Ab (off+1) L (l.set off v)
def vR:List V->Bool
  |[]=>G
  |x::r=>x.one&&vR r
def sE(y:Nat->Option (Nat×Nat))(q:List V):List (Nat×V)->Option (List V)
  |[]=>E q
  |(i,v)::r=>match y i with
   |some (j,Q)=>bif Nat.beq v.cells.length Q&&Nat.ble (j+v.cells.length) q.length&&vR v.cells then
      sE y (Ab j v.cells q) r else N
   |none=>N
def yj(C:fw)(e:eZ):List (Nat×Operand)->Option (List (Nat×V))
  |[]=>E []
  |(i,x)::r=>match fC C e x,yj C e r with
   |some v,E l=>E ((i,v)::l)
   |_,_=>N
def za(C:fw):List Field->Bool
  |[]=>G
  |f::r=>(C.kM f.type).isSome&&za C r
def GK(C:fw)(t:Nat)(H:List (Nat×V)):Option V:=
  match C.kM t with
  |some d=>match d.desc with
   | .struct q=>bif za C q.toList then match sE (λi=>match q[i]? with|some f=>(match C.kM f.type with|some s=>E (f.offset,s.size) |none=>N) |none=>N) d.zero H with
     |some l=>E (.g l)
     |none=>N else N
   | .array _ g=>match C.kM g with
     |some Q=>match sE (λi=>E (i*Q.size,Q.size)) d.zero H with
      |some l=>E (.g l)
      |none=>N
     |none=>N
   |_=>N
  |none=>N
def Cz(C:fw)(m:dE)(e:eZ)(o:Op):Option (V×Bool):=
  match o with
  | .pick c x y=>match fC C e c with
    |some (.b d)=>match(match d with|true=>fC C e x|false=>fC C e y)with
     |some v=>E (v,G)
     |none=>N
    |_=>N
  | .slice t x (E i) (E g) (E k)=>match C.kM t,fC C e x,fC C e i,fC C e g,fC C e k with
    |some d,E (.s (E a) _ F),E (.i _ l),E (.i _ h),E (.i _ q)=>match d.desc with
     | .slice j=>match C.kM j with
       |some Q=>E (.s (E (a.1,dH a.2 l.toNat Q.size)) (h.toNat-l.toNat) (q.toNat-l.toNat),D (0<=l/\l<=h/\h<=q/\q<=F/\l<q))
       |none=>N
     |_=>N
    |_,_,_,_,_=>N
  | .index t x R=>match C.kM t,fC C e x,fC C e R with
    |some d,E (.r (.string s)),E (.i _ n)=>match d.desc with
     | .string=>E (.i .u8 (s.data.toList.getD n.toNat 0).toNat,D (0<=n/\n<s.data.toList.length))
     |_=>N
    |_,_,_=>N
  | .binOp f t x y _=>match f,fC C e x,fC C e y with
    | .eql,E (.r .nilIface),E (.r .nilIface)=>match C.kM t with
      |some d=>match d.desc with
       | .interface _=>bif isConst x||isConst y then E (.b G,G)else N
       |_=>N
      |none=>N
    | .neq,E (.r .nilIface),E (.r .nilIface)=>match C.kM t with
      |some d=>match d.desc with
       | .interface _=>bif isConst x||isConst y then E (.b A,G)else N
       |_=>N
      |none=>N
    | .eql,E u,E v=>match Ls C m t u v with
      |some b=>E (.b b,G)
      |none=>N
    | .neq,E u,E v=>match Ls C m t u v with
      |some b=>E (.b !b,G)
      |none=>N
    |_,_,_=>N
  | .build t H=>match yj C e H.toList with
    |some l=>match GK C t l with
     |some v=>E (v,G)
     |none=>N
    |none=>N
  | .makeInterface t x=>match C.kM t,fC C e x with
    |some d,E v=>match d.desc with
     | .interface _=>N
     |_=>E (.y t v,G)
    |_,_=>N
  | .call c=>match c.callee with
    | .builtin .len=>match c.args.toList,c.argTypes.toList with
      |[x],[t]=>match C.kM t,fC C e x with
       |some d,E (.r (.string s))=>match d.desc with
        | .string=>E (.i .i64 s.size,G)
        |_=>N
       |_,_=>N
      |_,_=>N
    |_=>N
  |_=>N
def J1{ρ:Nat->Nat}(c:jA ρ m w){x y:dI}(L:m[i]?=E x)(Q:m[j]?=E y)(b:x.c.live=G)(k:y.c.live=G):
    ρ i=ρ j↔i=j:=⟨c.aOx i j x y L Q (C6 b) (C6 k),λh=>h▸rfl⟩
def px{k:U}: ∀{l:List V}{a:List Int},vF k l=E a->l=a.map (V.i k)
  |[],a,h=>by cases h;rfl
  | .i z n::r,a,h=>by
    simp only[vF]at h;cases R:uA k z with
    |false=>rw[R]at h;cases h
    |true=>
     rw[R]at h;have:=sW R;subst this;simp only[gq]at h;split at h
     .rename_i l f;cases h;rw[px f];rfl
     .cases h
  | .b _::_,_,h=>by cases h
  | .p _::_,_,h=>by cases h
  | .s _ _ _::_,_,h=>by cases h
  | .g _::_,_,h=>by cases h
  | .t _::_,_,h=>by cases h
  | .y _ _::_,_,h=>by cases h
  | .f _ _::_,_,h=>by cases h
  | .r _::_,_,h=>by cases h
def lK(ρ:Nat->Nat)(k:U)(a:List Int):dZ ρ (a.map (V.i k))=a.map (ip.int k):=by rw[lX,Ro];rfl
def sC{P:Program}{w:ii}(d:Nat){e:es}{k:U}{Q:TD}(b:fz P e Q)(R:Q.desc= .int k)(H p:List Int): ∀(c:List Nat),(∀i∈c,i<H.length/\i<p.length)->
    (Op.eqItems (d+1) e 1 (H.map (ip.int k)).toArray (p.map (ip.int k)).toArray c).run P w= .ok (c.all λi=>H[i]?==p[i]?) w
  |[],_=>by simp[Op.eqItems]
  |i::c,h=>by
   obtain⟨M,S⟩:=h i Y
   have g: ∀(l:List Int)(f:i<l.length),(part e (l.map (ip.int k)).toArray (i*1)).run P w= .ok (.int k l[i]) w:=by
     intro l f;have:(l.map (ip.int k)).toArray[i]?=E (.int k l[i]):=by simp[f]
     simp only[part,fr,b.vB,gv,b.agg,R,Gd,oP,kT,jq,this];rfl
   have F:P.underlying e=E (.int k):=by rw[b.YM,R]
   simp only[Op.eqItems,fr,g H M,g p S,gv,run_equalIn_int w d e k k _ _ F];have v:=sC (P:=P) (w:=w) d b R H p c (λj o=>h j (by simp[o]));simp only[List.all_cons,jr M,jr S];cases n:(H[i]==p[i])with
   |true=>simp[n,v]
   |false=>
    have:(E H[i]==E p[i])=A:=by simpa using n
    simp[this]
def Gs(H p:List Int)(n:Nat)(L:H.length=n)(Q:p.length=n):((List.range n).all λi=>H[i]?==p[i]?)=(H==p):=by
  rw[Bool.eq_iff_iff];simp only[yM,AA,nY];constructor
  .intro h;apply AP;intro i;by_cases g:i<n
   .exact h i g
   .rw [EF O,EF O]
  .rintro rfl i _;rfl
section
variable{P:Program}{w:ii}(d:Nat){t:Nat}
def IZ(F:P.underlying t=E (.pointer g))(b:Option Addr):(Op.equalIn (d+1) t (.pointer N) (.pointer b)).run P w= .ok b.isNone w:=by cases b<;>simp[Op.equalIn,pd F]
def HV(F:P.underlying t=E (.pointer g))(a:Addr):(Op.equalIn (d+1) t (.pointer (E a)) (.pointer N)).run P w= .ok A w:=by simp[Op.equalIn,pd F]
def AK(F:P.underlying t=E (.pointer g))(v:(sizeOf g).run P w= .ok n w)(x:n≠0){a b:Addr}{r:Bool}(h:(sameAddr a b).run P w= .ok r w):
    (Op.equalIn (d+1) t (.pointer (E a)) (.pointer (E b))).run P w= .ok r w:=by
  simp[Op.equalIn,pd F,v,x,h]
def Kw(F:P.underlying t=E (.slice g))(l c i y:Nat)(b:Option Addr):(Op.equalIn (d+1) t (.slice N l c) (.slice b i y)).run P w= .ok b.isNone w:=by cases b<;>simp[Op.equalIn,pd F]
def Lp(F:P.underlying t=E (.slice g))(l c i y:Nat)(a:Addr):(Op.equalIn (d+1) t (.slice (E a) l c) (.slice N i y)).run P w= .ok A w:=by simp[Op.equalIn,pd F]
def Oi{L:Array (String×es)}(F:P.underlying t=E (.interface L))(u:Nat)(v:ip):(Op.equalIn (d+1) t .nilIface (.iface u v)).run P w= .ok A w:=by simp[Op.equalIn,pd F]
def Lw{L:Array (String×es)}(F:P.underlying t=E (.interface L))(u:Nat)(v:ip):(Op.equalIn (d+1) t (.iface u v) .nilIface).run P w= .ok A w:=by simp[Op.equalIn,pd F]
def B1{L:Array (String×es)}(F:P.underlying t=E (.interface L)):(Op.equalIn (d+1) t .nilIface .nilIface).run P w= .ok G w:=by simp[Op.equalIn,pd F]
end
section
variable{P:Program}{C:fw}{ρ:Nat->Nat}{m:dE}{e:eZ}{a:Act}{w:ii}
def KL{t:Nat}(h:fz P t d):P.cellsOf t=d.size:=by obtain⟨i,g,v,_⟩:=h.info;simp[Program.cellsOf,g,v]
def A0{t:Nat}{Q:TD}{k:U}(h:fz P t d)(z:d.desc= .array n g)(b:fz P g Q)(R:Q.desc= .int k):P.eqGuardType P.depth t=A:=by obtain⟨j,H⟩:=h.deep;rw[H];have M:=h.YM;rw[z]at M;have S:=b.YM;rw[R]at S;simp[Program.eqGuardType,M,S]
def Ec{t:Nat}{y:Operand}(s:(isConst x||isConst y)=G):(eqGuard H t x y .nilIface .nilIface).run P w= .ok () w:=by cases x<;>cases y<;>simp_all [eqGuard,isConst]
def Jf(r:iq P C)(hr:jA ρ m w){t:Nat}{x y:V}{b:Bool}(ox oy:Operand)(H:BinOp)(f:H= .eql∨H= .neq)(h:Ls C m t x y=E b):letI a:=x.ee ρ;letI c:=y.ee ρ;(eqGuard H t ox oy a c).run P w= .ok () w/\
    (Go.binOp .eql t a c).run P w= .ok (.bool b) w/\(Go.binOp .neq t a c).run P w= .ok (.bool !b) w:=by
  have T:(eqGuard H t ox oy (x.ee ρ) (y.ee ρ)).run P w= .ok () w/\(Op.equal t (x.ee ρ) (y.ee ρ)).run P w= .ok b w/\(Go.binOp .eql t (x.ee ρ) (y.ee ρ)=do pure (.bool (<-Op.equal t (x.ee ρ) (y.ee ρ))))/\
   (Go.binOp .neq t (x.ee ρ) (y.ee ρ)=do pure (.bool (!(<-Op.equal t (x.ee ρ) (y.ee ρ))))):=by
    unfold Ls at h;split at h
    .rename_i d hd;have F:=(r _ _ hd).YM;split at h
     .rename_i a b R;cases h;rw[R]at F;exact⟨by rcases f with rfl|rfl<;>simp[eqGuard,V.ee],run_equalIn_bool w 9999 t a b F,K,K⟩
     .rename_i b R;cases h;rw[R]at F;refine⟨by rcases f with rfl|rfl<;>simp[eqGuard,V.ee],?_,K,K⟩;have:=IZ (P:=P) (w:=w) 9999 F (b.map (pI ρ));rw[Option.isNone_map]at this;exact this
     .rename_i a R;cases h;rw[R]at F;exact⟨by rcases f with rfl|rfl<;>simp[eqGuard,V.ee],HV (P:=P) (w:=w) 9999 F _,K,K⟩
     .rename_i el p q R;rw[R]at F;split at h
      .rename_i de xa xb M S Q;cases s:(!(Nat.beq de.size 0)&&xa.c.live&&xb.c.live)with
       |false=>rw[s]at h;cases h
       |true=>
        rw[s]at h;simp only[gq,eJ]at h;subst h;simp only[iv,C4]at s;obtain⟨⟨hs,lx⟩,ly⟩:=s;have u:de.size≠0:=λe=>by rw[e]at hs;cases hs
        refine⟨by rcases f with rfl|rfl<;>simp[eqGuard,V.ee],?_,K,K⟩;have hb:=J1 hr S Q lx ly;by_cases g:p=q
        .subst g;have o:=AK (P:=P) (w:=w) 9999 F ((r _ _ M).run_sizeOf w) u (run_sameAddr_same w (pI ρ p));have j:(Nat.beq p.1 p.1&&Nat.beq p.2 p.2)=G:=by simp[Iu]
         rw[j];exact o
        .have aa:pI ρ p≠pI ρ q:=by intro e;simp only[pI,Addr.mk.injEq,im]at e;exact g (yw (hb.1 e.1) e.2)
         have o:=AK (P:=P) (w:=w) 9999 F ((r _ _ M).run_sizeOf w) u (run_sameAddr_other w aa (hr.obj _ _ S lx) (hr.obj _ _ Q ly))
         have j:(Nat.beq p.1 q.1&&Nat.beq p.2 q.2)=A:=by rw[Bool.eq_false_iff];intro e;simp only[iv]at e;exact g (yw (iB e.1) (iB e.2))
         rw[j];exact o
      .cases h
     .rename_i el l c b l' c' R;cases h;rw[R]at F;refine⟨by rcases f with rfl|rfl<;>simp[eqGuard,V.ee],?_,K,K⟩;have:=Kw (P:=P) (w:=w) 9999 F l c l' c' (b.map (pI ρ));rw[Option.isNone_map]at this;exact this
     .rename_i el p l c l' c' R;cases h;rw[R]at F;exact⟨by rcases f with rfl|rfl<;>simp[eqGuard,V.ee],Lp (P:=P) (w:=w) 9999 F _ _ _ _ _,K,K⟩
     .rename_i ms ty v R;cases h;rw[R]at F;exact⟨by rcases f with rfl|rfl<;>simp[eqGuard,V.ee],Oi (P:=P) (w:=w) 9999 F _ _,K,K⟩
     .rename_i ms ty v R;cases h;rw[R]at F;exact⟨by rcases f with rfl|rfl<;>simp[eqGuard,V.ee],Lw (P:=P) (w:=w) 9999 F _ _,K,K⟩
     .rename_i n el l l' R;split at h
      .rename_i de M;split at h
       .rename_i k hk;split at h
        .rename_i L z hx hy;cases s:(Nat.beq L.length n&&Nat.beq z.length n&&Nat.beq de.size 1)with
         |false=>rw[s]at h;cases h
         |true=>
          rw[s]at h;simp only[gq,eJ]at h;subst h;simp only[iv]at s;obtain⟨⟨c1,c2⟩,c3⟩:=s;have c1:=iB c1;have c2:=iB c2;have c3:=iB c3;have hg:=A0 (r _ _ hd) R (r _ _ M) hk;rw[R]at F;obtain⟨i,hi,_⟩:=(r _ _ M).info;rw[px hx,px hy];simp only[V.ee,lK];refine⟨run_eqGuard_agg w H t ox oy _ _ hg,?_,K,K⟩;have o:=run_equalIn_array (P:=P) w 9999 (L.map (ip.int k)).toArray (z.map (ip.int k)).toArray F hi;rw[KL (r _ _ M),c3]at o;have j:=sC (P:=P) (w:=w) 9998 (r _ _ M) hk L z (List.range n) (λi hi=>by simp at hi;omega);rw[Gs L z n c1 c2]at j;exact o.trans j
        .cases h
       .cases h
      .cases h
     .cases h
    .cases h
  obtain⟨M,S,Q,h4⟩:=T;refine⟨M,?_,?_⟩
  .rw [Q];simp[fr,S]
  .rw [h4];simp[fr,S]
end
def HY{α q:Type}(f:α->q): ∀(L l:List α)(j:Nat),Ab j (L.map f) (l.map f)=(Ab j L l).map f
  |[],_,_=>rfl
  |v::L,l,j=>by simp only[nA,Ab];rw[<-List.map_set,HY]
def Bs(j:Nat): ∀(L:List ip)(k:Nat)(l:Array ip),
    (L.zipIdx k).foldl (λo(x:ip×Nat)=>o.setIfInBounds (j+x.2) x.1) l=(Ab (j+k) L l.toList).toArray
  |[],k,l=>by simp[Ab]
  |v::L,k,l=>by simp only[List.zipIdx_cons,List.foldl_cons,Ab];rw[Bs j L (k+1)];simp[uY]
def Dl{ρ:Nat->Nat}(h:vR v.cells=G):(v.ee ρ).cells=(dZ ρ v.cells).toArray:=by
  cases v with
  |g l=>simp[V.cells,V.ee,ip.cells]
  |r u=>
   have:u.oneCell'=G:=by simpa[V.cells,vR,V.one]using h
   cases u<;>simp_all [V.cells,V.ee,ip.cells,dZ,ip.oneCell']
  |t l=>simp[V.cells,vR,V.one]at h
  |_=>simp[V.cells,V.ee,ip.cells,dZ]
def xR{ρ:Nat->Nat}(y S:Nat->Option (Nat×Nat))(g: ∀i p,y i=E p->S i=E p): ∀(H:List (Nat×V))(q l:List V),sE y q H=E l->
    Instr.fill S (dZ ρ q).toArray (H.map λx=>(x.1,x.2.ee ρ))=E (dZ ρ l).toArray
  |[],q,l,h=>by cases h;rfl
  |(i,v)::r,q,l,h=>by
   simp only[sE]at h;split at h
   .rename_i j Q T;cases s:(Nat.beq v.cells.length Q&&Nat.ble (j+v.cells.length) q.length&&vR v.cells)with
    |false=>rw[s]at h;cases h
    |true=>
     rw[s]at h;simp only[gq]at h;simp only[iv]at s;obtain⟨⟨k,u⟩,d⟩:=s;have k:=iB k;have u:=mi u;have L:=Dl (ρ:=ρ) d;simp only[nA,Instr.fill,g _ _ T,L];have c:(dZ ρ v.cells).toArray.size=v.cells.length:=by simp[gC]
     have R:(dZ ρ q).toArray.size=q.length:=by simp[gC]
     rw[c,R];rw[if_neg gp]
     have t:(dZ ρ v.cells).toArray.zipIdx.foldl (λo(x:ip×Nat)=>o.setIfInBounds (j+x.2) x.1) (dZ ρ q).toArray=(dZ ρ (Ab j v.cells q)).toArray:=by have M:=Bs j (dZ ρ v.cells) 0 (dZ ρ q).toArray;simp only[j3]at M;rw[<-Array.foldl_toList];simp only[Array.toList_zipIdx];rw[M];simp only[lX,HY]
     have b:=xR (ρ:=ρ) y S g r _ l h;rw[<-t]at b;exact b
   .cases h
section
variable{P:Program}{C:fw}{ρ:Nat->Nat}{m:dE}{e:eZ}{a:Act}{w:ii}
def wM(j:ik ρ e a)(p:Gl ρ C m.length): ∀{l:List (Nat×Operand)}{L:List (Nat×V)},yj C e l=E L->
    l.map (λx=>(x.1,a.eval x.2))=L.map (λx=>(x.1,x.2.ee ρ))
  |[],L,h=>by cases h;rfl
  |(i,x)::r,L,h=>by
   simp only[yj]at h;split at h
   .rename_i v l M S;cases h;simp only[nA,ff j p M,wM j p S]
   .cases h
def EI(r:iq P C)(w:ii): ∀(q:List Field),(∀f∈q,∃n,(sizeOf f.type).run P w= .ok n w)->
    ∃
     b:List (Nat×Nat),(q.mapM (λf=>(do pure (f.offset,<-sizeOf f.type):Sem (Nat×Nat)))).run P w= .ok b w/\
     ∀(i:Nat)(f:Field)(s:TD),q[i]?=E f->C.kM f.type=E s->b[i]?=E (f.offset,s.size)
  |[],_=>⟨[],K,λi f s h=>by simp at h⟩
  |f::q,R=>by
   obtain⟨n,x⟩:=R f Y;obtain⟨b,y,u⟩:=EI r w q (λg p=>R g (by simp[p]));refine⟨(f.offset,n)::b,by simp only[Mq,fr,x,gv,iV,y],λi g s c z=>?_⟩;cases i with
   |zero=>
    simp only[ph,eJ]at c⊢;subst c;have:=(r _ _ z).run_sizeOf (P:=P) w;rw[x]at this;cases this;rfl
   |succ i=>simp only[kz]at c⊢;exact u i g s c z
def EN(r:iq P C)(w:ii): ∀{q:List Field},za C q=G-> ∀f∈q,∃n,(sizeOf f.type).run P w= .ok n w
  |[],_,f,t=>by cases t
  |g::q,h,f,t=>by
   have F:(C.kM g.type).isSome=G/\za C q=G:=by simpa[za]using h
   simp only[kh]at t;rcases t with rfl|t
   .obtain⟨d,z⟩:=Option.isSome_iff_exists.1 F.1;exact⟨_,(r _ _ z).run_sizeOf w⟩
   .exact EN r w F.2 f t
def RC(r:iq P C){t:Nat}{H:List (Nat×V)}(h:GK C t H=E v):
    (Instr.build t (H.map λx=>(x.1,x.2.ee ρ)).toArray).run P w= .ok (v.ee ρ) w:=by
  unfold GK at h;split at h
  .rename_i d F;obtain⟨z,o,Q⟩:=(r _ _ F).ru w;simp only[Instr.build,fr,o,gv,(r _ _ F).run_underlying];split at h
   .rename_i q R;cases s:za C q.toList with
    |false=>rw[s]at h;cases h
    |true=>
     rw[s]at h;simp only[gq]at h;split at h
     .rename_i l k;cases h;obtain⟨b,y,u⟩:=EI r w q.toList (EN r w s);have S:q=q.toList.toArray:=Y
      have L:(q.mapM (λf=>(do pure (f.offset,<-sizeOf f.type):Sem (Nat×Nat)))).run P w= .ok b.toArray w:=by rw[S,Uv,Sem.run_map,y];rfl
      rw[R];simp only[fr,L,gv,Q ρ]
      have:=xR (ρ:=ρ) _ (λi=>b.toArray[i]?) (λi p g=>by
        split at g
        .rename_i f M;split at g
         .rename_i T c;cases g;have:=u i f T (by simpa using M) c;simpa using this
         .cases g
        .cases g) H d.zero l k
      rw[this];rfl
     .cases h
   .rename_i n el R;split at h
    .rename_i de j;split at h
     .rename_i l k;cases h;rw[R];simp only[fr,(r _ _ j).run_sizeOf,gv,Q ρ];rw[xR (ρ:=ρ) _ _ (λi p g=>g) H d.zero l k];rfl
     .cases h
    .cases h
   .cases h
  .cases h
def Yc(r:iq P C)(hr:jA ρ m w)(he:ik ρ e a)(hg:Gl ρ C m.length)(h:Cz C m e o.op=E (v,G)):(execOp a.eval o).run P w= .ok (.value (v.ee ρ)) w:=by
  have T:= @ff ρ C e a m.length he hg;obtain⟨ak,op,ty,aj,ah,guard⟩:=o;simp only at h;unfold execOp;simp only;unfold Cz at h;split at h
  .rename_i c x y;split at h
   .rename_i d f;cases d with
    |true=>
     simp only at h;split at h
     .rename_i u F;cases h;simp[T f,V.ee,T F,asBool]
     .cases h
    |false=>
     simp only at h;split at h
     .rename_i u F;cases h;simp[T f,V.ee,T F,asBool]
     .cases h
   .cases h
  .rename_i t x lo hi mx;split at h
   .rename_i d ad ab aa k1 l k2 hh k3 q M S h3 h4 h5;split at h
    .rename_i el z;split at h
     .rename_i de h6;simp only[eJ,ef,eG]at h;obtain⟨rfl,c1,c2,c3,c4,c5⟩:=h;simp only[fr,oQ,T S,T h3,T h4,T h5,V.ee,Instr.sliceAt,Instr.slice,(r _ _ M).run_underlying,z,gv,iV]
      have hb:(Instr.sliceBounds G ab aa (E (.int k1 l)) (E (.int k2 hh)) (E (.int k3 q))).run P w= .ok (l.toNat,hh.toNat,q.toNat) w:=by simp only[Instr.sliceBounds,fr];rw[nP (n:=q) (y:=aa) _ ⟨O,O⟩];simp only[gv];rw[nP (n:=hh) (y:=q.toNat) _ ⟨O,O⟩];simp only[gv];rw[nP (n:=l) (y:=hh.toNat) _ ⟨O,O⟩];rfl
      rw[hb];simp only[gv,(r _ _ h6).run_sizeOf,fr];have g: ¬q.toNat=l.toNat:=O;simp[nE,eE,g]
     .cases h
    .cases h
   .cases h
  .rename_i t x ix;split at h
   .rename_i d s k n M S h3;split at h
    .rename_i z;simp only[eJ,ef,eG]at h;obtain⟨rfl,c1,c2⟩:=h
     have p:s[n.toNat]?=E (s.data.toList.getD n.toNat 0):=by have c3:n.toNat<s.data.toList.length:=O;have c4:n.toNat<s.size:=c3;rw[getElem?_pos s n.toNat c4,ie,jr c3];rfl
     simp only[fr,T S,T h3,V.ee,Instr.index,asIntOf,iV,gv,(r _ _ M).run_underlying,z,c1,oH,p]
    .cases h
   .cases h
  .rename_i op t x y t';split at h
   .rename_i L Q;split at h
    .rename_i d z;split at h
     .rename_i ms R;cases f:(isConst x||isConst y)with
      |false=>rw[f]at h;cases h
      |true=>
       rw[f]at h;cases h;have F:=(r _ _ z).YM;rw[R]at F;have M:(eqGuard .eql t x y .nilIface .nilIface).run P w= .ok () w:=Ec f
       have S:(Go.binOp .eql t .nilIface .nilIface).run P w= .ok (.bool G) w:=by show((do pure (.bool (<-Op.equal t .nilIface .nilIface)):Sem ip)).run P w=_;have:=B1 (P:=P) (w:=w) 9999 F;simp only[fr];rw[show(Op.equal t .nilIface .nilIface).run P w= .ok G w from this];rfl
       simp only[fr,T L,T Q,V.ee,M,gv,S,iV]
     .cases h
    .cases h
   .rename_i L Q;split at h
    .rename_i d z;split at h
     .rename_i ms R;cases f:(isConst x||isConst y)with
      |false=>rw[f]at h;cases h
      |true=>
       rw[f]at h;cases h;have F:=(r _ _ z).YM;rw[R]at F;have M:(eqGuard .neq t x y .nilIface .nilIface).run P w= .ok () w:=Ec f
       have S:(Go.binOp .neq t .nilIface .nilIface).run P w= .ok (.bool A) w:=by show((do pure (.bool (!(<-Op.equal t .nilIface .nilIface))):Sem ip)).run P w=_;have:=B1 (P:=P) (w:=w) 9999 F;simp only[fr];rw[show(Op.equal t .nilIface .nilIface).run P w= .ok G w from this];rfl
       simp only[fr,T L,T Q,V.ee,M,gv,S,iV]
     .cases h
    .cases h
   .rename_i u v _ L Q;split at h
    .rename_i b hb;cases h;obtain⟨M,S,_⟩:=Jf (P:=P) r hr x y .eql (.inl K) hb;simp only[fr,T L,T Q,M,gv,S,V.ee,iV]
    .cases h
   .rename_i u v _ L Q;split at h
    .rename_i b hb;cases h;obtain⟨M,_,h3⟩:=Jf (P:=P) r hr x y .neq (.inr K) hb;simp only[fr,T L,T Q,M,gv,h3,V.ee,iV]
    .cases h
   .cases h
  .rename_i t H;split at h
   .rename_i l hl;split at h
    .rename_i u F;cases h
     have M:H.map (λx=>(x.1,a.eval x.2))=(l.map λx=>(x.1,x.2.ee ρ)).toArray:=by apply nh;simpa using wM (ρ:=ρ) he hg hl
     have S:=RC (P:=P) (ρ:=ρ) (w:=w) r F;rw[<-M]at S;simp only[fr];rw[show(H.map λx=>(x.1,a.eval x.2))=H.map (λ(i,x)=>(i,a.eval x))from K]at S;rw[S];rfl
    .cases h
   .cases h
  .rename_i t x;split at h
   .rename_i d u z F;have j:=(r _ _ z).run_underlying (P:=P) w;split at h
    .cases h
    .rename_i g;cases h;simp only[fr,Instr.makeInterface,j,gv,T F,V.ee];cases R:d.desc with
     |interface ms=>exact(g ms R).elim
     |_=>rfl
   .cases h
  .rename_i c;obtain⟨ga,xs,ag⟩:=c;simp only at h;split at h
   .split at h
    .rename_i x t L ae;split at h
     .rename_i d s M S;split at h
      .rename_i z;cases h;have ac:xs= #[x]:=by rw[<-sa];simpa using L
       have af:ag= #[t]:=by rw[<-sa];simpa using ae
       subst ac;subst af;simp[resolve,invoke,builtin,Builtin.len_,T S,V.ee,(r _ _ M).run_underlying,z,goInt]
      .cases h
     .cases h
    .cases h
   .cases h
  .cases h
def sD(C:fw)(m:dE)(e:eZ)(o:Op):Option (V×Bool):=
  match iu C m e o with
  |some x=>E x
  |none=>Cz C m e o
def BZ(r:iq P C)(y:jA ρ m w)(j:ik ρ e a)(p:Gl ρ C m.length)(h:sD C m e o.op=E (v,G)):(execOp a.eval o).run P w= .ok (.value (v.ee ρ)) w:=by
  unfold sD at h;split at h
  .rename_i x L;cases h;exact W9 r y j p L
  .exact Yc r y j p h
end
end Go.Proofs.YtiggidfngfkanaaGreatDoor
