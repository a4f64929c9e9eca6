/- FnPacked: the points, part 5. No condition. -/
import Derived.Test.YtiggidfngfkanaaGreatDoorW16
namespace Go.Proofs.YtiggidfngfkanaaGreatDoor
open Go
set_option maxRecDepth 100000
set_option maxHeartbeats 4000000
set_option linter.all false
open Bool renaming true->G
def ani:dQ 128=G:=I
def aoz:dQ 129=G:=I
def awe:dQ 130=G:=I
def atw:dQ 131=G:=I
def apc:dQ 132=G:=I
def ata:dQ 133=G:=I
def apr:dQ 134=G:=I
def ayz:dQ 135=G:=I
def amf:dQ 136=G:=I
def als:dQ 137=G:=I
def asc:dQ 138=G:=I
def aun:dQ 139=G:=I
def aAg:dQ 140=G:=I
def awh:dQ 141=G:=I
def akt:dQ 142=G:=I
def avp:dQ 143=G:=I
def alw:dQ 144=G:=I
def alk:dQ 145=G:=I
def akj:dQ 146=G:=I
def atc:dQ 147=G:=I
def atb:dQ 148=G:=I
def aro:dQ 149=G:=I
def ams:dQ 150=G:=I
def avx:dQ 151=G:=I
def akr:dQ 152=G:=I
def aou:dQ 153=G:=I
def asy:dQ 154=G:=I
def apn:dQ 155=G:=I
def awu:dQ 156=G:=I
def alj:dQ 157=G:=I
def arf:dQ 158=G:=I
def atk:dQ 159=G:=I
def aJq: ∀c,c<32->dQ (128+c)=G:=λc h=>match c,h with|0,_=>ani|1,_=>aoz|2,_=>awe|3,_=>atw|4,_=>apc|5,_=>ata|6,_=>apr|7,_=>ayz|8,_=>amf|9,_=>als|10,_=>asc|11,_=>aun|12,_=>aAg|13,_=>awh|14,_=>akt|15,_=>avp|16,_=>alw|17,_=>alk|18,_=>akj|19,_=>atc|20,_=>atb|21,_=>aro|22,_=>ams|23,_=>avx|24,_=>akr|25,_=>aou|26,_=>asy|27,_=>apn|28,_=>awu|29,_=>alj|30,_=>arf|31,_=>atk|n+32,h=>absurd h O
end Go.Proofs.YtiggidfngfkanaaGreatDoor
