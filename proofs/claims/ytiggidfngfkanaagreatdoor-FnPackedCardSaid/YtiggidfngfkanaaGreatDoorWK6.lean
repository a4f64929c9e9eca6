/- FnPacked: the points, part 6. No condition. -/
import Derived.Test.YtiggidfngfkanaaGreatDoorW16
namespace Go.Proofs.YtiggidfngfkanaaGreatDoor
open Go
set_option maxRecDepth 100000
set_option maxHeartbeats 4000000
set_option linter.all false
open Bool renaming true->G
def aAf:dQ 160=G:=I
def awv:dQ 161=G:=I
def api:dQ 162=G:=I
def ate:dQ 163=G:=I
def avh:dQ 164=G:=I
def art:dQ 165=G:=I
def axu:dQ 166=G:=I
def avu:dQ 167=G:=I
def ari:dQ 168=G:=I
def ans:dQ 169=G:=I
def anx:dQ 170=G:=I
def asj:dQ 171=G:=I
def aoj:dQ 172=G:=I
def ars:dQ 173=G:=I
def ary:dQ 174=G:=I
def arp:dQ 175=G:=I
def azs:dQ 176=G:=I
def apj:dQ 177=G:=I
def asr:dQ 178=G:=I
def aqp:dQ 179=G:=I
def ant:dQ 180=G:=I
def awp:dQ 181=G:=I
def aqe:dQ 182=G:=I
def aol:dQ 183=G:=I
def anz:dQ 184=G:=I
def amt:dQ 185=G:=I
def axc:dQ 186=G:=I
def ako:dQ 187=G:=I
def axj:dQ 188=G:=I
def ara:dQ 189=G:=I
def asq:dQ 190=G:=I
def aov:dQ 191=G:=I
def aIr: ∀c,c<32->dQ (160+c)=G:=λc h=>match c,h with|0,_=>aAf|1,_=>awv|2,_=>api|3,_=>ate|4,_=>avh|5,_=>art|6,_=>axu|7,_=>avu|8,_=>ari|9,_=>ans|10,_=>anx|11,_=>asj|12,_=>aoj|13,_=>ars|14,_=>ary|15,_=>arp|16,_=>azs|17,_=>apj|18,_=>asr|19,_=>aqp|20,_=>ant|21,_=>awp|22,_=>aqe|23,_=>aol|24,_=>anz|25,_=>amt|26,_=>axc|27,_=>ako|28,_=>axj|29,_=>ara|30,_=>asq|31,_=>aov|n+32,h=>absurd h O
end Go.Proofs.YtiggidfngfkanaaGreatDoor
