/- FnPacked: the points, part 7. No condition. -/
import Derived.Test.YtiggidfngfkanaaGreatDoorW16
namespace Go.Proofs.YtiggidfngfkanaaGreatDoor
open Go
set_option maxRecDepth 100000
set_option maxHeartbeats 4000000
set_option linter.all false
open Bool renaming true->G
def aqo:dQ 192=G:=I
def anc:dQ 193=G:=I
def asa:dQ 194=G:=I
def ank:dQ 195=G:=I
def azn:dQ 196=G:=I
def avq:dQ 197=G:=I
def ayw:dQ 198=G:=I
def apq:dQ 199=G:=I
def azd:dQ 200=G:=I
def axa:dQ 201=G:=I
def amg:dQ 202=G:=I
def ayc:dQ 203=G:=I
def ayq:dQ 204=G:=I
def anv:dQ 205=G:=I
def asv:dQ 206=G:=I
def aof:dQ 207=G:=I
def aty:dQ 208=G:=I
def alu:dQ 209=G:=I
def ano:dQ 210=G:=I
def aky:dQ 211=G:=I
def asm:dQ 212=G:=I
def aye:dQ 213=G:=I
def ayf:dQ 214=G:=I
def aue:dQ 215=G:=I
def asg:dQ 216=G:=I
def ayp:dQ 217=G:=I
def akv:dQ 218=G:=I
def anb:dQ 219=G:=I
def ali:dQ 220=G:=I
def azm:dQ 221=G:=I
def aqt:dQ 222=G:=I
def alf:dQ 223=G:=I
def aFi: ∀c,c<32->dQ (192+c)=G:=λc h=>match c,h with|0,_=>aqo|1,_=>anc|2,_=>asa|3,_=>ank|4,_=>azn|5,_=>avq|6,_=>ayw|7,_=>apq|8,_=>azd|9,_=>axa|10,_=>amg|11,_=>ayc|12,_=>ayq|13,_=>anv|14,_=>asv|15,_=>aof|16,_=>aty|17,_=>alu|18,_=>ano|19,_=>aky|20,_=>asm|21,_=>aye|22,_=>ayf|23,_=>aue|24,_=>asg|25,_=>ayp|26,_=>akv|27,_=>anb|28,_=>ali|29,_=>azm|30,_=>aqt|31,_=>alf|n+32,h=>absurd h O
end Go.Proofs.YtiggidfngfkanaaGreatDoor
