/- FnPacked: the points, part 4. No condition. -/
import Derived.Test.YtiggidfngfkanaaGreatDoorW16
namespace Go.Proofs.YtiggidfngfkanaaGreatDoor
open Go
set_option maxRecDepth 100000
set_option maxHeartbeats 4000000
set_option linter.all false
open Bool renaming true->G
def aHn:dQ 96=G:=I
def aFu:dQ 97=G:=I
def aEt:dQ 98=G:=I
def aRk:dQ 99=G:=I
def anw:dQ 100=G:=I
def aon:dQ 101=G:=I
def apw:dQ 102=G:=I
def apy:dQ 103=G:=I
def azk:dQ 104=G:=I
def arz:dQ 105=G:=I
def anh:dQ 106=G:=I
def aks:dQ 107=G:=I
def asu:dQ 108=G:=I
def aoa:dQ 109=G:=I
def asf:dQ 110=G:=I
def auk:dQ 111=G:=I
def amo:dQ 112=G:=I
def aqc:dQ 113=G:=I
def awm:dQ 114=G:=I
def ats:dQ 115=G:=I
def apm:dQ 116=G:=I
def aAk:dQ 117=G:=I
def azw:dQ 118=G:=I
def aym:dQ 119=G:=I
def ayd:dQ 120=G:=I
def ayn:dQ 121=G:=I
def arb:dQ 122=G:=I
def amy:dQ 123=G:=I
def auq:dQ 124=G:=I
def alo:dQ 125=G:=I
def axd:dQ 126=G:=I
def ayx:dQ 127=G:=I
def aGk: ∀c,c<32->dQ (96+c)=G:=λc h=>match c,h with|0,_=>aHn|1,_=>aFu|2,_=>aEt|3,_=>aRk|4,_=>anw|5,_=>aon|6,_=>apw|7,_=>apy|8,_=>azk|9,_=>arz|10,_=>anh|11,_=>aks|12,_=>asu|13,_=>aoa|14,_=>asf|15,_=>auk|16,_=>amo|17,_=>aqc|18,_=>awm|19,_=>ats|20,_=>apm|21,_=>aAk|22,_=>azw|23,_=>aym|24,_=>ayd|25,_=>ayn|26,_=>arb|27,_=>amy|28,_=>auq|29,_=>alo|30,_=>axd|31,_=>ayx|n+32,h=>absurd h O
end Go.Proofs.YtiggidfngfkanaaGreatDoor
