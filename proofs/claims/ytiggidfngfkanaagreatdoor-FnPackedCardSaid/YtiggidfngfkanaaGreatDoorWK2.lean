/- FnPacked: the points, part 2. No condition. -/
import Derived.Test.YtiggidfngfkanaaGreatDoorW16
namespace Go.Proofs.YtiggidfngfkanaaGreatDoor
open Go
set_option maxRecDepth 100000
set_option maxHeartbeats 4000000
set_option linter.all false
open Bool renaming true->G
def aQt:dQ 32=G:=I
def aGp:dQ 33=G:=I
def aFm:dQ 34=G:=I
def aMu:dQ 35=G:=I
def aHd:dQ 36=G:=I
def aPh:dQ 37=G:=I
def aBe:dQ 38=G:=I
def aOa:dQ 39=G:=I
def aDi:dQ 40=G:=I
def aLd:dQ 41=G:=I
def aCk:dQ 42=G:=I
def aDa:dQ 43=G:=I
def aGw:dQ 44=G:=I
def aGd:dQ 45=G:=I
def aCq:dQ 46=G:=I
def aLy:dQ 47=G:=I
def aEw:dQ 48=G:=I
def aBk:dQ 49=G:=I
def aBm:dQ 50=G:=I
def aEr:dQ 51=G:=I
def aRc:dQ 52=G:=I
def aPp:dQ 53=G:=I
def aIo:dQ 54=G:=I
def aPe:dQ 55=G:=I
def aIy:dQ 56=G:=I
def aQd:dQ 57=G:=I
def aFo:dQ 58=G:=I
def aCe:dQ 59=G:=I
def aPu:dQ 60=G:=I
def aFb:dQ 61=G:=I
def aLv:dQ 62=G:=I
def aQe:dQ 63=G:=I
def aBc: ∀c,c<32->dQ (32+c)=G:=λc h=>match c,h with|0,_=>aQt|1,_=>aGp|2,_=>aFm|3,_=>aMu|4,_=>aHd|5,_=>aPh|6,_=>aBe|7,_=>aOa|8,_=>aDi|9,_=>aLd|10,_=>aCk|11,_=>aDa|12,_=>aGw|13,_=>aGd|14,_=>aCq|15,_=>aLy|16,_=>aEw|17,_=>aBk|18,_=>aBm|19,_=>aEr|20,_=>aRc|21,_=>aPp|22,_=>aIo|23,_=>aPe|24,_=>aIy|25,_=>aQd|26,_=>aFo|27,_=>aCe|28,_=>aPu|29,_=>aFb|30,_=>aLv|31,_=>aQe|n+32,h=>absurd h O
end Go.Proofs.YtiggidfngfkanaaGreatDoor
