/- FnPacked: the points, part 3. No condition. -/
import Derived.Test.YtiggidfngfkanaaGreatDoorW16
namespace Go.Proofs.YtiggidfngfkanaaGreatDoor
open Go
set_option maxRecDepth 100000
set_option maxHeartbeats 4000000
set_option linter.all false
open Bool renaming true->G
def aBs:dQ 64=G:=I
def aHe:dQ 65=G:=I
def aHs:dQ 66=G:=I
def aIb:dQ 67=G:=I
def aLf:dQ 68=G:=I
def aIj:dQ 69=G:=I
def aIc:dQ 70=G:=I
def aDs:dQ 71=G:=I
def aGe:dQ 72=G:=I
def aKo:dQ 73=G:=I
def aBf:dQ 74=G:=I
def aIs:dQ 75=G:=I
def aRx:dQ 76=G:=I
def aHt:dQ 77=G:=I
def aPv:dQ 78=G:=I
def aJm:dQ 79=G:=I
def aFx:dQ 80=G:=I
def aEh:dQ 81=G:=I
def aKa:dQ 82=G:=I
def aNo:dQ 83=G:=I
def aMz:dQ 84=G:=I
def aPa:dQ 85=G:=I
def aPq:dQ 86=G:=I
def aHw:dQ 87=G:=I
def aNc:dQ 88=G:=I
def aJo:dQ 89=G:=I
def aQy:dQ 90=G:=I
def aIg:dQ 91=G:=I
def aNe:dQ 92=G:=I
def aCo:dQ 93=G:=I
def aOg:dQ 94=G:=I
def aDr:dQ 95=G:=I
def aRe: ∀c,c<32->dQ (64+c)=G:=λc h=>match c,h with|0,_=>aBs|1,_=>aHe|2,_=>aHs|3,_=>aIb|4,_=>aLf|5,_=>aIj|6,_=>aIc|7,_=>aDs|8,_=>aGe|9,_=>aKo|10,_=>aBf|11,_=>aIs|12,_=>aRx|13,_=>aHt|14,_=>aPv|15,_=>aJm|16,_=>aFx|17,_=>aEh|18,_=>aKa|19,_=>aNo|20,_=>aMz|21,_=>aPa|22,_=>aPq|23,_=>aHw|24,_=>aNc|25,_=>aJo|26,_=>aQy|27,_=>aIg|28,_=>aNe|29,_=>aCo|30,_=>aOg|31,_=>aDr|n+32,h=>absurd h O
end Go.Proofs.YtiggidfngfkanaaGreatDoor
