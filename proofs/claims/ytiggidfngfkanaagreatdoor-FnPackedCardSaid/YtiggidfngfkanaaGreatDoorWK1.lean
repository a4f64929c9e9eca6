/- FnPacked: the points, part 1. No condition. -/
import Derived.Test.YtiggidfngfkanaaGreatDoorW16
namespace Go.Proofs.YtiggidfngfkanaaGreatDoor
open Go
set_option maxRecDepth 100000
set_option maxHeartbeats 4000000
set_option linter.all false
open Bool renaming true->G
def ck0:Rg=G:=I
def ck1:dQ 1=G:=I
def ck2:dQ 2=G:=I
def ck3:dQ 3=G:=I
def ck4:dQ 4=G:=I
def ck5:dQ 5=G:=I
def ck6:dQ 6=G:=I
def ck7:dQ 7=G:=I
def ck8:dQ 8=G:=I
def ck9:dQ 9=G:=I
def aCl:dQ 10=G:=I
def aQg:dQ 11=G:=I
def aJe:dQ 12=G:=I
def aEc:dQ 13=G:=I
def aDo:dQ 14=G:=I
def aEx:dQ 15=G:=I
def aJg:dQ 16=G:=I
def aKf:dQ 17=G:=I
def aJi:dQ 18=G:=I
def aNs:dQ 19=G:=I
def aDx:dQ 20=G:=I
def aPj:dQ 21=G:=I
def aRf:dQ 22=G:=I
def aBu:dQ 23=G:=I
def aMa:dQ 24=G:=I
def aOt:dQ 25=G:=I
def aCs:dQ 26=G:=I
def aEm:dQ 27=G:=I
def aRw:dQ 28=G:=I
def aKr:dQ 29=G:=I
def aDh:dQ 30=G:=I
def aDb:dQ 31=G:=I
def aJb: ∀c,c<31->dQ (1+c)=G:=λc h=>match c,h with|0,_=>ck1|1,_=>ck2|2,_=>ck3|3,_=>ck4|4,_=>ck5|5,_=>ck6|6,_=>ck7|7,_=>ck8|8,_=>ck9|9,_=>aCl|10,_=>aQg|11,_=>aJe|12,_=>aEc|13,_=>aDo|14,_=>aEx|15,_=>aJg|16,_=>aKf|17,_=>aJi|18,_=>aNs|19,_=>aDx|20,_=>aPj|21,_=>aRf|22,_=>aBu|23,_=>aMa|24,_=>aOt|25,_=>aCs|26,_=>aEm|27,_=>aRw|28,_=>aKr|29,_=>aDh|30,_=>aDb|n+31,h=>absurd h O
end Go.Proofs.YtiggidfngfkanaaGreatDoor
