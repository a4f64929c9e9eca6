/- FnPacked: the points, part 8. No condition. -/
import Derived.Test.YtiggidfngfkanaaGreatDoorW16
namespace Go.Proofs.YtiggidfngfkanaaGreatDoor
open Go
set_option maxRecDepth 100000
set_option maxHeartbeats 4000000
set_option linter.all false
open Bool renaming true->G
def amd:dQ 224=G:=I
def auj:dQ 225=G:=I
def ane:dQ 226=G:=I
def ami:dQ 227=G:=I
def aqb:dQ 228=G:=I
def akn:dQ 229=G:=I
def ama:dQ 230=G:=I
def aoe:dQ 231=G:=I
def aor:dQ 232=G:=I
def asb:dQ 233=G:=I
def aru:dQ 234=G:=I
def aul:dQ 235=G:=I
def arh:dQ 236=G:=I
def aqn:dQ 237=G:=I
def alc:dQ 238=G:=I
def ato:dQ 239=G:=I
def ann:dQ 240=G:=I
def avn:dQ 241=G:=I
def apd:dQ 242=G:=I
def asp:dQ 243=G:=I
def aow:dQ 244=G:=I
def asx:dQ 245=G:=I
def aom:dQ 246=G:=I
def akq:dQ 247=G:=I
def axf:dQ 248=G:=I
def akz:dQ 249=G:=I
def awn:dQ 250=G:=I
def ang:dQ 251=G:=I
def apk:dQ 252=G:=I
def aws:dQ 253=G:=I
def axs:dQ 254=G:=I
def awj:dQ 255=G:=I
def aHj: ∀c,c<32->dQ (224+c)=G:=λc h=>match c,h with|0,_=>amd|1,_=>auj|2,_=>ane|3,_=>ami|4,_=>aqb|5,_=>akn|6,_=>ama|7,_=>aoe|8,_=>aor|9,_=>asb|10,_=>aru|11,_=>aul|12,_=>arh|13,_=>aqn|14,_=>alc|15,_=>ato|16,_=>ann|17,_=>avn|18,_=>apd|19,_=>asp|20,_=>aow|21,_=>asx|22,_=>aom|23,_=>akq|24,_=>axf|25,_=>akz|26,_=>awn|27,_=>ang|28,_=>apk|29,_=>aws|30,_=>axs|31,_=>awj|n+32,h=>absurd h O
end Go.Proofs.YtiggidfngfkanaaGreatDoor
