-- PRINTED BY print.sh 35421559b90ae4d0a3588c463048766b98c2df88dd9212a6774a882060cdf62d: not written by this session
import Derived.Test.YtolbfjjgdheikaaGreatFWInv
import Derived.Test.YtolbfjjgdheikaaGreatFWFootNe
set_option linter.unusedVariables false
set_option linter.unusedSimpArgs false
namespace Go.Proofs.YtolbfjjgdheikaaGreatW.PrintWords
open Go.RowKit
end Go.Proofs.YtolbfjjgdheikaaGreatW.PrintWords
namespace Go.Proofs.YtolbfjjgdheikaaGreatW.PrintLast
section
variable {ops : Array Oper} {a : Act} {o og : Oper} {g : Nat} {t : Tmp} {u : Bool}
end
end Go.Proofs.YtolbfjjgdheikaaGreatW.PrintLast
