import Derived.Test.YthkmblgehdofmaaGreatAWInv
import Derived.Test.YthkmblgehdofmaaGreatAWFootNe
set_option linter.unusedVariables false
set_option linter.unusedSimpArgs false
-- PRINTED BY print.sh 35421559b90ae4d0a3588c463048766b98c2df88dd9212a6774a882060cdf62d: not written by this session
namespace Go.Proofs.YthkmblgehdofmaaGreatW.PrintWords
open Go.RowKit
end Go.Proofs.YthkmblgehdofmaaGreatW.PrintWords
namespace Go.Proofs.YthkmblgehdofmaaGreatW.PrintLast
section
variable {ops : Array Oper} {a : Act} {o og : Oper} {g : Nat} {t : Tmp} {u : Bool}
end
end Go.Proofs.YthkmblgehdofmaaGreatW.PrintLast
