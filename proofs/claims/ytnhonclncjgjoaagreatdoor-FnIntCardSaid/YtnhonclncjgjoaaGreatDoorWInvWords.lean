-- OUT OF WHAT print.sh 35421559b90ae4d0a3588c463048766b98c2df88dd9212a6774a882060cdf62d PRINTED: cut down to what this claim names
import Derived.Test.YtnhonclncjgjoaaGreatDoorWInv
import Derived.Test.YtnhonclncjgjoaaGreatDoorWFootNe
namespace Go.Proofs.YtnhonclncjgjoaaGreatDoorW.PrintWords
open Go.RowKit
end Go.Proofs.YtnhonclncjgjoaaGreatDoorW.PrintWords
namespace Go.Proofs.YtnhonclncjgjoaaGreatDoorW.PrintLast
section
variable {ops : Array Oper} {a : Act} {o og : Oper} {g : Nat} {t : Tmp} {u : Bool}
end
end Go.Proofs.YtnhonclncjgjoaaGreatDoorW.PrintLast
