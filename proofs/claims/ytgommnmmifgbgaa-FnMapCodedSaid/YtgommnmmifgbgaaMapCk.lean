/-
  Each kind of mapping at each percent: it is made, and made anew of what is read it is the same.
-/
import Derived.Test.YtgommnmmifgbgaaMapEq
import Derived.Test.YtgommnmmifgbgaaNew
namespace Go.Proofs.Ytgommnmmifgbgaa
open Go.RowKit

def zeroOrNear (x : Nat) : Bool := x == 0 || nearF x
def chkLog (p : Nat) : Bool :=
  ((fdiv (floatOfInt .f64 p) 4636737291354636288).bind fun a => (ofLogF a).map fun r => nearF r.1 && zeroOrNear r.2.1 && decide (r.1 < 18446744073709551616) && decide (r.2.1 < 18446744073709551616) && (newLogF r.1 r.2.1 == some r.2.2)) == some true
def chkLin (p : Nat) : Bool :=
  ((fdiv (floatOfInt .f64 p) 4636737291354636288).bind fun a => (ofLinF a).map fun r => nearF r.1 && zeroOrNear r.2.1 && decide (r.1 < 18446744073709551616) && decide (r.2.1 < 18446744073709551616) && (newLinF r.1 r.2.1 == some r.2.2)) == some true
def chkCub (p : Nat) : Bool :=
  ((fdiv (floatOfInt .f64 p) 4636737291354636288).bind fun a => (ofCubF a).map fun r => nearF r.1 && zeroOrNear r.2.1 && decide (r.1 < 18446744073709551616) && decide (r.2.1 < 18446744073709551616) && (newCubF r.1 r.2.1 == some r.2.2)) == some true

end Go.Proofs.Ytgommnmmifgbgaa
