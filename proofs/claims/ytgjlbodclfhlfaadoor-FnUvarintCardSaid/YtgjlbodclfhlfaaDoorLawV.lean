/-
  FnVarfloat: it is true.
-/
import Derived.Test.YtgjlbodclfhlfaaDoorPlainWhole
import Derived.Test.YtgjlbodclfhlfaaDoorPlainRead
import Derived.Test.YtgjlbodclfhlfaaDoorExact
import Derived.Test.YtgjlbodclfhlfaaDoorSpecV
import Derived.Test.YtgjlbodclfhlfaaDoorFromV
import Derived.Test.YtgjlbodclfhlfaaDoorImplEnc
import Derived.Test.YtgjlbodclfhlfaaDoorImplSizes
namespace Go.Proofs.YtgjlbodclfhlfaaDoor
open Go.RowKit

set_option maxRecDepth 100000 in
set_option maxHeartbeats 800000 in
theorem fnVarfloat_big (fb n c : Nat) (ao : Option Addr) (w : World) (h : 2147483647 < n) :
    Calls Tryd.prog 3 #[.float .f64 fb, .slice ao n c] w fun e w' => IsTrue w e w' := by
  have h' : (n : Int) > 2147483647 := by omega
  clear h
  go_enter Tryd.func3, Tryd.ntmps3
  go_wp2_with fail
  all_goals
    go_ret
    exact ⟨rfl, Below.refl _ _⟩

set_option maxRecDepth 100000 in
set_option maxHeartbeats 800000 in
theorem fnVarfloat_long (fb n c : Nat) (ao : Option Addr) (w : World) (h0 : n ≤ 2147483647) (h : 50 < n) (k1 : (FloatKind.f64.format.order fb 0 == some .gt || FloatKind.f64.format.order fb 0 == some .eq) = true) (k2 : (FloatKind.f64.format.order fb 4841369599423283200 == some .lt || FloatKind.f64.format.order fb 4841369599423283200 == some .eq) = true) :
    Calls Tryd.prog 3 #[.float .f64 fb, .slice ao n c] w fun e w' => IsTrue w e w' := by
  have h' : ¬ (n : Int) > 2147483647 := by omega
  have h2 : (n : Int) > 50 := by omega
  clear h h0
  go_enter Tryd.func3, Tryd.ntmps3
  go_wp2_with (go_at_call 5; refine (works_any _).mono ?_; rintro e w' ⟨rfl, hbel⟩)
  all_goals
    go_ret
    exact ⟨rfl, by assumption⟩

set_option maxRecDepth 100000 in
set_option maxHeartbeats 800000 in
theorem fnVarfloat_out (fb n c : Nat) (ao : Option Addr) (w : World) (h0 : n ≤ 2147483647) (h : ((FloatKind.f64.format.order fb 0 == some .gt || FloatKind.f64.format.order fb 0 == some .eq) && (FloatKind.f64.format.order fb 4841369599423283200 == some .lt || FloatKind.f64.format.order fb 4841369599423283200 == some .eq)) = false) :
    Calls Tryd.prog 3 #[.float .f64 fb, .slice ao n c] w fun e w' => IsTrue w e w' := by
  have h' : ¬ (n : Int) > 2147483647 := by omega
  clear h0
  go_enter Tryd.func3, Tryd.ntmps3
  go_wp2_with (go_at_call 5; refine (works_any _).mono ?_; rintro e w' ⟨rfl, hbel⟩)
  all_goals
    go_ret
    exact ⟨rfl, by assumption⟩
end Go.Proofs.YtgjlbodclfhlfaaDoor
