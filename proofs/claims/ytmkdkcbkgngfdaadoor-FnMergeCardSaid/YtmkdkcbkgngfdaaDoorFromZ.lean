/- fromGo at every depth. -/
import Derived.Test.YtmkdkcbkgngfdaaDoorFromW
import Derived.Test.YtmkdkcbkgngfdaaDoorMapX
namespace Go.Proofs.YtmkdkcbkgngfdaaDoor
open Go.RowKit
set_option linter.unusedVariables false

theorem fromGo_any : ∀ n, FG n
  | 0 => fun w lo x v hx _ => absurd hx (fun h => h)
  | n + 1 => from_step n (listFrom_step n (fromGo_any n)) (mapFrom_step n (fromGo_any n))
theorem listFromGo_any (n : Nat) : FL n := listFrom_step n (fromGo_any n)
theorem mapFromGo_any (n : Nat) : FM n := mapFrom_step n (fromGo_any n)
end Go.Proofs.YtmkdkcbkgngfdaaDoor
