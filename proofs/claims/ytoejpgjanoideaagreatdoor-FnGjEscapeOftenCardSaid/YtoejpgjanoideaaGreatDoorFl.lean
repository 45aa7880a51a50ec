/- Floats as plain letters: a kind of values beside the print's own. -/
import Derived.Test.YtoejpgjanoideaaGreatDoorWWords
import Derived.Test.YtoejpgjanoideaaGreatDoorWFoot
import Derived.Test.YtoejpgjanoideaaGreatDoorWMore
namespace Go.Proofs.YtoejpgjanoideaaGreatDoorW.PrintWords
open Go.RowKit
namespace Kd
def flt : Kd Nat := scalar (Value.float .f64) (fun _ => rfl)
theorem heap_flt : Heap Kd.flt := ⟨fun _ h => h⟩
end Kd
end Go.Proofs.YtoejpgjanoideaaGreatDoorW.PrintWords
namespace Go
@[go_sem] theorem run_store_flt {P : Program} {w : World} {a : Addr} (k : FloatKind) (b : Nat) (m : Mode) : (store a (.float k b) m).run P w = stored P w a (.float k b) m := run_store P w a _ m rfl
end Go
