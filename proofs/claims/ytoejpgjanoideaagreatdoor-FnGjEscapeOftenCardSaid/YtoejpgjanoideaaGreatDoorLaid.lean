/- A world whose package-level tables hold what their initialisers lay: the witness of the rows that list these tables. -/
import Derived.Test.YtoejpgjanoideaaGreatDoorCards
import Derived.Test.YtoejpgjanoideaaGreatDoorTie
import Derived.WalkKit
import Derived.ProofKit
import Derived.OpenShut
import Derived.SliceStrings
import Derived.Carry
import Derived.Lay
import Derived.Deep.DeepHandedRow
import Derived.Deep.DeepWitnessRowRef
namespace Go.Proofs.YtoejpgjanoideaaGreatDoor.F
open Go.ChangeShapes Go.WideShapes Go.ChangeAt Go.RowKit

theorem own : ownKnob Tryz.prog.godebug = none := by kernel_rfl
theorem laidOut : laidOutB Tryz.prog = true := by kernel_rfl
/-- The list that all rows of this seat bear. -/
abbrev laidList : List (String × DataW Unit) := Rows.fnGjEscapeOftenRow.laid
noncomputable abbrev mem (os : Os) (args : Array Value) : World := ((World.laidAll Tryz.prog os laidList).forCall (fun _ _ => 0) ⟨#[], args, []⟩).memory
set_option maxRecDepth 1000000 in
theorem laid_fits (os : Os) : (World.holding Tryz.prog os ⟨#[], #[], []⟩).layFits Tryz.prog laidList [] = true := by kernel_rfl
set_option maxRecDepth 1000000 in
theorem laid_ifaces (os : Os) : (World.holding Tryz.prog os ⟨#[], #[], []⟩).layIfaces Tryz.prog laidList (World.laidAll Tryz.prog os laidList) = true := by kernel_rfl
theorem laid_met (os : Os) (args : Array Value) : laidMet Tryz.prog laidList (mem os args) := laidMet_laidAll args (laid_fits os) (laid_ifaces os)
set_option maxRecDepth 1000000 in
theorem laid_zip (os : Os) (args : Array Value) : ((World.laidAll Tryz.prog os laidList).forCall (fun _ _ => 0) ⟨#[], args, []⟩).variablesZipB Tryz.prog = true := by kernel_rfl
set_option maxRecDepth 1000000 in
theorem laid_rest (os : Os) (args : Array Value) : (((World.laidAll Tryz.prog os laidList).forCall (fun _ _ => 0) ⟨#[], args, []⟩).heap.toList.drop Tryz.prog.globals.size).take ((begin Tryz.prog (fun _ _ => 0) default).world.heap.size - Tryz.prog.globals.size) =
      (begin Tryz.prog (fun _ _ => 0) default).world.heap.toList.drop Tryz.prog.globals.size := by kernel_rfl
theorem laid_shaped (os : Os) (args : Array Value) : ((World.laidAll Tryz.prog os laidList).forCall (fun _ _ => 0) ⟨#[], args, []⟩).Shaped Tryz.prog := World.shaped_of_ZipB (laid_zip os args) (laid_rest os args)
theorem witness_laid {H : Type} {enc : TypeId × Value → H} {os : Os} {f : FuncId} {fn : Func} {s : OpenSpec} {conds : List PathCond} (args : Array Value)
    (hok : Input.okWideB Tryz.prog ((World.laidAll Tryz.prog os laidList).forCall (fun _ _ => 0) ⟨#[], args, []⟩) f ⟨#[], args, []⟩ = true)
    (hrow : s.preRow enc Tryz.checked.prog fn conds false laidList (mem os args) args) :
    ∃ (w : World) (tape : Tape) (i : Input), w.os = os ∧ (w.forCall tape i).Shaped Tryz.checked.prog ∧ i.vars = [] ∧ Input.okWide Tryz.checked.prog (w.forCall tape i) .any w.heap.size f i ∧
      s.preRow enc Tryz.checked.prog fn conds false laidList (w.forCall tape i).memory i.args ∧ ({} : Assume).holds Tryz.checked.prog (lone (Frame.enter Tryz.checked.prog f i.args .normal) [] (w.forCall tape i)) :=
  ⟨World.laidAll Tryz.prog os laidList, fun _ _ => 0, ⟨#[], args, []⟩, World.laidAll_os _ _ _, laid_shaped os args, (Input.okWide_of_okWideB (base := 0) hok).1, (Input.okWide_of_okWideB hok).2, hrow, by
    simp only [Assume.holds]
    exact ⟨by simp, by simp, fun _ => Modest.zero, by simp, by simp⟩⟩
end Go.Proofs.YtoejpgjanoideaaGreatDoor.F
