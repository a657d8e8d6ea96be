import Derived.Test.Qxb6601842aDoorRows
import Derived.Lay
import Derived.Handed
import Derived.LaidMore
import Derived.MakeChecks
namespace Go.Proofs.Qxb6601842aDoor
set_option maxRecDepth 100000

theorem ownD : ownKnob Tryd.prog.godebug = none := by kernel_rfl

theorem wit_zip (os : Os) (args : Array Value) : ((World.laidAll Tryd.prog os [("bytes.ErrTooLarge", Rows.laid_bytes_ErrTooLarge)]).forCall (fun _ _ => 0) ⟨#[], args, []⟩).variablesZipB Tryd.prog = true := by kernel_rfl
theorem wit_rest (os : Os) (args : Array Value) : (((World.laidAll Tryd.prog os [("bytes.ErrTooLarge", Rows.laid_bytes_ErrTooLarge)]).forCall (fun _ _ => 0) ⟨#[], args, []⟩).heap.toList.drop Tryd.prog.globals.size).take ((begin Tryd.prog (fun _ _ => 0) default).world.heap.size - Tryd.prog.globals.size) =
      (begin Tryd.prog (fun _ _ => 0) default).world.heap.toList.drop Tryd.prog.globals.size := by kernel_rfl
theorem wit_shaped (os : Os) (args : Array Value) : ((World.laidAll Tryd.prog os [("bytes.ErrTooLarge", Rows.laid_bytes_ErrTooLarge)]).forCall (fun _ _ => 0) ⟨#[], args, []⟩).Shaped Tryd.prog :=
  World.shaped_of_ZipB (wit_zip os args) (wit_rest os args)
theorem wit_fits (os : Os) : (World.holding Tryd.prog os ⟨#[], #[], []⟩).layFits Tryd.prog [("bytes.ErrTooLarge", Rows.laid_bytes_ErrTooLarge)] [] = true := by kernel_rfl
theorem wit_ifaces (os : Os) : (World.holding Tryd.prog os ⟨#[], #[], []⟩).layIfaces Tryd.prog [("bytes.ErrTooLarge", Rows.laid_bytes_ErrTooLarge)] (World.laidAll Tryd.prog os [("bytes.ErrTooLarge", Rows.laid_bytes_ErrTooLarge)]) = true := by kernel_rfl
theorem wit_met (os : Os) (args : Array Value) : laidMetH Tryd.prog [("bytes.ErrTooLarge", Rows.laid_bytes_ErrTooLarge)] ((World.laidAll Tryd.prog os [("bytes.ErrTooLarge", Rows.laid_bytes_ErrTooLarge)]).forCall (fun _ _ => 0) ⟨#[], args, []⟩).memory := by
  rw [MakeChecks.laidMetH_plain _ _ _ (by kernel_rfl)]
  exact laidMet_laidAll _ (wit_fits os) (wit_ifaces os)
end Go.Proofs.Qxb6601842aDoor
