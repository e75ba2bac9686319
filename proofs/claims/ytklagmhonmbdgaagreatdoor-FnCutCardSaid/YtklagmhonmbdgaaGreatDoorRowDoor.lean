/- Facts on the program and on what is laid -/
import Derived.Test.YtklagmhonmbdgaaGreatDoorRows
import Derived.LaidByTextLater
import Derived.Test.YtklagmhonmbdgaaGreatDoorCards
import Derived.ProofKit
import Derived.LaidMore
import Derived.OpenShut
import Derived.OpenVars
import Derived.Below
import Derived.Stop.Joined
import Derived.SevenTiedAt
import Derived.Test.YtklagmhonmbdgaaGreatDoorK0
set_option maxRecDepth 1000000
set_option linter.unusedVariables false
set_option linter.unusedSimpArgs false
set_option maxHeartbeats 4000000
namespace Go.Proofs.YtklagmhonmbdgaaGreatDoor
open Go Go.V Go.ChangeShapes Go.WideShapes Go.ChangeAt Go.RowKit
open Go.IntKind (wrap)
theorem own:ownKnob Tryz.prog.godebug=none:=by kernel_rfl
theorem laidOut:laidOutB Tryz.prog=true:=by kernel_rfl
def laidL:List (String×DataW Unit):=[("errors.errorType",Rows.laid_errors_errorType),("io.ErrShortBuffer",Rows.laid_io_ErrShortBuffer),("io.EOF",Rows.laid_io_EOF),("io.ErrUnexpectedEOF",Rows.laid_io_ErrUnexpectedEOF),("io.ErrNoProgress",Rows.laid_io_ErrNoProgress),("loop.example/pub-g03440/pub/flate.codeOrder",Rows.laid_loop_example_pub_g03440_pub_flate_codeOrder),("loop.example/pub-g03440/pub/zlib.ErrDictionary",Rows.laid_loop_example_pub_g03440_pub_zlib_ErrDictionary),("loop.example/pub-g03440/pub/zlib.ErrHeader",Rows.laid_loop_example_pub_g03440_pub_zlib_ErrHeader),("loop.example/pub-g03440/pub/png.interlacing",Rows.laid_loop_example_pub_g03440_pub_png_interlacing),("loop.example/pub-g03440/pub/png.ieeeTable",Rows.laid_loop_example_pub_g03440_pub_png_ieeeTable)]
theorem door_met(os:Os)(args:vQ):laidMetH Tryz.prog laidL ((World.doorLaid Tryz.prog 205 os).forCall (fun _ _ =>0) ⟨#[],args,[]⟩).memory:=
 laidMetH_of_parts3 (fuel:=8) (laidMet_of_run' 8 (by kernel_rfl) (by kernel_rfl)) (by kernel_rfl) (by kernel_rfl)
end Go.Proofs.YtklagmhonmbdgaaGreatDoor
