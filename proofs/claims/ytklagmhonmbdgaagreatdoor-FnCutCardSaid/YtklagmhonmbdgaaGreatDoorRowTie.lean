/- Facts on the program and on what is laid -/
import Derived.Test.YtklagmhonmbdgaaGreatDoorRows
import Derived.LaidByTextLater
import Derived.SevenTiedAt
import Derived.LaidSub
import Derived.LaidOnce
import Derived.Test.YtklagmhonmbdgaaGreatDoorRowFacts
set_option maxRecDepth 1000000
set_option linter.unusedVariables false
set_option linter.unusedSimpArgs false
set_option maxHeartbeats 4000000
namespace Go.Proofs.YtklagmhonmbdgaaGreatDoor
open Go
abbrev laidT:List (String×DataW Unit):=[("errors.errorType",Rows.laid_errors_errorType),("io.ErrShortBuffer",Rows.laid_io_ErrShortBuffer),("io.EOF",Rows.laid_io_EOF),("io.ErrUnexpectedEOF",Rows.laid_io_ErrUnexpectedEOF),("io.ErrNoProgress",Rows.laid_io_ErrNoProgress),("loop.example/pub-g03440/pub/flate.codeOrder",Rows.laid_loop_example_pub_g03440_pub_flate_codeOrder),("loop.example/pub-g03440/pub/zlib.ErrDictionary",Rows.laid_loop_example_pub_g03440_pub_zlib_ErrDictionary),("loop.example/pub-g03440/pub/zlib.ErrHeader",Rows.laid_loop_example_pub_g03440_pub_zlib_ErrHeader),("loop.example/pub-g03440/pub/png.interlacing",Rows.laid_loop_example_pub_g03440_pub_png_interlacing),("loop.example/pub-g03440/pub/png.ieeeTable",Rows.laid_loop_example_pub_g03440_pub_png_ieeeTable)]
theorem tieW:Tryz.prog.worded (varsWordLater true)=true:=by kernel_rfl
theorem tieW':Tryz.prog.worded (varsWordLater !true)=false:=by kernel_rfl
theorem tieR:Tryz.prog.worded rootWordLater=true:=by kernel_rfl
theorem tieK:laidT.map (fun x=>Tryz.prog.kindOfLater x.1)=([.handle,.sentinel,.sentinel,.sentinel,.sentinel,.data,.sentinel,.sentinel,.data,.data]:List LaidKind).map some:=by kernel_rfl
theorem tieG:(Tryz.prog.funcNamed "gosem.cut.vars").isSome=true:=by kernel_rfl
theorem tieN:varsNamedLaterB Tryz.prog (varsId Tryz.prog) laidT=true:=by kernel_rfl
theorem tieRun(os:Os)(tape:Tape):doorLeaves Tryz.prog 205 8 257 laidT os tape=some (laidT.filter fun x=>x.2.handleName?.isNone,(funcsListed laidT).map (·.2.funcsOut)):=by kernel_rfl
theorem rowsTie:Tryz.prog.laidByTextLater laidT [.handle,.sentinel,.sentinel,.sentinel,.sentinel,.data,.sentinel,.sentinel,.data,.data] true:=
 Program.laidByTextLater_by_one 205 8 257 tieW tieW' tieR tieK tieG tieN tieRun
theorem noUnsafeT:Tryz.pinned.checked.prog.headLifts.contains "ownunsafe" =false:=by
 show Tryz.prog.headLifts.contains "ownunsafe" =false;rw[noLiftsT]
 rfl
end Go.Proofs.YtklagmhonmbdgaaGreatDoor
