/-
  DERIVED. GIVEN WITH THE SEED: THE PROGRAM's TIES (one call each: nine closed facts by the kernel) AND EACH ROW's TIE, after the 31st guide's Derived/Test/Toyas{Tie, Card}.lean. No idea stands in it: it is a product of the set-up. Laid BY PROGRAM, IN A SANDBOX (cutbox-door.mjs). By AI agents, Wed Nov 11 2026. No macro, syntax, notation, axiom, sorry.
-/
import Derived.Test.YtmliokplekeljaaGreatDoorRows
import Derived.LaidByTextLater
import Derived.SevenTiedAt
import Derived.LaidSub
import Derived.LaidOnce
namespace Go.Proofs.YtmliokplekeljaaGreatDoor
open Go
set_option maxRecDepth 100000
theorem seatTie1 : Tryz.prog.laidByTextLater [("loop.example/pub-g03086/pub/msgp.ErrShortBytes", Rows.laid_loop_example_pub_g03086_pub_msgp_ErrShortBytes), ("loop.example/pub-g03086/pub/msgp.ErrRecursion", Rows.laid_loop_example_pub_g03086_pub_msgp_ErrRecursion), ("loop.example/pub-g03086/pub/msgp.fatal", Rows.laid_loop_example_pub_g03086_pub_msgp_fatal)] [.wider, .wider, .wider] true :=
  Program.laidByTextLater_by_one 27 8 2 (by kernel_rfl) (by kernel_rfl) (by kernel_rfl) (by kernel_rfl) (by kernel_rfl) (by kernel_rfl) (fun _ _ => by kernel_rfl)
theorem noOwnUnsafe : Tryz.pinned.checked.prog.headLifts.contains "ownunsafe" = false := by kernel_rfl
theorem tie : Tryz.prog.laidByTextLater [("loop.example/pub-g03086/pub/msgp.ErrShortBytes", Rows.laid_loop_example_pub_g03086_pub_msgp_ErrShortBytes), ("loop.example/pub-g03086/pub/msgp.ErrRecursion", Rows.laid_loop_example_pub_g03086_pub_msgp_ErrRecursion)] [.wider, .wider] true :=
  Program.laidByTextLater.sub seatTie1 ["loop.example/pub-g03086/pub/msgp.ErrShortBytes", "loop.example/pub-g03086/pub/msgp.ErrRecursion"] (by kernel_rfl) (by kernel_rfl)
theorem fnTreeAgain_row_tie : Rows.fnTreeAgainRow.laidByTextAt .later Tryz.pinned [.wider, .wider] true :=
  OpenClaim.laidByTextAt_later rfl rfl tie noOwnUnsafe
theorem fnTreeAny_row_tie : Rows.fnTreeAnyRow.laidByTextAt .later Tryz.pinned [.wider, .wider] true :=
  OpenClaim.laidByTextAt_later rfl rfl tie noOwnUnsafe
theorem tie2 : Tryz.prog.laidByTextLater [("loop.example/pub-g03086/pub/msgp.ErrShortBytes", Rows.laid_loop_example_pub_g03086_pub_msgp_ErrShortBytes), ("loop.example/pub-g03086/pub/msgp.ErrRecursion", Rows.laid_loop_example_pub_g03086_pub_msgp_ErrRecursion), ("loop.example/pub-g03086/pub/msgp.fatal", Rows.laid_loop_example_pub_g03086_pub_msgp_fatal)] [.wider, .wider, .wider] true :=
  Program.laidByTextLater.sub seatTie1 ["loop.example/pub-g03086/pub/msgp.ErrShortBytes", "loop.example/pub-g03086/pub/msgp.ErrRecursion", "loop.example/pub-g03086/pub/msgp.fatal"] (by kernel_rfl) (by kernel_rfl)
theorem fnTreeSkip_row_tie : Rows.fnTreeSkipRow.laidByTextAt .later Tryz.pinned [.wider, .wider, .wider] true :=
  OpenClaim.laidByTextAt_later rfl rfl tie2 noOwnUnsafe
theorem fnTreeAgainUpto_row_tie : Rows.fnTreeAgainUptoRow.laidByTextAt .later Tryz.pinned [.wider, .wider] true :=
  OpenClaim.laidByTextAt_later rfl rfl tie noOwnUnsafe
theorem fnTreeAnyUpto_row_tie : Rows.fnTreeAnyUptoRow.laidByTextAt .later Tryz.pinned [.wider, .wider] true :=
  OpenClaim.laidByTextAt_later rfl rfl tie noOwnUnsafe
theorem fnTreeSkipUpto_row_tie : Rows.fnTreeSkipUptoRow.laidByTextAt .later Tryz.pinned [.wider, .wider, .wider] true :=
  OpenClaim.laidByTextAt_later rfl rfl tie2 noOwnUnsafe
end Go.Proofs.YtmliokplekeljaaGreatDoor
