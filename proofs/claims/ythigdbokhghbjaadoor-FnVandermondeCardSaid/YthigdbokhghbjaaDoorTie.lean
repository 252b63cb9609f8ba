/-
  DERIVED. GIVEN WITH THE SEED: THE PROGRAM's TIES (one call each: nine closed facts by the kernel) AND EACH ROW's TIE, after the 31st guide's Derived/Test/Toyas{Tie, Card}.lean. No idea stands in it: it is a product of the set-up. Laid BY PROGRAM, IN A SANDBOX (cutbox-door.mjs). By AI agents, Wed Nov 11 2026. No macro, syntax, notation, axiom, sorry.
-/
import Derived.Test.YthigdbokhghbjaaDoorRows
import Derived.LaidByTextLater
import Derived.SevenTiedAt
import Derived.LaidSub
import Derived.LaidOnce
namespace Go.Proofs.YthigdbokhghbjaaDoor
open Go
set_option maxRecDepth 100000
theorem seatTie1 : Tryd.prog.laidByTextLater [("loop.example/pub-g03243/pub/reedsolomon.logTable", Rows.laid_loop_example_pub_g03243_pub_reedsolomon_logTable), ("loop.example/pub-g03243/pub/reedsolomon.expTable", Rows.laid_loop_example_pub_g03243_pub_reedsolomon_expTable)] [.data, .data] true :=
  Program.laidByTextLater_by_one 57 8 257 (by kernel_rfl) (by kernel_rfl) (by kernel_rfl) (by kernel_rfl) (by kernel_rfl) (by kernel_rfl) (fun _ _ => by kernel_rfl)
theorem seatTie2 : Tryd.prog.laidByTextLater [("loop.example/pub-g03243/pub/reedsolomon.errInvalidRowSize", Rows.laid_loop_example_pub_g03243_pub_reedsolomon_errInvalidRowSize), ("loop.example/pub-g03243/pub/reedsolomon.errInvalidColSize", Rows.laid_loop_example_pub_g03243_pub_reedsolomon_errInvalidColSize)] [.sentinel, .sentinel] true :=
  Program.laidByTextLater_by_one 57 8 257 (by kernel_rfl) (by kernel_rfl) (by kernel_rfl) (by kernel_rfl) (by kernel_rfl) (by kernel_rfl) (fun _ _ => by kernel_rfl)
theorem seatTie3 : Tryd.prog.laidByTextLater [("loop.example/pub-g03243/pub/reedsolomon.logTable", Rows.laid_loop_example_pub_g03243_pub_reedsolomon_logTable), ("loop.example/pub-g03243/pub/reedsolomon.expTable", Rows.laid_loop_example_pub_g03243_pub_reedsolomon_expTable), ("loop.example/pub-g03243/pub/reedsolomon.errInvalidRowSize", Rows.laid_loop_example_pub_g03243_pub_reedsolomon_errInvalidRowSize), ("loop.example/pub-g03243/pub/reedsolomon.errInvalidColSize", Rows.laid_loop_example_pub_g03243_pub_reedsolomon_errInvalidColSize)] [.data, .data, .sentinel, .sentinel] true :=
  Program.laidByTextLater_by_one 57 8 257 (by kernel_rfl) (by kernel_rfl) (by kernel_rfl) (by kernel_rfl) (by kernel_rfl) (by kernel_rfl) (fun _ _ => by kernel_rfl)
theorem noOwnUnsafe : Tryd.pinned.checked.prog.headLifts.contains "ownunsafe" = false := by kernel_rfl
theorem tie : Tryd.prog.laidByTextLater [("loop.example/pub-g03243/pub/reedsolomon.logTable", Rows.laid_loop_example_pub_g03243_pub_reedsolomon_logTable), ("loop.example/pub-g03243/pub/reedsolomon.expTable", Rows.laid_loop_example_pub_g03243_pub_reedsolomon_expTable)] [.data, .data] true :=
  Program.laidByTextLater.sub seatTie1 ["loop.example/pub-g03243/pub/reedsolomon.logTable", "loop.example/pub-g03243/pub/reedsolomon.expTable"] (by kernel_rfl) (by kernel_rfl)
theorem fnPower_row_tie : Rows.fnPowerRow.laidByTextAt .later Tryd.pinned [.data, .data] true :=
  OpenClaim.laidByTextAt_later rfl rfl tie noOwnUnsafe
theorem tie2 : Tryd.prog.laidByTextLater [("loop.example/pub-g03243/pub/reedsolomon.errInvalidRowSize", Rows.laid_loop_example_pub_g03243_pub_reedsolomon_errInvalidRowSize), ("loop.example/pub-g03243/pub/reedsolomon.errInvalidColSize", Rows.laid_loop_example_pub_g03243_pub_reedsolomon_errInvalidColSize)] [.sentinel, .sentinel] true :=
  Program.laidByTextLater.sub seatTie2 ["loop.example/pub-g03243/pub/reedsolomon.errInvalidRowSize", "loop.example/pub-g03243/pub/reedsolomon.errInvalidColSize"] (by kernel_rfl) (by kernel_rfl)
theorem fnIdentity_row_tie : Rows.fnIdentityRow.laidByTextAt .later Tryd.pinned [.sentinel, .sentinel] true :=
  OpenClaim.laidByTextAt_later rfl rfl tie2 noOwnUnsafe
theorem tie3 : Tryd.prog.laidByTextLater [("loop.example/pub-g03243/pub/reedsolomon.logTable", Rows.laid_loop_example_pub_g03243_pub_reedsolomon_logTable), ("loop.example/pub-g03243/pub/reedsolomon.expTable", Rows.laid_loop_example_pub_g03243_pub_reedsolomon_expTable), ("loop.example/pub-g03243/pub/reedsolomon.errInvalidRowSize", Rows.laid_loop_example_pub_g03243_pub_reedsolomon_errInvalidRowSize), ("loop.example/pub-g03243/pub/reedsolomon.errInvalidColSize", Rows.laid_loop_example_pub_g03243_pub_reedsolomon_errInvalidColSize)] [.data, .data, .sentinel, .sentinel] true :=
  Program.laidByTextLater.sub seatTie3 ["loop.example/pub-g03243/pub/reedsolomon.logTable", "loop.example/pub-g03243/pub/reedsolomon.expTable", "loop.example/pub-g03243/pub/reedsolomon.errInvalidRowSize", "loop.example/pub-g03243/pub/reedsolomon.errInvalidColSize"] (by kernel_rfl) (by kernel_rfl)
theorem fnVandermonde_row_tie : Rows.fnVandermondeRow.laidByTextAt .later Tryd.pinned [.data, .data, .sentinel, .sentinel] true :=
  OpenClaim.laidByTextAt_later rfl rfl tie3 noOwnUnsafe
theorem fnPowerUpto_row_tie : Rows.fnPowerUptoRow.laidByTextAt .later Tryd.pinned [.data, .data] true :=
  OpenClaim.laidByTextAt_later rfl rfl tie noOwnUnsafe
theorem fnIdentityUpto_row_tie : Rows.fnIdentityUptoRow.laidByTextAt .later Tryd.pinned [.sentinel, .sentinel] true :=
  OpenClaim.laidByTextAt_later rfl rfl tie2 noOwnUnsafe
theorem fnVandermondeUpto_row_tie : Rows.fnVandermondeUptoRow.laidByTextAt .later Tryd.pinned [.data, .data, .sentinel, .sentinel] true :=
  OpenClaim.laidByTextAt_later rfl rfl tie3 noOwnUnsafe
end Go.Proofs.YthigdbokhghbjaaDoor
