/-
  DERIVED. GIVEN WITH THE SEED: THE PROGRAM's TIES (one call each: nine closed facts by the kernel) AND EACH ROW's TIE, after the 31st guide's Derived/Test/Toyas{Tie, Card}.lean. No idea stands in it: it is a product of the set-up. Laid BY PROGRAM, IN A SANDBOX (cutbox-door.mjs). By AI agents, Wed Nov 11 2026. No macro, syntax, notation, axiom, sorry.
-/
import Derived.Test.YtpadbpmnejgckaaDoorRows
import Derived.LaidByTextLater
import Derived.SevenTiedAt
import Derived.LaidSub
import Derived.LaidOnce
namespace Go.Proofs.YtpadbpmnejgckaaDoor
open Go
set_option maxRecDepth 100000
theorem seatTie1 : Tryd.prog.laidByTextLater [("io.EOF", Rows.laid_io_EOF), ("io.ErrUnexpectedEOF", Rows.laid_io_ErrUnexpectedEOF), ("given.example/pub-saddlebag/pub/msgp/msgp.ErrShortBytes", Rows.laid_given_example_pub_saddlebag_pub_msgp_msgp_ErrShortBytes), ("given.example/pub-saddlebag/pub/msgp/msgp.ErrRecursion", Rows.laid_given_example_pub_saddlebag_pub_msgp_msgp_ErrRecursion), ("given.example/pub-saddlebag/pub/msgp/msgp.ErrLimitExceeded", Rows.laid_given_example_pub_saddlebag_pub_msgp_msgp_ErrLimitExceeded), ("given.example/pub-saddlebag/pub/msgp/msgp.fatal", Rows.laid_given_example_pub_saddlebag_pub_msgp_msgp_fatal)] [.sentinel, .sentinel, .wider, .wider, .wider, .wider] true :=
  Program.laidByTextLater_by_one 71 8 2 (by kernel_rfl) (by kernel_rfl) (by kernel_rfl) (by kernel_rfl) (by kernel_rfl) (by kernel_rfl) (fun _ _ => by kernel_rfl)
theorem noOwnUnsafe : Tryd.pinned.checked.prog.headLifts.contains "ownunsafe" = false := by kernel_rfl
theorem tie : Tryd.prog.laidByTextLater [("given.example/pub-saddlebag/pub/msgp/msgp.ErrShortBytes", Rows.laid_given_example_pub_saddlebag_pub_msgp_msgp_ErrShortBytes)] [.wider] true :=
  Program.laidByTextLater.sub seatTie1 ["given.example/pub-saddlebag/pub/msgp/msgp.ErrShortBytes"] (by kernel_rfl) (by kernel_rfl)
theorem fnNumberGet_row_tie : Rows.fnNumberGetRow.laidByTextAt .later Tryd.pinned [.wider] true :=
  OpenClaim.laidByTextAt_later rfl rfl tie noOwnUnsafe
theorem tie2 : Tryd.prog.laidByTextLater [("given.example/pub-saddlebag/pub/msgp/msgp.ErrShortBytes", Rows.laid_given_example_pub_saddlebag_pub_msgp_msgp_ErrShortBytes), ("given.example/pub-saddlebag/pub/msgp/msgp.ErrRecursion", Rows.laid_given_example_pub_saddlebag_pub_msgp_msgp_ErrRecursion), ("given.example/pub-saddlebag/pub/msgp/msgp.fatal", Rows.laid_given_example_pub_saddlebag_pub_msgp_msgp_fatal)] [.wider, .wider, .wider] true :=
  Program.laidByTextLater.sub seatTie1 ["given.example/pub-saddlebag/pub/msgp/msgp.ErrShortBytes", "given.example/pub-saddlebag/pub/msgp/msgp.ErrRecursion", "given.example/pub-saddlebag/pub/msgp/msgp.fatal"] (by kernel_rfl) (by kernel_rfl)
theorem fnRemove_row_tie : Rows.fnRemoveRow.laidByTextAt .later Tryd.pinned [.wider, .wider, .wider] true :=
  OpenClaim.laidByTextAt_later rfl rfl tie2 noOwnUnsafe
theorem tie3 : Tryd.prog.laidByTextLater [("io.EOF", Rows.laid_io_EOF), ("io.ErrUnexpectedEOF", Rows.laid_io_ErrUnexpectedEOF)] [.sentinel, .sentinel] true :=
  Program.laidByTextLater.sub seatTie1 ["io.EOF", "io.ErrUnexpectedEOF"] (by kernel_rfl) (by kernel_rfl)
theorem fnStreamGetFloat32_row_tie : Rows.fnStreamGetFloat32Row.laidByTextAt .later Tryd.pinned [.sentinel, .sentinel] true :=
  OpenClaim.laidByTextAt_later rfl rfl tie3 noOwnUnsafe
theorem fnStreamGetMapHead_row_tie : Rows.fnStreamGetMapHeadRow.laidByTextAt .later Tryd.pinned [.sentinel, .sentinel] true :=
  OpenClaim.laidByTextAt_later rfl rfl tie3 noOwnUnsafe
theorem fnStreamGetInt_row_tie : Rows.fnStreamGetIntRow.laidByTextAt .later Tryd.pinned [.sentinel, .sentinel] true :=
  OpenClaim.laidByTextAt_later rfl rfl tie3 noOwnUnsafe
theorem fnStreamGetUint_row_tie : Rows.fnStreamGetUintRow.laidByTextAt .later Tryd.pinned [.sentinel, .sentinel] true :=
  OpenClaim.laidByTextAt_later rfl rfl tie3 noOwnUnsafe
theorem tie4 : Tryd.prog.laidByTextLater [("io.EOF", Rows.laid_io_EOF), ("io.ErrUnexpectedEOF", Rows.laid_io_ErrUnexpectedEOF), ("given.example/pub-saddlebag/pub/msgp/msgp.ErrLimitExceeded", Rows.laid_given_example_pub_saddlebag_pub_msgp_msgp_ErrLimitExceeded)] [.sentinel, .sentinel, .wider] true :=
  Program.laidByTextLater.sub seatTie1 ["io.EOF", "io.ErrUnexpectedEOF", "given.example/pub-saddlebag/pub/msgp/msgp.ErrLimitExceeded"] (by kernel_rfl) (by kernel_rfl)
theorem fnStreamGetBin_row_tie : Rows.fnStreamGetBinRow.laidByTextAt .later Tryd.pinned [.sentinel, .sentinel, .wider] true :=
  OpenClaim.laidByTextAt_later rfl rfl tie4 noOwnUnsafe
theorem tie5 : Tryd.prog.laidByTextLater [("io.EOF", Rows.laid_io_EOF), ("io.ErrUnexpectedEOF", Rows.laid_io_ErrUnexpectedEOF), ("given.example/pub-saddlebag/pub/msgp/msgp.ErrShortBytes", Rows.laid_given_example_pub_saddlebag_pub_msgp_msgp_ErrShortBytes), ("given.example/pub-saddlebag/pub/msgp/msgp.ErrRecursion", Rows.laid_given_example_pub_saddlebag_pub_msgp_msgp_ErrRecursion), ("given.example/pub-saddlebag/pub/msgp/msgp.fatal", Rows.laid_given_example_pub_saddlebag_pub_msgp_msgp_fatal)] [.sentinel, .sentinel, .wider, .wider, .wider] true :=
  Program.laidByTextLater.sub seatTie1 ["io.EOF", "io.ErrUnexpectedEOF", "given.example/pub-saddlebag/pub/msgp/msgp.ErrShortBytes", "given.example/pub-saddlebag/pub/msgp/msgp.ErrRecursion", "given.example/pub-saddlebag/pub/msgp/msgp.fatal"] (by kernel_rfl) (by kernel_rfl)
theorem fnStreamSkip_row_tie : Rows.fnStreamSkipRow.laidByTextAt .later Tryd.pinned [.sentinel, .sentinel, .wider, .wider, .wider] true :=
  OpenClaim.laidByTextAt_later rfl rfl tie5 noOwnUnsafe
theorem fnNumberGetUpto_row_tie : Rows.fnNumberGetUptoRow.laidByTextAt .later Tryd.pinned [.wider] true :=
  OpenClaim.laidByTextAt_later rfl rfl tie noOwnUnsafe
theorem fnRemoveUpto_row_tie : Rows.fnRemoveUptoRow.laidByTextAt .later Tryd.pinned [.wider, .wider, .wider] true :=
  OpenClaim.laidByTextAt_later rfl rfl tie2 noOwnUnsafe
theorem fnStreamGetFloat32Upto_row_tie : Rows.fnStreamGetFloat32UptoRow.laidByTextAt .later Tryd.pinned [.sentinel, .sentinel] true :=
  OpenClaim.laidByTextAt_later rfl rfl tie3 noOwnUnsafe
theorem fnStreamGetMapHeadUpto_row_tie : Rows.fnStreamGetMapHeadUptoRow.laidByTextAt .later Tryd.pinned [.sentinel, .sentinel] true :=
  OpenClaim.laidByTextAt_later rfl rfl tie3 noOwnUnsafe
theorem fnStreamGetBinUpto_row_tie : Rows.fnStreamGetBinUptoRow.laidByTextAt .later Tryd.pinned [.sentinel, .sentinel, .wider] true :=
  OpenClaim.laidByTextAt_later rfl rfl tie4 noOwnUnsafe
theorem fnStreamGetIntUpto_row_tie : Rows.fnStreamGetIntUptoRow.laidByTextAt .later Tryd.pinned [.sentinel, .sentinel] true :=
  OpenClaim.laidByTextAt_later rfl rfl tie3 noOwnUnsafe
theorem fnStreamGetUintUpto_row_tie : Rows.fnStreamGetUintUptoRow.laidByTextAt .later Tryd.pinned [.sentinel, .sentinel] true :=
  OpenClaim.laidByTextAt_later rfl rfl tie3 noOwnUnsafe
theorem fnStreamSkipUpto_row_tie : Rows.fnStreamSkipUptoRow.laidByTextAt .later Tryd.pinned [.sentinel, .sentinel, .wider, .wider, .wider] true :=
  OpenClaim.laidByTextAt_later rfl rfl tie5 noOwnUnsafe
end Go.Proofs.YtpadbpmnejgckaaDoor
