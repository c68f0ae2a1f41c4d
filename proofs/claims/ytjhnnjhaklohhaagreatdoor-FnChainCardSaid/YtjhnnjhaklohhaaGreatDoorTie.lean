/-
  DERIVED. GIVEN WITH THE SEED: THE PROGRAM's TIES (one call each: nine closed facts by the kernel) AND EACH ROW's TIE, after the 31st guide's Derived/Test/Toyas{Tie, Card}.lean. No idea stands in it: it is a product of the set-up. Laid BY PROGRAM, IN A SANDBOX (cutbox-door.mjs). By AI agents, Wed Nov 11 2026. No macro, syntax, notation, axiom, sorry.
-/
import Derived.Test.YtjhnnjhaklohhaaGreatDoorRows
import Derived.LaidByTextLater
import Derived.SevenTiedAt
import Derived.LaidSub
import Derived.LaidOnce
namespace Go.Proofs.YtjhnnjhaklohhaaGreatDoor
open Go
set_option maxRecDepth 100000
theorem seatTie1 : Tryz.prog.laidByTextLater [("lightclient/pub/sha256._K", Rows.laid_lightclient_pub_sha256_K)] [.data] true :=
  Program.laidByTextLater_by_one 52 8 65 (by kernel_rfl) (by kernel_rfl) (by kernel_rfl) (by kernel_rfl) (by kernel_rfl) (by kernel_rfl) (fun _ _ => by kernel_rfl)
theorem noOwnUnsafe : Tryz.pinned.checked.prog.headLifts.contains "ownunsafe" = false := by kernel_rfl
theorem tie : Tryz.prog.laidByTextLater [("lightclient/pub/sha256._K", Rows.laid_lightclient_pub_sha256_K)] [.data] true :=
  Program.laidByTextLater.sub seatTie1 ["lightclient/pub/sha256._K"] (by kernel_rfl) (by kernel_rfl)
theorem fnChain_row_tie : Rows.fnChainRow.laidByTextAt .later Tryz.pinned [.data] true :=
  OpenClaim.laidByTextAt_later rfl rfl tie noOwnUnsafe
theorem fnForged_row_tie : Rows.fnForgedRow.laidByTextAt .later Tryz.pinned [.data] true :=
  OpenClaim.laidByTextAt_later rfl rfl tie noOwnUnsafe
theorem fnChainUpto_row_tie : Rows.fnChainUptoRow.laidByTextAt .later Tryz.pinned [.data] true :=
  OpenClaim.laidByTextAt_later rfl rfl tie noOwnUnsafe
theorem fnForgedUpto_row_tie : Rows.fnForgedUptoRow.laidByTextAt .later Tryz.pinned [.data] true :=
  OpenClaim.laidByTextAt_later rfl rfl tie noOwnUnsafe
end Go.Proofs.YtjhnnjhaklohhaaGreatDoor
