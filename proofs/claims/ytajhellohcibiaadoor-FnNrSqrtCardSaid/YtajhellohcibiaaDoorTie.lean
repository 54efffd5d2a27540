/-
  DERIVED. GIVEN WITH THE SEED: THE PROGRAM's TIES (one call each: nine closed facts by the kernel) AND EACH ROW's TIE, after the 31st guide's Derived/Test/Toyas{Tie, Card}.lean. No idea stands in it: it is a product of the set-up. Laid BY PROGRAM, IN A SANDBOX (cutbox-door.mjs). By AI agents, Wed Nov 11 2026. No macro, syntax, notation, axiom, sorry.
-/
import Derived.Test.YtajhellohcibiaaDoorRows
import Derived.LaidByTextLater
import Derived.SevenTiedAt
import Derived.LaidSub
import Derived.LaidOnce
namespace Go.Proofs.YtajhellohcibiaaDoor
open Go
set_option maxRecDepth 100000
theorem seatTie1 : Tryd.prog.laidByTextLater [("loop.example/pub-g03342/pub/gnarkcrypto/ecc/bn254/fr.sarkarL", Rows.laid_loop_example_pub_g03342_pub_gnarkcrypto_ecc_bn254_fr_sarkarL), ("loop.example/pub-g03342/pub/gnarkcrypto/ecc/bn254/fr.sarkarG", Rows.laid_loop_example_pub_g03342_pub_gnarkcrypto_ecc_bn254_fr_sarkarG)] [.data, .data] true :=
  Program.laidByTextLater_by_one 19 8 6 (by kernel_rfl) (by kernel_rfl) (by kernel_rfl) (by kernel_rfl) (by kernel_rfl) (by kernel_rfl) (fun _ _ => by kernel_rfl)
theorem noOwnUnsafe : Tryd.pinned.checked.prog.headLifts.contains "ownunsafe" = false := by kernel_rfl
theorem tie : Tryd.prog.laidByTextLater [("loop.example/pub-g03342/pub/gnarkcrypto/ecc/bn254/fr.sarkarL", Rows.laid_loop_example_pub_g03342_pub_gnarkcrypto_ecc_bn254_fr_sarkarL), ("loop.example/pub-g03342/pub/gnarkcrypto/ecc/bn254/fr.sarkarG", Rows.laid_loop_example_pub_g03342_pub_gnarkcrypto_ecc_bn254_fr_sarkarG)] [.data, .data] true :=
  Program.laidByTextLater.sub seatTie1 ["loop.example/pub-g03342/pub/gnarkcrypto/ecc/bn254/fr.sarkarL", "loop.example/pub-g03342/pub/gnarkcrypto/ecc/bn254/fr.sarkarG"] (by kernel_rfl) (by kernel_rfl)
theorem fnNrSqrt_row_tie : Rows.fnNrSqrtRow.laidByTextAt .later Tryd.pinned [.data, .data] true :=
  OpenClaim.laidByTextAt_later rfl rfl tie noOwnUnsafe
theorem fnNrSqrtUpto_row_tie : Rows.fnNrSqrtUptoRow.laidByTextAt .later Tryd.pinned [.data, .data] true :=
  OpenClaim.laidByTextAt_later rfl rfl tie noOwnUnsafe
end Go.Proofs.YtajhellohcibiaaDoor
