/-
  DERIVED. GIVEN WITH THE SEED: THE PROGRAM's TIES (one call each: nine closed facts by the kernel) AND EACH ROW's TIE, after the 31st guide's Derived/Test/Toyas{Tie, Card}.lean. No idea stands in it: it is a product of the set-up. Laid BY PROGRAM, IN A SANDBOX (cutbox-door.mjs). By AI agents, Wed Nov 11 2026. No macro, syntax, notation, axiom, sorry.
-/
import Derived.Test.YtfmpammdncaaiaaDoorRows
import Derived.LaidByTextLater
import Derived.SevenTiedAt
import Derived.LaidSub
import Derived.LaidOnce
namespace Go.Proofs.YtfmpammdncaaiaaDoor
open Go
set_option maxRecDepth 100000
theorem seatTie1 : Tryd.prog.laidByTextLater [("math/bits.deBruijn32tab", Rows.laid_math_bits_deBruijn32tab), ("math/bits.deBruijn64tab", Rows.laid_math_bits_deBruijn64tab), ("internal/strconv.uint64pow10", Rows.laid_internal_strconv_uint64pow10), ("loop.example/pub-g03336/pub/riscv64asm.vlmulName", Rows.laid_loop_example_pub_g03336_pub_riscv64asm_vlmulName), ("loop.example/pub-g03336/pub/riscv64asm.vsewName", Rows.laid_loop_example_pub_g03336_pub_riscv64asm_vsewName), ("loop.example/pub-g03336/pub/riscv64asm.vtaName", Rows.laid_loop_example_pub_g03336_pub_riscv64asm_vtaName), ("loop.example/pub-g03336/pub/riscv64asm.vmaName", Rows.laid_loop_example_pub_g03336_pub_riscv64asm_vmaName)] [.data, .data, .data, .data, .data, .data, .data] true :=
  Program.laidByTextLater_by_one 44 8 65 (by kernel_rfl) (by kernel_rfl) (by kernel_rfl) (by kernel_rfl) (by kernel_rfl) (by kernel_rfl) (fun _ _ => by kernel_rfl)
theorem noOwnUnsafe : Tryd.pinned.checked.prog.headLifts.contains "ownunsafe" = false := by kernel_rfl
theorem tie : Tryd.prog.laidByTextLater [("loop.example/pub-g03336/pub/riscv64asm.vlmulName", Rows.laid_loop_example_pub_g03336_pub_riscv64asm_vlmulName), ("loop.example/pub-g03336/pub/riscv64asm.vsewName", Rows.laid_loop_example_pub_g03336_pub_riscv64asm_vsewName), ("loop.example/pub-g03336/pub/riscv64asm.vtaName", Rows.laid_loop_example_pub_g03336_pub_riscv64asm_vtaName), ("loop.example/pub-g03336/pub/riscv64asm.vmaName", Rows.laid_loop_example_pub_g03336_pub_riscv64asm_vmaName)] [.data, .data, .data, .data] true :=
  Program.laidByTextLater.sub seatTie1 ["loop.example/pub-g03336/pub/riscv64asm.vlmulName", "loop.example/pub-g03336/pub/riscv64asm.vsewName", "loop.example/pub-g03336/pub/riscv64asm.vtaName", "loop.example/pub-g03336/pub/riscv64asm.vmaName"] (by kernel_rfl) (by kernel_rfl)
theorem fnVTypeText_row_tie : Rows.fnVTypeTextRow.laidByTextAt .later Tryd.pinned [.data, .data, .data, .data] true :=
  OpenClaim.laidByTextAt_later rfl rfl tie noOwnUnsafe
theorem tie2 : Tryd.prog.laidByTextLater [("math/bits.deBruijn32tab", Rows.laid_math_bits_deBruijn32tab), ("math/bits.deBruijn64tab", Rows.laid_math_bits_deBruijn64tab), ("internal/strconv.uint64pow10", Rows.laid_internal_strconv_uint64pow10)] [.data, .data, .data] true :=
  Program.laidByTextLater.sub seatTie1 ["math/bits.deBruijn32tab", "math/bits.deBruijn64tab", "internal/strconv.uint64pow10"] (by kernel_rfl) (by kernel_rfl)
theorem fnUimmText_row_tie : Rows.fnUimmTextRow.laidByTextAt .later Tryd.pinned [.data, .data, .data] true :=
  OpenClaim.laidByTextAt_later rfl rfl tie2 noOwnUnsafe
theorem fnVTypeTextUpto_row_tie : Rows.fnVTypeTextUptoRow.laidByTextAt .later Tryd.pinned [.data, .data, .data, .data] true :=
  OpenClaim.laidByTextAt_later rfl rfl tie noOwnUnsafe
theorem fnUimmTextUpto_row_tie : Rows.fnUimmTextUptoRow.laidByTextAt .later Tryd.pinned [.data, .data, .data] true :=
  OpenClaim.laidByTextAt_later rfl rfl tie2 noOwnUnsafe
end Go.Proofs.YtfmpammdncaaiaaDoor
