/-
  DERIVED. GIVEN WITH THE SEED: THE PROGRAM's TIES (one call each: nine closed facts by the kernel) AND EACH ROW's TIE, after the 31st guide's Derived/Test/Toyas{Tie, Card}.lean. No idea stands in it: it is a product of the set-up. Laid BY PROGRAM, IN A SANDBOX (cutbox-door.mjs). By AI agents, Wed Nov 11 2026. No macro, syntax, notation, axiom, sorry.
-/
import Derived.Test.YtklcoppfkfenfaaGreatDoorRows
import Derived.LaidByTextLater
import Derived.SevenTiedAt
import Derived.LaidSub
import Derived.LaidOnce
namespace Go.Proofs.YtklcoppfkfenfaaGreatDoor
open Go
set_option maxRecDepth 100000
theorem seatTie1 : Tryz.prog.laidByTextLater [("math/bits.deBruijn32tab", Rows.laid_math_bits_deBruijn32tab), ("math/bits.deBruijn64tab", Rows.laid_math_bits_deBruijn64tab), ("internal/strconv.uint64pow10", Rows.laid_internal_strconv_uint64pow10), ("loop.example/pub-g01464/pub/dwarf.attrIsExprloc", Rows.laid_loop_example_pub_g01464_pub_dwarf_attrIsExprloc), ("loop.example/pub-g01464/pub/dwarf.attrPtrClass", Rows.laid_loop_example_pub_g01464_pub_dwarf_attrPtrClass), ("loop.example/pub-g01464/pub/dwarf.ErrUnknownPC", Rows.laid_loop_example_pub_g01464_pub_dwarf_ErrUnknownPC)] [.data, .data, .data, .mapped, .mapped, .sentinel] true :=
  Program.laidByTextLater_by_one 238 8 65 (by kernel_rfl) (by kernel_rfl) (by kernel_rfl) (by kernel_rfl) (by kernel_rfl) (by kernel_rfl) (fun _ _ => by kernel_rfl)
theorem noOwnUnsafe : Tryz.pinned.checked.prog.headLifts.contains "ownunsafe" = false := by kernel_rfl
theorem tie : Tryz.prog.laidByTextLater [("math/bits.deBruijn32tab", Rows.laid_math_bits_deBruijn32tab), ("math/bits.deBruijn64tab", Rows.laid_math_bits_deBruijn64tab), ("internal/strconv.uint64pow10", Rows.laid_internal_strconv_uint64pow10), ("loop.example/pub-g01464/pub/dwarf.attrIsExprloc", Rows.laid_loop_example_pub_g01464_pub_dwarf_attrIsExprloc), ("loop.example/pub-g01464/pub/dwarf.attrPtrClass", Rows.laid_loop_example_pub_g01464_pub_dwarf_attrPtrClass)] [.data, .data, .data, .mapped, .mapped] true :=
  Program.laidByTextLater.sub seatTie1 ["math/bits.deBruijn32tab", "math/bits.deBruijn64tab", "internal/strconv.uint64pow10", "loop.example/pub-g01464/pub/dwarf.attrIsExprloc", "loop.example/pub-g01464/pub/dwarf.attrPtrClass"] (by kernel_rfl) (by kernel_rfl)
theorem fnPointers_row_tie : Rows.fnPointersRow.laidByTextAt .later Tryz.pinned [.data, .data, .data, .mapped, .mapped] true :=
  OpenClaim.laidByTextAt_later rfl rfl tie noOwnUnsafe
theorem fnRanges_row_tie : Rows.fnRangesRow.laidByTextAt .later Tryz.pinned [.data, .data, .data, .mapped, .mapped] true :=
  OpenClaim.laidByTextAt_later rfl rfl tie noOwnUnsafe
theorem fnRangesAlike_row_tie : Rows.fnRangesAlikeRow.laidByTextAt .later Tryz.pinned [.data, .data, .data, .mapped, .mapped] true :=
  OpenClaim.laidByTextAt_later rfl rfl tie noOwnUnsafe
theorem tie2 : Tryz.prog.laidByTextLater [("math/bits.deBruijn32tab", Rows.laid_math_bits_deBruijn32tab), ("math/bits.deBruijn64tab", Rows.laid_math_bits_deBruijn64tab), ("internal/strconv.uint64pow10", Rows.laid_internal_strconv_uint64pow10), ("loop.example/pub-g01464/pub/dwarf.attrIsExprloc", Rows.laid_loop_example_pub_g01464_pub_dwarf_attrIsExprloc), ("loop.example/pub-g01464/pub/dwarf.attrPtrClass", Rows.laid_loop_example_pub_g01464_pub_dwarf_attrPtrClass), ("loop.example/pub-g01464/pub/dwarf.ErrUnknownPC", Rows.laid_loop_example_pub_g01464_pub_dwarf_ErrUnknownPC)] [.data, .data, .data, .mapped, .mapped, .sentinel] true :=
  Program.laidByTextLater.sub seatTie1 ["math/bits.deBruijn32tab", "math/bits.deBruijn64tab", "internal/strconv.uint64pow10", "loop.example/pub-g01464/pub/dwarf.attrIsExprloc", "loop.example/pub-g01464/pub/dwarf.attrPtrClass", "loop.example/pub-g01464/pub/dwarf.ErrUnknownPC"] (by kernel_rfl) (by kernel_rfl)
theorem fnUnitOf_row_tie : Rows.fnUnitOfRow.laidByTextAt .later Tryz.pinned [.data, .data, .data, .mapped, .mapped, .sentinel] true :=
  OpenClaim.laidByTextAt_later rfl rfl tie2 noOwnUnsafe
theorem fnPointersUpto_row_tie : Rows.fnPointersUptoRow.laidByTextAt .later Tryz.pinned [.data, .data, .data, .mapped, .mapped] true :=
  OpenClaim.laidByTextAt_later rfl rfl tie noOwnUnsafe
theorem fnRangesUpto_row_tie : Rows.fnRangesUptoRow.laidByTextAt .later Tryz.pinned [.data, .data, .data, .mapped, .mapped] true :=
  OpenClaim.laidByTextAt_later rfl rfl tie noOwnUnsafe
theorem fnRangesAlikeUpto_row_tie : Rows.fnRangesAlikeUptoRow.laidByTextAt .later Tryz.pinned [.data, .data, .data, .mapped, .mapped] true :=
  OpenClaim.laidByTextAt_later rfl rfl tie noOwnUnsafe
theorem fnUnitOfUpto_row_tie : Rows.fnUnitOfUptoRow.laidByTextAt .later Tryz.pinned [.data, .data, .data, .mapped, .mapped, .sentinel] true :=
  OpenClaim.laidByTextAt_later rfl rfl tie2 noOwnUnsafe
end Go.Proofs.YtklcoppfkfenfaaGreatDoor
