/- The claims over thickettop: a world for the witness. No condition. -/
import Derived.Test.YtdapdadcninidaaGreatDoorFin
namespace Go.Proofs.YtdapdadcninidaaGreatDoor
open Go.ChangeShapes Go.WideShapes Go.ChangeAt Go.RowKit
/-- A world for the witness: the settled one, Go's three tables as they are laid. -/
noncomputable def laidWorldT (os : Os) : World :=
  { World.holding Tryz.prog os ⟨#[], #[], []⟩ with heap := layAt 4 Rows.laid_math_bits_deBruijn32tab (layAt 5 Rows.laid_math_bits_deBruijn64tab (layAt 0 Rows.laid_internal_strconv_uint64pow10 (World.holding Tryz.prog os ⟨#[], #[], []⟩).heap)) }
end Go.Proofs.YtdapdadcninidaaGreatDoor
