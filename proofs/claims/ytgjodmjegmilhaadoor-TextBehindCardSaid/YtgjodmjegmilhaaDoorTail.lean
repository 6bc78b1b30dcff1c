/- A region that draws its order, whose operations but the last few only read: one walk in the text's order, in a world that is a variable. -/
import Derived.Test.YtgjodmjegmilhaaDoorBase
import Derived.StillTailTactics
import Derived.Deep.DeepCutAuto
namespace Go.Proofs.YtgjodmjegmilhaaDoor
open Go.RowKit
theorem region_tail {P : Program} {id : Nat} {Q : Exit → Act → World → Prop} {a : Act} {w : World} {l : List Oper} (n : Nat) (hm : P.follows .mixedOrders = true) (hB : Region.lexTailB .any l.toArray n = true)
    (h : ∀ W, W = w.drew → wpStill P l.toArray W (fun a' => wpList P l.toArray Q (l.drop n) a' W) (l.take n) a) : (Code.region id l.toArray true).wp P Q a w :=
  wp_region_still_tail n hm hB (h _ rfl)
theorem mixed : Tryd.prog.follows .mixedOrders = true := by kernel_rfl
end Go.Proofs.YtgjodmjegmilhaaDoor
