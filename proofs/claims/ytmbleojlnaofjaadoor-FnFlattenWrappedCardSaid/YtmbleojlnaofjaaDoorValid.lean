/- The library's utf8.ValidString, as the shelf has it, in the words of the walks. -/
import Derived.Test.YtmbleojlnaofjaaDoorV
import Derived.Test.YtmbleojlnaofjaaDoorShelfV
namespace Go.Proofs.YtmbleojlnaofjaaDoor
open Go Go.RowKit D
set_option linter.unusedVariables false
set_option linter.unusedSimpArgs false


theorem valid_any (s : ByteArray) (w : World) (hs : s.size ≤ 9223372036854775807) (hT : Tabs w) : Calls Tryd.prog 30 #[.string s] w (Ret w [] fun v w' => v = .bool (Lib.validD s.data.toList)) := by
  refine (Any.utf8_ValidString Tryd.laysValid s w hs hT).mono fun e w' h => ?_
  obtain ⟨rfl, hb⟩ := h
  exact Ret.mk (Fr.ofBelow hb) rfl

end Go.Proofs.YtmbleojlnaofjaaDoor
