/- What came in, as the walks want it. -/
import Derived.Test.YtoeaockleddngaaWE
import Derived.OpenShut
import Derived.Deep.Grids
namespace Go.Proofs.Ytoeaockleddngaa
open Go Go.RowKit
set_option linter.unusedVariables false
theorem arr_of {w : World} {x : Addr} {len : Nat} {f : Nat → Value} (h : ∀ i, i < len → w.cell? (x.add i) = some (f i)) : Arr w (some x) len f := by
  intro j hj
  obtain ⟨b, off, spot⟩ := x
  have h0 := h 0 (by omega)
  have hspot : spot = none := by simpa [Addr.add] using World.cell?_spot h0
  subst hspot
  have e : (⟨b, off, none⟩ : Addr).add j = ⟨b, off + j, none⟩ := by unfold Addr.add; split <;> simp_all
  refine ⟨b, off, rfl, ?_⟩
  rw [← e]; exact h j hj
theorem arr_nil (w : World) (f : Nat → Value) : Arr w none 0 f := fun j hj => by omega
end Go.Proofs.Ytoeaockleddngaa
