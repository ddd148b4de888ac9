/-
  ZZAdd over a frame's state.
-/
import Derived.Test.Qxb6605305aAdd
import Derived.Test.Qxb6605305aScript
namespace Go.Proofs.Qxb6605305a.KS
open Go.ChangeShapes Go.WideShapes Go.ChangeAt Go.RowKit

theorem add_law : AddLaw := by
  intro B w F V ks mo wr s h hl
  obtain ⟨r, a, cap, hF, hK⟩ := h
  refine (add_fr B w F V r a _ cap ks wr s hF mo hK hl).mono ?_
  rintro e w' ⟨he, a', cap', h1, h2⟩
  refine ⟨he, r, a', cap', ?_, h2⟩
  rw [List.length_append]
  exact h1
end Go.Proofs.Qxb6605305a.KS
