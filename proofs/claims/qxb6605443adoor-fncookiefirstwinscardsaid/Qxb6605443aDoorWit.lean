import Derived.Test.Qxb6605443aDoorFr2
import Derived.Lib.LaidCaseMet
import Derived.PinnedBridge
import Derived.Test.Qxb6605443aDoorSc
namespace Go.Proofs.Qxb6605443aDoor
open Go.ChangeShapes Go.WideShapes Go.ChangeAt Go.RowKit Go.Lib
set_option linter.unusedVariables false
set_option linter.unusedSimpArgs false

/-- the last two of a list of laid variables change places. -/
theorem laid_swap2 {P : Program} {w : World} (x y : String × DataW Unit) : ∀ (l : List (String × DataW Unit)) (ps : List MemPlace), DataW.LaidVars P w (l ++ [x, y]) ps → ∃ qs, DataW.LaidVars P w (l ++ [y, x]) qs ∧ qs.Perm ps
  | [], ps, h => by
    obtain ⟨g, t, cs, fuel, p, q, h1, h2, h3, h4, ⟨g', t', cs', fuel', p', q', k1, k2, k3, k4, k5, rfl⟩, rfl⟩ := h
    cases k5
    refine ⟨_, ⟨g', t', cs', fuel', p', _, k1, k2, k3, k4, ⟨g, t, cs, fuel, p, [], h1, h2, h3, h4, rfl, rfl⟩, rfl⟩, ?_⟩
    simp only [List.append_nil]
    exact List.perm_append_comm
  | z :: l, ps, h => by
    obtain ⟨g, t, cs, fuel, p, q, h1, h2, h3, h4, h5, rfl⟩ := h
    obtain ⟨qs, hq, hp⟩ := laid_swap2 x y l q h5
    exact ⟨_, ⟨g, t, cs, fuel, p, qs, h1, h2, h3, h4, hq, rfl⟩, List.Perm.append_left _ hp⟩
theorem laidMet_swap2 {P : Program} {w : World} (x y : String × DataW Unit) (l : List (String × DataW Unit)) (h : laidMet P (l ++ [x, y]) w) : laidMet P (l ++ [y, x]) w := by
  obtain ⟨ps, h1, h2, h3⟩ := h
  obtain ⟨qs, hq, hp⟩ := laid_swap2 x y l ps h1
  exact ⟨qs, hq, hp.nodup_iff.2 h2, fun b off hm => h3 b off (hp.mem_iff.1 hm)⟩
theorem extra274 : CaseExtra Tryd.prog Tryd.lays274_ren := ⟨by kernel_rfl, by kernel_rfl, by kernel_rfl, by kernel_rfl, by kernel_rfl, by kernel_rfl⟩
end Go.Proofs.Qxb6605443aDoor
