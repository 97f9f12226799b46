/- strconv's ErrSyntax, out of a row's list. -/
import Derived.Test.YtcalcdjpinadkaaDoorTdA
import Derived.Lib.LaidU8
import Derived.Deep.Strs
set_option linter.unusedVariables false
namespace Go.Proofs.YtcalcdjpinadkaaDoor.ResA
open Go.RowKit Go.Lib Go.ChangeShapes Go.Deep

theorem err_of {W : World} {d : DataW Unit} (h2 : VarReads Tryd.prog W "strconv.ErrSyntax" (.iface "*errors.errorString" d)) : ErrV W := by
  obtain ⟨g2, t2, cs2, f2, p2, hg2, ht2, hv2, hd2⟩ := h2
  obtain rfl := Option.some.inj ((show Tryd.prog.globalNamed "strconv.ErrSyntax" = some gS by kernel_rfl).symm.trans hg2)
  obtain rfl := Option.some.inj ((show (Tryd.prog.globals[gS]?).map (·.type) = some 66 by kernel_rfl).symm.trans ht2)
  obtain ⟨fuel', u, v, e2, _, _⟩ := iface_of_trod Tryd.underlying66 hd2
  have i3 := World.var?_cell hg2 hv2 0
  refine ⟨.iface u v, ?_, .inr ⟨u, v, rfl⟩⟩
  rw [i3, ← Array.getElem?_toList, e2]; rfl
end Go.Proofs.YtcalcdjpinadkaaDoor.ResA
