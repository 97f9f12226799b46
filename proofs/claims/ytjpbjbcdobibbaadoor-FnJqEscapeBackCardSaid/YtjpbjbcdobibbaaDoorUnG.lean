/- What the parser's variables hold, out of a row's list. -/
import Derived.Test.YtjpbjbcdobibbaaDoorUnE
import Derived.Lib.LaidU8
import Derived.Deep.Strs
set_option linter.unusedVariables false
namespace Go.Proofs.YtjpbjbcdobibbaaDoor.J
open Go.RowKit Go.Lib Go.ChangeShapes Go.Deep

def tabZ : List Int := [0, 0, 0, 0, 0, 0, 0, 0, 0, 0, 0, 0, 0, 0, 0, 0, 0, 0, 0, 0, 0, 0, 0, 0, 0, 0, 0, 0, 0, 0, 0, 0, 0, 0, 34, 0, 0, 0, 0, 0, 0, 0, 0, 0, 0, 0, 0, 47, 0, 0, 0, 0, 0, 0, 0, 0, 0, 0, 0, 0, 0, 0, 0, 0, 0, 0, 0, 0, 0, 0, 0, 0, 0, 0, 0, 0, 0, 0, 0, 0, 0, 0, 0, 0, 0, 0, 0, 0, 0, 0, 0, 0, 92, 0, 0, 0, 0, 0, 8, 0, 0, 0, 12, 0, 0, 0, 0, 0, 0, 0, 10, 0, 0, 0, 13, 0, 9]
def tabD {H : Type} : DataW H := Lib.tabData .u8 tabZ
theorem tabZ_at (c : Int) (h : plainEsc c = true) : tabZ.getD c.toNat 0 = short c ∧ c.toNat < tabZ.length := by
  have hc : c = 34 ∨ c = 92 ∨ c = 47 ∨ c = 98 ∨ c = 102 ∨ c = 110 ∨ c = 114 ∨ c = 116 := by unfold plainEsc at h; simpa [or_assoc] using h
  rcases hc with rfl | rfl | rfl | rfl | rfl | rfl | rfl | rfl <;> decide
theorem glob_of {W : World} {d : DataW Unit}
    (h0 : VarReads Tryd.prog W "pub-tetrapla/pub/jsonparser.DefaultConfig" (.agg [.lit (.bool false), .lit (.bool false), .lit (.int .i64 0)]))
    (h1 : VarReads Tryd.prog W "pub-tetrapla/pub/jsonparser.backslashCharEscapeTable" tabD)
    (h2 : VarReads Tryd.prog W "pub-tetrapla/pub/jsonparser.MalformedStringEscapeError" (.iface "*errors.errorString" d)) : ∃ pt pv, Glob W pt pv := by
  obtain ⟨g0, t0, cs0, f0, p0, hg0, ht0, hv0, hd0⟩ := h0
  obtain ⟨g1, t1, cs1, f1, p1, hg1, ht1, hv1, hd1⟩ := h1
  obtain ⟨g2, t2, cs2, f2, p2, hg2, ht2, hv2, hd2⟩ := h2
  obtain rfl := Option.some.inj ((show Tryd.prog.globalNamed "pub-tetrapla/pub/jsonparser.DefaultConfig" = some gCfg by kernel_rfl).symm.trans hg0)
  obtain rfl := Option.some.inj ((show Tryd.prog.globalNamed "pub-tetrapla/pub/jsonparser.backslashCharEscapeTable" = some gTab by kernel_rfl).symm.trans hg1)
  obtain rfl := Option.some.inj ((show Tryd.prog.globalNamed "pub-tetrapla/pub/jsonparser.MalformedStringEscapeError" = some gEsc by kernel_rfl).symm.trans hg2)
  obtain rfl := Option.some.inj ((show (Tryd.prog.globals[gCfg]?).map (·.type) = some 75 by kernel_rfl).symm.trans ht0)
  obtain rfl := Option.some.inj ((show (Tryd.prog.globals[gTab]?).map (·.type) = some 99 by kernel_rfl).symm.trans ht1)
  obtain rfl := Option.some.inj ((show (Tryd.prog.globals[gEsc]?).map (·.type) = some 58 by kernel_rfl).symm.trans ht2)
  have k1 : Tryd.prog.cellsOf 5 = 1 := by kernel_rfl
  have k2 : Tryd.prog.cellsOf 99 = 117 := by kernel_rfl
  have e1 := Lib.cells_of_tab Tryd.underlying99 Tryd.underlying5 k1 k2 hd1
  obtain ⟨fuel', u, v, e2, _, _⟩ := iface_of_trod Tryd.underlying58 hd2
  have kb : Tryd.prog.cellsOf 4 = 1 := by kernel_rfl
  have ki : Tryd.prog.cellsOf 3 = 1 := by kernel_rfl
  have kc : Tryd.prog.cellsOf 75 = 3 := by kernel_rfl
  obtain ⟨y0, y1, y2, n, ex, hl, a0, a1, a2⟩ := trod_struct3 Tryd.underlying75 hd0
  obtain ⟨b0, q0, rfl⟩ := DataW.trod_bool Tryd.underlying4 a0
  obtain ⟨b1, q1, rfl⟩ := DataW.trod_bool Tryd.underlying4 a1
  obtain ⟨b2, q2, rfl, _⟩ := DataW.trod_int Tryd.underlying3 a2
  simp only [Prod.mk.injEq, DataW.agg.injEq, List.cons.injEq, DataW.lit.injEq, Lit.bool.injEq, Lit.int.injEq, and_true, true_and] at ex
  obtain ⟨⟨rfl, rfl, rfl⟩, _⟩ := ex
  rw [kc] at hl
  have i0 := World.var?_cell hg0 hv0 0
  have i1 := World.var?_cell hg0 hv0 1
  have i2 := World.var?_cell hg0 hv0 2
  have i3 := World.var?_cell hg2 hv2 0
  refine ⟨u, v, ⟨?_, ?_, ?_, ?_, ?_⟩⟩
  · rw [i0, ← Array.getElem?_toList]
    have h0 := congrArg (·[0]?) q0
    simpa [kb, List.getElem?_take, List.getElem?_drop] using h0
  · rw [i1, ← Array.getElem?_toList]
    have h0 := congrArg (·[0]?) q1
    simpa [kb, List.getElem?_take, List.getElem?_drop] using h0
  · rw [i2, ← Array.getElem?_toList]
    have h0 := congrArg (·[0]?) q2
    simpa [ki, List.getElem?_take, List.getElem?_drop] using h0
  · rw [i3, ← Array.getElem?_toList, e2]; rfl
  · intro c hc
    obtain ⟨z1, z2⟩ := tabZ_at c hc
    have := World.var?_cell hg1 hv1 c.toNat
    rw [this, ← Array.getElem?_toList, e1, ← z1]
    simp [List.getD_eq_getElem?_getD, z2]
end Go.Proofs.YtjpbjbcdobibbaaDoor.J
