/- A Result of the thin package that comes in by value: what it is, and how long its texts are. -/
import Derived.Test.YtcalcdjpinadkaaDoorProg
import Derived.Lib.SmallJoins
import Derived.ChangeSame
import Derived.Deep.Fields
import Derived.SizedLaws
import Derived.ChangeMaps5
import Derived.KernelRfl
set_option linter.unusedVariables false
namespace Go.Proofs.YtcalcdjpinadkaaDoor.ResRow
open Go.Joins Go.ChangeShapes Go.WideShapes Go.RowKit Go.Deep
section
variable {H : Type} {enc : TypeId × Value → H} {P : Program} {w : World} {base : Nat} {spare : Nat → Bool} {held : Bool}
theorem trod_float {k : FloatKind} {t : TypeId} {fuel : Nat} {cs : List Value} {x : DataW H × List MemPlace} (ht : P.underlying t = some (.float k)) (h : DataW.trod enc P w base spare held fuel t cs = some x) : ∃ b, cs = [.float k b] ∧ x = (.lit (.float k b), []) := by
  cases fuel with
  | zero => simp [DataW.trod] at h
  | succ n =>
    unfold DataW.trod at h
    simp only [ht] at h
    split at h <;> first | (split at h <;> simp_all) | simp_all
theorem open_agg5 {r : Reach} {b0 : Nat} {t : TypeId} {f0 f1 f2 f3 f4 : Field} {v : Value} {d : DataW H} {p : List MemPlace} (hs : P.underlying t = some (.struct #[f0, f1, f2, f3, f4])) (hone : oneCellFields P #[f0, f1, f2, f3, f4] = true) (hC : P.cellsOf t = 5)
    (hv : Value.okWide P w r b0 t v) (h : DataW.Trod enc P w base spare held t v d p) :
    ∃ (v0 v1 v2 v3 v4 : Value) (y0 y1 y2 y3 y4 : DataW H × List MemPlace) (n : Nat), v = .agg #[v0, v1, v2, v3, v4] ∧ d = .agg [y0.1, y1.1, y2.1, y3.1, y4.1] ∧ p = y0.2 ++ (y1.2 ++ (y2.2 ++ (y3.2 ++ y4.2))) ∧
      DataW.trod enc P w base spare held n f0.type [v0] = some y0 ∧ DataW.trod enc P w base spare held n f1.type [v1] = some y1 ∧ DataW.trod enc P w base spare held n f2.type [v2] = some y2 ∧ DataW.trod enc P w base spare held n f3.type [v3] = some y3 ∧ DataW.trod enc P w base spare held n f4.type [v4] = some y4 := by
  obtain ⟨cs, rfl, hsz⟩ := okWide_struct hs hv
  obtain ⟨l⟩ := cs
  match l, hsz.trans hC with
  | [c0, c1, c2, c3, c4], _ =>
    obtain ⟨fuel, hf⟩ := h
    obtain ⟨xs, n, _, hx, _, hlen, hg⟩ := DataW.trod_struct hs hf
    obtain ⟨o0, k0⟩ := hone_of hone 0 f0 rfl
    obtain ⟨o1, k1⟩ := hone_of hone 1 f1 rfl
    obtain ⟨o2, k2⟩ := hone_of hone 2 f2 rfl
    obtain ⟨o3, k3⟩ := hone_of hone 3 f3 rfl
    obtain ⟨o4, k4⟩ := hone_of hone 4 f4 rfl
    match xs, hlen with
    | [y0, y1, y2, y3, y4], _ =>
      simp only [Prod.mk.injEq] at hx
      exact ⟨c0, c1, c2, c3, c4, y0, y1, y2, y3, y4, n, rfl, by simpa using hx.1, by simpa using hx.2, by simpa [Value.cells, o0, k0] using hg 0 f0 rfl, by simpa [Value.cells, o1, k1] using hg 1 f1 rfl, by simpa [Value.cells, o2, k2] using hg 2 f2 rfl, by simpa [Value.cells, o3, k3] using hg 3 f3 rfl, by simpa [Value.cells, o4, k4] using hg 4 f4 rfl⟩
end
set_option maxRecDepth 100000 in
theorem open_result {H : Type} {enc : TypeId × Value → H} {w : World} {base : Nat} {spare : Nat → Bool} {held : Bool} {r : Reach} {b0 : Nat} {v : Value} {d : DataW H} {p : List MemPlace} {ts : List TypeId} {ds : List (DataW H)} {j : Nat}
    (hsz : (DataW.weightsEach Tryd.prog ts ds).all (· ≤ reachBytes) = true) (hj : ts[j]? = some 24) (hd : ds[j]? = some d)
    (hv : Value.okWide Tryd.prog w r b0 24 v) (h : DataW.Trod enc Tryd.prog w base spare held 24 v d p) :
    ∃ (k : Int) (raw str : ByteArray) (num : Nat) (ex : Bool), v = .agg #[.int .i64 k, .string raw, .string str, .float .f64 num, .bool ex] ∧ raw.size ≤ 140737488351232 ∧ str.size ≤ 140737488351232 := by
  obtain ⟨v0, v1, v2, v3, v4, y0, y1, y2, y3, y4, n, rfl, rfl, _, h0, h1, h2, h3, h4⟩ := open_agg5 Tryd.underlying24 (by kernel_rfl) (by kernel_rfl) hv h
  obtain ⟨k, e0, x0, _⟩ := DataW.trod_int Tryd.underlying3 h0
  obtain ⟨raw, e1, x1, _⟩ := DataW.trod_string Tryd.underlying9 h1
  obtain ⟨str, e2, x2, _⟩ := DataW.trod_string Tryd.underlying9 h2
  obtain ⟨num, e3, x3⟩ := trod_float Tryd.underlying22 h3
  obtain ⟨ex, e4, x4⟩ := DataW.trod_bool Tryd.underlying4 h4
  simp only [List.cons.injEq, and_true] at e0 e1 e2 e3 e4
  subst e0 e1 e2 e3 e4 x0 x1 x2 x3 x4
  have hw : ∀ m ∈ DataW.weights Tryd.prog 24 (.agg [.lit (.int .i64 k), .lit (.string raw.data.toList), .lit (.string str.data.toList), .lit (.float .f64 num), .lit (.bool ex)] : DataW H), m ≤ reachBytes := by
    intro m hm
    have := List.all_eq_true.1 hsz _ (DataW.weights_mem_each hj hd m hm)
    simpa using this
  simp [DataW.weights, Tryd.underlying24, DataW.weightsEach] at hw
  have e : reachBytes = 140737488351232 := by decide
  rw [e] at hw
  exact ⟨k, raw, str, num, ex, rfl, hw.1, hw.2⟩
end Go.Proofs.YtcalcdjpinadkaaDoor.ResRow
