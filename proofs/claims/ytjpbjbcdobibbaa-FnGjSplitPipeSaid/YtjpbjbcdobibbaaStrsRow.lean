/- A []string that comes in: what it is. -/
import Derived.Test.YtjpbjbcdobibbaaProg
import Derived.Test.YtjpbjbcdobibbaaWWords
import Derived.Deep.Strs
import Derived.SizedLaws
import Derived.KernelRfl
set_option linter.unusedVariables false
namespace Go.Proofs.Ytjpbjbcdobibbaa.StrsRow
open Go.ChangeShapes Go.WideShapes Go.RowKit Go.Deep Go.Proofs.YtjpbjbcdobibbaaW.PrintWords
theorem add_flat (a : Addr) (i : Nat) : a.add i = a.add (i * 1 + 0) := by simp
theorem open_strs {H : Type} {enc : TypeId × Value → H} {w : World} {base : Nat} {spare : Nat → Bool} {held : Bool} {r : Reach} {b0 : Nat} {v : Value} {d : DataW H} {p : List MemPlace}
    (hv : Value.okWide Try.prog w r b0 22 v) (h : DataW.Trod enc Try.prog w base spare held 22 v d p) :
    ∃ (A : Option Addr) (cap : Nat) (ss : List ByteArray), v = .slice A ss.length cap ∧ Kd.C Kd.string w A ss.length ss ∧ ss.length ≤ cap := by
  obtain ⟨A, len, cap, rfl⟩ := okWide_slice Try.underlying22 hv
  obtain ⟨fuel, hf⟩ := h
  rcases Go.Deep.open_strs Try.underlying22 Try.underlying9 (by kernel_rfl) hf with ⟨hcs, hx⟩ | ⟨a, len', cap', m, Sx, hcs, _, hl, hm, hmm, hx, hcell⟩
  · have e : Value.slice A len cap = .slice none 0 0 := by simpa [Value.cells] using hcs
    injection e with e1 e2 e3
    subst e1 e2 e3
    exact ⟨none, 0, [], rfl, ⟨rfl, by decide, fun h => by simp at h⟩, Nat.le_refl _⟩
  · have e : Value.slice A len cap = .slice (some a) len' cap' := by simpa [Value.cells] using hcs
    injection e with e1 e2 e3
    subst e1 e2 e3
    have hlm : len ≤ m := by rw [hmm]; split <;> omega
    have hmx : len ≤ 9223372036854775807 := by
      have : maxLen = 9223372036854775807 := by decide
      omega
    have hlen : ((List.range len).map Sx).length = len := by simp
    refine ⟨some a, cap, (List.range len).map Sx, by rw [hlen], ?_, by rw [hlen]; exact hl⟩
    rw [hlen]
    refine ⟨hlen, hmx, fun _ => ⟨a, rfl, fun j q hj => ?_⟩⟩
    have hjl : j < len := by have := (List.getElem?_eq_some_iff.1 hj).1; rwa [hlen] at this
    have hq : q = Sx j := by simpa [List.getElem?_map, List.getElem?_range hjl] using hj.symm
    refine ⟨[.string q], rfl, rfl, fun i u hi => ?_⟩
    obtain rfl : i = 0 := by have := (List.getElem?_eq_some_iff.1 hi).1; simp at this; exact this
    have hu : u = .string q := by simpa using hi.symm
    rw [hu, hq]
    have := (hcell j (by omega)).1
    show w.cell? (a.add (j * 1 + 0)) = _
    rwa [← add_flat]
end Go.Proofs.Ytjpbjbcdobibbaa.StrsRow
