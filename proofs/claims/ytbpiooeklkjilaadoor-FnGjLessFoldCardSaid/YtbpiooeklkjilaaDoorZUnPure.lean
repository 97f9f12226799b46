/- What the inside of a JSON string stands for, by the reference and as the parser goes, on lists of bytes. -/
import Derived.Test.YtbpiooeklkjilaaDoorZJPure
set_option linter.unusedVariables false
namespace Go.Proofs.YtbpiooeklkjilaaDoor.J

/-- A hexadecimal digit's value. -/
def hv (c : Int) : Int := if dig c = true then c - 48 else if 97 ≤ c then c - 87 else c - 55
theorem hv_range {c : Int} (h : hex c = true) : 0 ≤ hv c ∧ hv c ≤ 15 := by
  unfold hex at h
  unfold hv
  by_cases d : dig c = true
  · rw [if_pos d]; unfold dig at d; simp at d; omega
  · rw [if_neg d]
    simp [d] at h
    split <;> omega
theorem getD_drop' (l : L) (a b : Nat) : (l.drop a).getD b 0 = l.getD (a + b) 0 := by
  rw [List.getD_eq_getElem?_getD, List.getD_eq_getElem?_getD, List.getElem?_drop]
end Go.Proofs.YtbpiooeklkjilaaDoor.J
