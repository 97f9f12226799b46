/- gjson's trueish and falseish. -/
import Derived.Test.YtcalcdjpinadkaaDoorResA
import Derived.Test.YtcalcdjpinadkaaDoorTd2
import Derived.Test.YtcalcdjpinadkaaDoorShelf
import Derived.Lib.Hide
set_option linter.unusedVariables false
set_option linter.unusedSimpArgs false
namespace Go.Proofs.YtcalcdjpinadkaaDoor.ResA
open Go.Proofs.YtcalcdjpinadkaaDoor.Aid Go.RowKit Go.Proofs.YtcalcdjpinadkaaDoorW.PrintWords Go.Proofs.YtcalcdjpinadkaaDoorW.PrintLast Go.Proofs.YtcalcdjpinadkaaDoorW.PrintMore Go.Proofs.YtcalcdjpinadkaaDoor.PFnGjMatchesTilde
attribute [local go_sem] run_store_float'

abbrev gS : Nat := 4
def ErrV (w : World) : Prop := ∃ ev, w.cell? ⟨gS, 0, none⟩ = some ev ∧ (ev = .nilIface ∨ ∃ te pe, ev = .iface te pe)
theorem ErrV.below {w w' : World} (h : ErrV w) (k : Below w.heap.size w w') : ErrV w' := by
  obtain ⟨ev, h1, h2⟩ := h
  exact ⟨ev, pw_cell_below k h1, h2⟩
theorem w64 {x : Int} (h0 : -1000000000000 ≤ x) (h1 : x ≤ 1000000000000) : wrap64 x = x := by unfold wrap64; omega
theorem low_ex (s : ByteArray) (hs : s.size ≤ 2147483647) : ∀ (n i : Nat) (acc : List Int), i ≤ s.size → 2 * (s.size - i) + 1 ≤ n → acc.length ≤ i → ∃ r : ByteArray, r.size ≤ 2147483647 ∧ gjson_zzLower.l0 n s acc (i : Int) = some r := by
  intro n
  induction n using Nat.strongRecOn with
  | ind n ih =>
    intro i acc hi hn hl
    obtain ⟨n1, rfl⟩ : ∃ k, n = k + 1 := ⟨n - 1, by omega⟩
    by_cases c : (i : Int) < (s.size : Int)
    · obtain ⟨n2, rfl⟩ : ∃ k, n1 = k + 1 := ⟨n1 - 1, by omega⟩
      have w1 : wrap64 ((i : Int) + 1) = ((i + 1 : Nat) : Int) := by rw [w64 (by omega) (by omega)]; rfl
      have w2 : wrap64 (((i + 1 : Nat) : Int) + 1) = ((i + 2 : Nat) : Int) := by rw [w64 (by omega) (by omega)]; rfl
      have g1 : ∀ x, ∃ r : ByteArray, r.size ≤ 2147483647 ∧ gjson_zzLower.l0 n2 s (acc ++ [x]) ((i + 1 : Nat) : Int) = some r := fun x => ih n2 (by omega) (i + 1) (acc ++ [x]) (by omega) (by omega) (by simp; omega)
      have g2 : ((i + 1 : Nat) : Int) < s.size → ∀ x, ∃ r : ByteArray, r.size ≤ 2147483647 ∧ gjson_zzLower.l0 n2 s (acc ++ [x]) ((i + 2 : Nat) : Int) = some r := fun h x => ih n2 (by omega) (i + 2) (acc ++ [x]) (by omega) (by omega) (by simp; omega)
      have a1 : acc.length < 140737488355328 := by omega
      have z1 : (0 : Int) ≤ ((i + 1 : Nat) : Int) := by omega
      have J : ∀ c b, ∃ r : ByteArray, r.size ≤ 2147483647 ∧ gjson_zzLower.j1 (n2 + 1) s acc (i : Int) c b = some r := fun c b => by
        rw [gjson_zzLower.j1]
        simp only [w1, w2, if_pos a1, if_pos z1]
        repeat' split
        all_goals first | exact g1 _ | exact g2 (by assumption) _
      rw [gjson_zzLower.l0, if_pos c, if_pos (by omega)]
      split
      · exact J _ _
      · exact J _ _
    · refine ⟨strOfNums acc, ?_, ?_⟩
      · have : (strOfNums acc).size = acc.length := by unfold strOfNums; simp [ByteArray.size]
        omega
      · rw [gjson_zzLower.l0, if_neg c]
theorem lower_ex (s : ByteArray) (hs : s.size ≤ 2147483647) : ∃ r : ByteArray, r.size ≤ 2147483647 ∧ ∀ W, Calls Tryd.prog 47 #[.string s] W fun e w' => e = .returned (.string r) ∧ Below W.heap.size W w' := by
  obtain ⟨r, h1, h2⟩ := low_ex s hs (2 * s.size + 1) 0 [] (by omega) (by omega) (by simp)
  exact ⟨r, h1, fun W => gjson_zzLower.calls _ s r W h2⟩
/-- What ParseBool says of a string. -/
def Pb (s : ByteArray) (b ok : Bool) : Prop := ∀ W, ErrV W → Calls Tryd.prog 46 #[.string s] W fun e w' => (∃ er, e = .returned (.tuple #[.bool b, er]) ∧ (ok = true → er = .nilIface) ∧ (ok = false → ∃ N, er = .iface 132 (.pointer (some ⟨N, 0, none⟩)))) ∧ Below W.heap.size W w'
theorem pb_ex (s : ByteArray) (hs : s.size ≤ 2147483647) : ∃ b ok, Pb s b ok := by
  cases h : Lib.parseBool s.data.toList with
  | some b =>
    refine ⟨b, true, fun W _ => (Tryd.strconv_ParseBool s b h W).mono ?_⟩
    rintro e w' ⟨rfl, rfl⟩
    exact ⟨⟨_, rfl, fun _ => rfl, fun h => (by cases h)⟩, Below.refl _ _⟩
  | none =>
    refine ⟨false, false, fun W ⟨ev, h1, h2⟩ => (Tryd.strconv_ParseBool_err s (by omega) h ev W h1 h2).mono ?_⟩
    rintro e w' ⟨N, rfl, _, _, hb⟩
    exact ⟨⟨_, rfl, fun h => (by cases h), fun _ => ⟨N, rfl⟩⟩, hb⟩
end Go.Proofs.YtcalcdjpinadkaaDoor.ResA
