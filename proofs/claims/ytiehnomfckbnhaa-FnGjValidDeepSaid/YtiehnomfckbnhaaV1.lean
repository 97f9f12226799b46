/- The walks of gjson's validator: colons, commas. -/
import Derived.Test.YtiehnomfckbnhaaJMem
set_option linter.unusedVariables false
set_option linter.unusedSimpArgs false
namespace Go.Proofs.Ytiehnomfckbnhaa.J
open Go.RowKit Go.Proofs.YtiehnomfckbnhaaW.PrintWords Go.Proofs.YtiehnomfckbnhaaW.PrintLast Go.Proofs.YtiehnomfckbnhaaW.PrintMore Go.Proofs.Ytiehnomfckbnhaa.Aid

/-- The row in block g holds the text; from i on it reads l. -/
structure At (w : World) (g : Nat) (all : L) (i : Nat) (l : L) : Prop where
  cells : ∀ j, j < all.length → w.cell? ⟨g, j, none⟩ = some (.int .u8 (all.getD j 0))
  small : all.length ≤ 2147483647
  range : ∀ c ∈ all, 0 ≤ c ∧ c ≤ 255
  le : i ≤ all.length
  rest : all.drop i = l
theorem At.len {w : World} {g : Nat} {all : L} {i : Nat} {l : L} (h : At w g all i l) : i + l.length = all.length := by
  have := h.le
  rw [← h.rest, List.length_drop]; omega
theorem At.get {w : World} {g : Nat} {all : L} {i : Nat} {c : Int} {t : L} (h : At w g all i (c :: t)) : all[i]? = some c := by
  have : (all.drop i)[0]? = some c := by rw [h.rest]; rfl
  rwa [List.getElem?_drop, Nat.add_zero] at this
theorem At.lt {w : World} {g : Nat} {all : L} {i : Nat} {c : Int} {t : L} (h : At w g all i (c :: t)) : i < all.length := by
  have := h.len
  simp only [List.length_cons] at this
  omega
theorem At.cell {w : World} {g : Nat} {all : L} {i : Nat} {c : Int} {t : L} (h : At w g all i (c :: t)) : w.cell? ⟨g, i, none⟩ = some (.int .u8 c) := by
  rw [h.cells i h.lt, List.getD_eq_getElem?_getD, h.get]; rfl
theorem At.step {w : World} {g : Nat} {all : L} {i : Nat} {c : Int} {t : L} (h : At w g all i (c :: t)) : At w g all (i + 1) t where
  cells := h.cells
  small := h.small
  range := h.range
  le := h.lt
  rest := by
    have h1 : (all.drop i).drop 1 = t := by rw [h.rest]; rfl
    rwa [List.drop_drop] at h1
theorem At.end_ {w : World} {g : Nat} {all : L} {i : Nat} (h : At w g all i []) : i = all.length := by
  have := h.len
  simpa using this
theorem At.byte {w : World} {g : Nat} {all : L} {i : Nat} {c : Int} {t : L} (h : At w g all i (c :: t)) : 0 ≤ c ∧ c ≤ 255 :=
  h.range c (List.mem_of_getElem? h.get)
def VP (w : World) (g : Nat) (all : L) : Option L → Ending → World → Prop
  | some r, e, w' => ∃ k : Nat, At w g all k r ∧ e = .returned (.tuple #[.int .i64 (k : Int), .bool true]) ∧ w' = w
  | none, e, w' => ∃ j : Int, e = .returned (.tuple #[.int .i64 j, .bool false]) ∧ w' = w

theorem vp_no {w : World} {g : Nat} {all : L} {o : Option L} {j : Int} (h : o = none) : VP w g all o (.returned (.tuple #[.int .i64 j, .bool false])) w := by subst h; exact ⟨j, rfl, rfl⟩
theorem vp_yes {w : World} {g : Nat} {all : L} {o : Option L} {j : Int} {k : Nat} {r : L} (h : o = some r) (hA : At w g all k r) (hj : j = k) : VP w g all o (.returned (.tuple #[.int .i64 j, .bool true])) w := by subst h; subst hj; exact ⟨k, hA, rfl, rfl⟩
theorem blank_cases {c : Int} (h : blank c = true) : c = 32 ∨ c = 9 ∨ c = 10 ∨ c = 13 := by simpa [blank, or_assoc] using h
theorem blank_not {c : Int} (h : ¬ blank c = true) : (c == 32) = false ∧ (c == 9) = false ∧ (c == 10) = false ∧ (c == 13) = false := by
  simp only [Bool.not_eq_true, blank, Bool.or_eq_false_iff] at h
  exact ⟨h.1.1.1, h.1.1.2, h.1.2, h.2⟩
theorem skip_blank {c : Int} (t : L) (h : blank c = true) : skip (c :: t) = skip t := by rw [skip, if_pos h]
theorem skip_not {c : Int} (t : L) (h : ¬ blank c = true) : skip (c :: t) = c :: t := by rw [skip, if_neg h]
theorem take_eq {c : Int} (t : L) : take c (c :: t) = some t := by rw [take, if_pos rfl]
theorem take_ne {c d : Int} (t : L) (h : d ≠ c) : take c (d :: t) = none := by rw [take, if_neg h]

set_option maxHeartbeats 4000000 in
set_option maxRecDepth 100000 in
theorem colon_any (w : World) (g c : Nat) (all : L) (i : Nat) (l : L) (h : At w g all i l) :
    Calls Try.prog 33 #[.slice (some ⟨g, 0, none⟩) all.length c, .int .i64 (i : Int)] w (VP w g all (take 58 (skip l))) := by
  have H := Lib.hid h
  have hsm := h.small
  clear h
  go_enter Try.func33, Try.ntmps33
  go_wp2
  go_loop [1] (fun v => Hid (∃ (i' : Nat) (l' : L), v = .int .i64 (i' : Int) ∧ At w g all i' l' ∧ skip l' = skip l)) (fun v => all.length - (intOf v).toNat)
  case atStart => exact Lib.hid ⟨i, l, rfl, H.out, rfl⟩
  case round =>
    obtain ⟨i', l', rfl, hA, hs⟩ := hrel.out
    have HA := Lib.hid hA
    have HS := Lib.hid hs
    clear hrel hA hs
    cases l' with
    | nil =>
      obtain rfl := HA.out.end_
      go_wp2
      go_ret2
      exact vp_no (by rw [← HS.out]; rfl)
    | cons d t =>
      have hlt := HA.out.lt
      have hcell := HA.out.cell
      by_cases hb : blank d = true
      · have HB := Lib.hid hb
        rcases blank_cases hb with rfl | rfl | rfl | rfl
        all_goals
          clear hb
          go_wp2
          go_round
          case rel => exact Lib.hid ⟨i' + 1, t, by go_num, HA.out.step, by rw [← HS.out, skip_blank t HB.out]⟩
          case measure => simp [intOf]; omega
      · obtain ⟨b1, b2, b3, b4⟩ := blank_not hb
        have HB := Lib.hid (skip_not t hb)
        clear hb
        by_cases h58 : d = 58
        · subst h58
          clear b1 b2 b3 b4
          go_wp2
          go_ret2
          exact vp_yes (by rw [← HS.out, HB.out, take_eq]) HA.out.step (by omega)
        · have b5 : (d == 58) = false := beq_eq_false_iff_ne.mpr h58
          have HD := Lib.hid h58
          clear h58
          go_wp2
          go_ret2
          exact vp_no (by rw [← HS.out, HB.out, take_ne t HD.out])

def comma (en : Int) (l : L) : Option L := match skip l with
  | [] => none
  | c :: t => if c = 44 ∨ c = en then some (c :: t) else none
set_option maxHeartbeats 4000000 in
set_option maxRecDepth 100000 in
theorem comma_any (w : World) (g c : Nat) (all : L) (i : Nat) (l : L) (en : Int) (h : At w g all i l) :
    Calls Try.prog 34 #[.slice (some ⟨g, 0, none⟩) all.length c, .int .i64 (i : Int), .int .u8 en] w (VP w g all (comma en l)) := by
  have H := Lib.hid h
  have hsm := h.small
  clear h
  go_enter Try.func34, Try.ntmps34
  go_wp2
  go_loop [1] (fun v => Hid (∃ (i' : Nat) (l' : L), v = .int .i64 (i' : Int) ∧ At w g all i' l' ∧ skip l' = skip l)) (fun v => all.length - (intOf v).toNat)
  case atStart => exact Lib.hid ⟨i, l, rfl, H.out, rfl⟩
  case round =>
    obtain ⟨i', l', rfl, hA, hs⟩ := hrel.out
    have HA := Lib.hid hA
    have HS := Lib.hid hs
    clear hrel hA hs
    cases l' with
    | nil =>
      obtain rfl := HA.out.end_
      go_wp2
      go_ret2
      exact vp_no (by unfold comma; rw [← HS.out]; rfl)
    | cons d t =>
      have hlt := HA.out.lt
      have hcell := HA.out.cell
      by_cases hb : blank d = true
      · have HB := Lib.hid hb
        rcases blank_cases hb with rfl | rfl | rfl | rfl
        all_goals
          clear hb
          go_wp2
          go_round
          case rel => exact Lib.hid ⟨i' + 1, t, by go_num, HA.out.step, by rw [← HS.out, skip_blank t HB.out]⟩
          case measure => simp [intOf]; omega
      · obtain ⟨b1, b2, b3, b4⟩ := blank_not hb
        have HB := Lib.hid (show comma en l = if d = 44 ∨ d = en then some (d :: t) else none by unfold comma; rw [← HS.out, skip_not t hb])
        clear hb
        by_cases h44 : d = 44
        · subst h44
          clear b1 b2 b3 b4
          go_wp2
          go_ret2
          exact vp_yes (by rw [HB.out]; simp) HA.out rfl
        · have b5 : (d == 44) = false := beq_eq_false_iff_ne.mpr h44
          have HD := Lib.hid h44
          clear h44
          by_cases hen : d = en
          · have HE := Lib.hid hen
            have b6 : (d == en) = true := beq_iff_eq.mpr hen
            clear hen
            go_wp2
            go_ret2
            exact vp_yes (by rw [HB.out, if_pos (.inr HE.out)]) HA.out (by omega)
          · have HE := Lib.hid hen
            have b6 : (d == en) = false := beq_eq_false_iff_ne.mpr hen
            clear hen
            go_wp2
            go_ret2
            exact vp_no (by rw [HB.out, if_neg (fun h => h.elim HD.out HE.out)])
end Go.Proofs.Ytiehnomfckbnhaa.J
