/- The walk of strconv.AppendQuote over plain bytes. -/
import Derived.Test.YtkmdcckiehbcmaaDoorFuRow
import Derived.Test.YtkmdcckiehbcmaaDoorFqPure
import Derived.OwnWalk
set_option linter.unusedVariables false
set_option linter.unusedSimpArgs false
namespace Go.Proofs.YtkmdcckiehbcmaaDoor.J
open Go.RowKit Go.Proofs.YtkmdcckiehbcmaaDoorW.PrintWords Go.Proofs.YtkmdcckiehbcmaaDoorW.PrintLast Go.Proofs.YtkmdcckiehbcmaaDoorW.PrintMore Go.Proofs.YtkmdcckiehbcmaaDoor.Aid

theorem isprint_yes (c : Int) (w : World) (h0 : 32 ≤ c) (h1 : c ≤ 126) : Calls Tryd.prog 95 #[.int .i32 c] w fun e w' => e = .returned (.bool true) ∧ w' = w := by
  go_enter Tryd.func95, Tryd.ntmps95
  go_wp2
  go_ret
  exact ⟨rfl, rfl⟩
theorem isprint_no (c : Int) (w : World) (h0 : 0 ≤ c) (h1 : c < 32) : Calls Tryd.prog 95 #[.int .i32 c] w fun e w' => e = .returned (.bool false) ∧ w' = w := by
  go_enter Tryd.func95, Tryd.ntmps95
  go_wp2
  go_ret
  exact ⟨rfl, rfl⟩
def OuPost (w0 : World) (xs : L) (e : Ending) (w' : World) : Prop := ∃ v, e = .returned v ∧ OutF w0 w' v xs
set_option maxHeartbeats 4000000 in
set_option maxRecDepth 100000 in
theorem arune_any (w0 w : World) (v : Value) (xs : L) (c : Int) (h0 : 0 ≤ c) (h1 : c ≤ 126) (hl : xs.length + 1 ≤ 4294967296) (H : OutF w0 w v xs) :
    Calls Tryd.prog 97 #[v, .int .i32 c] w (OuPost w0 (xs ++ [c])) := by
  have HO := Lib.hid H
  clear H
  go_enter Tryd.func97, Tryd.ntmps97
  go_wp2_with (at_builtin; refine outF_row rfl (.tmp 8) (.tmp 11) rfl _ [c] xs 1 1 rfl (by simp [go_sem]) rfl HO.out hl ?_; intro v1 w1 ho; have H1 := Lib.hid ho; clear ho)
  go_ret
  exact ⟨_, rfl, H1.out⟩
set_option maxHeartbeats 4000000 in
set_option maxRecDepth 100000 in
theorem esc_any (w0 w : World) (v : Value) (xs : L) (c : Int) (hc : pl2 c = true) (hl : xs.length + 2 ≤ 4294967296) (H : OutF w0 w v xs) :
    Calls Tryd.prog 86 #[v, .int .i32 c, .int .u8 34, .bool false, .bool false] w (OuPost w0 (xs ++ qz c)) := by
  have HO := Lib.hid H
  have hl1 : xs.length + 1 ≤ 4294967296 := by omega
  have hl2 : ∀ x : Int, (xs ++ [x]).length + 1 ≤ 4294967296 := fun x => by rw [List.length_append]; simp; omega
  clear H
  have hr : 8 ≤ c ∧ c ≤ 126 ∧ (c < 32 → c = 8 ∨ c = 9 ∨ c = 10 ∨ c = 12 ∨ c = 13) := by
    unfold pl2 at hc
    simp only [Bool.or_eq_true, Bool.and_eq_true, decide_eq_true_eq, beq_iff_eq] at hc
    omega
  clear hc
  obtain ⟨h0, h1, h2⟩ := hr
  by_cases c34 : c = 34
  · subst c34
    clear h2
    have e : Hid (xs ++ qz 34 = (xs ++ [92]) ++ [34]) := Lib.hid (by rw [List.append_assoc]; rfl)
    go_enter Tryd.func86, Tryd.ntmps86
    go_wp2_with (first
      | (at_builtin; refine outF_row rfl (.tmp 21) (.tmp 22) rfl _ [92] xs 1 1 rfl (by simp [go_sem]) rfl HO.out hl1 ?_; intro v1 w1 ho; have H1 := Lib.hid ho; clear ho)
      | (at_builtin; refine outF_row rfl (.tmp 24) (.tmp 27) rfl _ [34] (xs ++ [92]) 1 1 rfl (by simp [go_sem]) rfl H1.out (hl2 92) ?_; intro v2 w2 ho; have H2 := Lib.hid ho; clear ho))
    go_ret
    exact ⟨_, rfl, by rw [e.out]; exact H2.out⟩
  by_cases c92 : c = 92
  · subst c92
    clear h2
    have e : Hid (xs ++ qz 92 = (xs ++ [92]) ++ [92]) := Lib.hid (by rw [List.append_assoc]; rfl)
    go_enter Tryd.func86, Tryd.ntmps86
    go_wp2_with (first
      | (at_builtin; refine outF_row rfl (.tmp 21) (.tmp 22) rfl _ [92] xs 1 1 rfl (by simp [go_sem]) rfl HO.out hl1 ?_; intro v1 w1 ho; have H1 := Lib.hid ho; clear ho)
      | (at_builtin; refine outF_row rfl (.tmp 24) (.tmp 27) rfl _ [92] (xs ++ [92]) 1 1 rfl (by simp [go_sem]) rfl H1.out (hl2 92) ?_; intro v2 w2 ho; have H2 := Lib.hid ho; clear ho))
    go_ret
    exact ⟨_, rfl, by rw [e.out]; exact H2.out⟩
  have k34 : (c == 34) = false := beq_eq_false_iff_ne.mpr c34
  have k92 : (c == 92) = false := beq_eq_false_iff_ne.mpr c92
  by_cases hp : 32 ≤ c
  · have e : Hid (qz c = [c]) := Lib.hid (by
      unfold qz
      rw [if_neg c34, if_neg c92, if_neg (by omega), if_neg (by omega), if_neg (by omega), if_neg (by omega), if_neg (by omega)])
    have HP := Lib.hid (fun W => isprint_yes c W hp h1)
    have HA := Lib.hid (show ∀ W, OutF w0 W v xs → Calls Tryd.prog 97 #[v, .int .i32 c] W (OuPost w0 (xs ++ [c])) from fun W ho => arune_any w0 W v xs c (by omega) h1 hl1 ho)
    clear h2 c34 c92
    go_enter Tryd.func86, Tryd.ntmps86
    go_wp2_with (first
      | (go_at_call 95; refine (HP.out _).mono ?_; rintro e w1 ⟨rfl, hw⟩; replace hw := hw.symm; subst hw)
      | (go_at_call 97; refine (HA.out _ HO.out).mono ?_; rintro e w1 ⟨v1, rfl, ho⟩; have H1 := Lib.hid ho; clear ho))
    go_ret
    exact ⟨_, rfl, by rw [e.out]; exact H1.out⟩
  · have HP := Lib.hid (fun W => isprint_no c W (by omega) (by omega))
    rcases h2 (by omega) with rfl | rfl | rfl | rfl | rfl
    all_goals
      clear h2 c34 c92 hp
      go_enter Tryd.func86, Tryd.ntmps86
      go_wp2_with (first
        | (go_at_call 95; refine (HP.out _).mono ?_; rintro e w1 ⟨rfl, hw⟩; replace hw := hw.symm; subst hw)
        | (at_builtin; refine outF_str rfl (.tmp 122) (.const (.string ⟨#[92, 98]⟩)) rfl _ ⟨#[92, 98]⟩ xs rfl rfl HO.out hl ?_; intro v1 w1 ho; have H1 := Lib.hid ho; clear ho)
        | (at_builtin; refine outF_str rfl (.tmp 126) (.const (.string ⟨#[92, 102]⟩)) rfl _ ⟨#[92, 102]⟩ xs rfl rfl HO.out hl ?_; intro v1 w1 ho; have H1 := Lib.hid ho; clear ho)
        | (at_builtin; refine outF_str rfl (.tmp 130) (.const (.string ⟨#[92, 110]⟩)) rfl _ ⟨#[92, 110]⟩ xs rfl rfl HO.out hl ?_; intro v1 w1 ho; have H1 := Lib.hid ho; clear ho)
        | (at_builtin; refine outF_str rfl (.tmp 134) (.const (.string ⟨#[92, 114]⟩)) rfl _ ⟨#[92, 114]⟩ xs rfl rfl HO.out hl ?_; intro v1 w1 ho; have H1 := Lib.hid ho; clear ho)
        | (at_builtin; refine outF_str rfl (.tmp 138) (.const (.string ⟨#[92, 116]⟩)) rfl _ ⟨#[92, 116]⟩ xs rfl rfl HO.out hl ?_; intro v1 w1 ho; have H1 := Lib.hid ho; clear ho))
      go_ret
      exact ⟨_, rfl, H1.out⟩
end Go.Proofs.YtkmdcckiehbcmaaDoor.J
