/- The walks of gjson's validpayload, Valid and ValidBytes, and of the law FnGjValidBytes. -/
import Derived.Test.YtiehnomfckbnhaaV7
import Derived.Test.YtiehnomfckbnhaaJ8
set_option linter.unusedVariables false
set_option linter.unusedSimpArgs false
namespace Go.Proofs.Ytiehnomfckbnhaa.J
open Go.RowKit Go.Proofs.YtiehnomfckbnhaaW.PrintWords Go.Proofs.YtiehnomfckbnhaaW.PrintLast Go.Proofs.YtiehnomfckbnhaaW.PrintMore Go.Proofs.Ytiehnomfckbnhaa.Aid

def good (l : L) : Bool := (text l).isSome
theorem good_none {l : L} (h : valR l.length (l.length + 1) (skip l) = none) : good l = false := by
  unfold good text; rw [valR_none h]; rfl
theorem good_some {l r : L} (h : valR l.length (l.length + 1) (skip l) = some r) : good l = decide (skip r = []) := by
  obtain ⟨p, hp⟩ := valR_some h
  unfold good text
  rw [hp, Option.bind_some]
  by_cases e : skip r = []
  · simp [e]
  · simp [e]
def PP (w : World) (b : Bool) (e : Ending) (w' : World) : Prop := ∃ j : Int, e = .returned (.tuple #[.int .i64 j, .bool b]) ∧ w' = w
theorem pp_ret {w : World} {b b' : Bool} {j : Int} (h : b = b') : PP w b (.returned (.tuple #[.int .i64 j, .bool b'])) w := by subst h; exact ⟨j, rfl, rfl⟩

set_option maxHeartbeats 8000000 in
set_option maxRecDepth 100000 in
theorem payload_any (w : World) (g c : Nat) (all : L) (h : At w g all 0 all) :
    Calls Try.prog 19 #[.slice (some ⟨g, 0, none⟩) all.length c, .int .i64 0] w (PP w (good all)) := by
  have hsm := h.small
  have H := Lib.hid h
  clear h
  go_enter Try.func19, Try.ntmps19
  go_wp2
  go_loop [1] (fun v => Hid (∃ (i' : Nat) (l' : L), v = .int .i64 (i' : Int) ∧ At w g all i' l' ∧ skip l' = skip all ∧ l'.length ≤ all.length)) (fun v => all.length - (intOf v).toNat)
  case atStart => exact Lib.hid ⟨0, all, rfl, H.out, rfl, Nat.le_refl _⟩
  case round =>
    obtain ⟨i', l', rfl, hA, hs, hlen⟩ := hrel.out
    have HA := Lib.hid hA
    have HS := Lib.hid hs
    clear hrel hA hs
    cases l' with
    | nil =>
      obtain rfl := HA.out.end_
      have HN := Lib.hid (show good all = false from good_none (by rw [← HS.out, skip, valR, val_nil]; rfl))
      go_wp2
      go_ret2
      exact pp_ret HN.out
    | cons d t =>
      have hlt := HA.out.lt
      have hcell := HA.out.cell
      simp only [List.length_cons] at hlen
      by_cases hb : blank d = true
      · have HB := Lib.hid hb
        rcases blank_cases hb with rfl | rfl | rfl | rfl
        all_goals
          clear hb
          go_wp2
          go_round
          case rel => exact Lib.hid ⟨i' + 1, t, by go_num, HA.out.step, by rw [← HS.out, skip_blank t HB.out], by omega⟩
          case measure => simp [intOf]; omega
      · obtain ⟨b1, b2, b3, b4⟩ := blank_not hb
        clear hb
        have HC := any_any (all.length + 1) w g c all i' (d :: t) (by simp only [List.length_cons]; omega) HA.out
        rw [HS.out] at HC
        cases hR : valR all.length (all.length + 1) (skip all) with
        | none =>
          rw [hR] at HC
          have HN := Lib.hid (good_none hR)
          replace HC := Lib.hid HC
          clear hR
          go_wp2_with fail
          refine HC.out.mono ?_
          rintro e w' ⟨j, rfl, rfl⟩
          go_wp2
          go_ret2
          exact pp_ret HN.out
        | some r =>
          rw [hR] at HC
          have HN := Lib.hid (good_some hR)
          replace HC := Lib.hid HC
          clear hR
          go_wp2_with fail
          refine HC.out.mono ?_
          rintro e w' ⟨k, hA, rfl, rfl⟩
          clear hcell hlt hlen
          have HA3 := Lib.hid hA
          clear hA
          go_wp2
          go_loop [1] (fun v => Hid (∃ (i9 : Nat) (l9 : L), v = .int .i64 (i9 : Int) ∧ At w' g all i9 l9 ∧ skip l9 = skip r)) (fun v => all.length - (intOf v).toNat)
          case atStart => exact Lib.hid ⟨k, r, rfl, HA3.out, rfl⟩
          case round =>
            obtain ⟨i9, l9, rfl, hA9, hs9⟩ := hrel.out
            have HA9 := Lib.hid hA9
            have HS9 := Lib.hid hs9
            clear hrel hA9 hs9
            cases l9 with
            | nil =>
              obtain rfl := HA9.out.end_
              have HX := Lib.hid (show good all = true by rw [HN.out, ← HS9.out]; rfl)
              go_wp2
              go_ret2
              exact pp_ret HX.out
            | cons y r9 =>
              have hlt := HA9.out.lt
              have hcell := HA9.out.cell
              by_cases hb : blank y = true
              · have HB := Lib.hid hb
                rcases blank_cases hb with rfl | rfl | rfl | rfl
                all_goals
                  clear hb
                  go_wp2
                  go_round
                  case rel => exact Lib.hid ⟨i9 + 1, r9, by go_num, HA9.out.step, by rw [← HS9.out, skip_blank r9 HB.out]⟩
                  case measure => simp [intOf]; omega
              · obtain ⟨b1, b2, b3, b4⟩ := blank_not hb
                have HX := Lib.hid (show good all = false by rw [HN.out, ← HS9.out, skip_not r9 hb]; simp)
                clear hb
                go_wp2
                go_ret2
                exact pp_ret HX.out

theorem at_bytes (w : World) (s : ByteArray) (hs : s.size ≤ 2147483647) : At (Lib.bytesWorld w 5 s) w.heap.size (bytesOf s) 0 (bytesOf s) where
  cells := fun j hj => bytes_cells w 5 s j (by rwa [bytesOf_length] at hj)
  small := by rw [bytesOf_length]; exact hs
  range := fun c hc => by have := bytesOf_range s c hc; omega
  le := Nat.zero_le _
  rest := rfl

set_option maxHeartbeats 4000000 in
set_option maxRecDepth 100000 in
theorem ValidBytes_any (w : World) (g c : Nat) (all : L) (h : At w g all 0 all) :
    Calls Try.prog 10 #[.slice (some ⟨g, 0, none⟩) all.length c] w fun e w' => e = .returned (.bool (good all)) ∧ w' = w := by
  have HP := Lib.hid (payload_any w g c all h)
  clear h
  go_enter Try.func10, Try.ntmps10
  go_wp2_with fail
  refine HP.out.mono ?_
  rintro e w' ⟨j, rfl, rfl⟩
  go_wp2
  go_ret
  exact ⟨rfl, rfl⟩
set_option maxHeartbeats 4000000 in
set_option maxRecDepth 100000 in
theorem GjValidBytes_any (s : ByteArray) (hs : s.size ≤ 2147483647) (w : World) :
    Calls Try.prog 6 #[.string s] w fun e w' => e = .returned (.bool (good (bytesOf s))) ∧ Below w.heap.size w w' := by
  have kb := print_bytes (P := Try.prog) 9 29 5 Try.underlying9 Try.underlying29 Try.underlying5 s w
  have HB := Lib.hid (show Below w.heap.size w (Lib.bytesWorld w 5 s) from bytes_below (Below.refl _ _) (Nat.le_refl _) _ _)
  have HP := ValidBytes_any _ w.heap.size (grownCap w s.size 0 5) (bytesOf s) (at_bytes w s hs)
  rw [bytesOf_length] at HP
  obtain ⟨w1, hw1⟩ : ∃ z, z = Lib.bytesWorld w 5 s := ⟨_, rfl⟩
  rw [← hw1] at kb HB HP
  replace HP := Lib.hid HP
  clear hw1
  go_enter Try.func6, Try.ntmps6
  go_wp2_with fail
  refine HP.out.mono ?_
  rintro e w' ⟨rfl, rfl⟩
  go_wp2
  go_ret
  exact ⟨rfl, HB.out⟩

set_option maxHeartbeats 4000000 in
set_option maxRecDepth 100000 in
theorem law_bytes (s : ByteArray) (w : World) (hs : s.size ≤ 140737488351232) :
    Calls Try.prog 3 #[.string s] w fun e w' => e = .returned (.bool true) ∧ Below w.heap.size w w' := by
  by_cases h : 2147483647 < s.size
  · have hb : decide ((s.size : Int) > 2147483647) = true := decide_eq_true (by omega)
    go_enter Try.func3, Try.ntmps3
    go_wp2
    go_ret
    exact ⟨rfl, Below.refl _ _⟩
  by_cases h2 : 65536 < s.size
  · have hb : decide ((s.size : Int) > 2147483647) = false := decide_eq_false (by omega)
    have hb' : decide ((s.size : Int) > 65536) = true := decide_eq_true (by omega)
    go_enter Try.func3, Try.ntmps3
    go_wp2
    go_ret
    exact ⟨rfl, Below.refl _ _⟩
  · have hb : decide ((s.size : Int) > 2147483647) = false := decide_eq_false (by omega)
    have hb' : decide ((s.size : Int) > 65536) = false := decide_eq_false (by omega)
    have HP := Lib.hid (Places_any s (by omega))
    have HV := Lib.hid (GjValidBytes_any s (by omega))
    clear h h2
    go_enter Try.func3, Try.ntmps3
    go_wp2_with fail
    refine (HP.out _).mono ?_
    cases F : text (bytesOf s) with
    | none =>
      rintro e w' ⟨hB, rfl⟩
      have HB := Lib.hid hB
      have HG := Lib.hid (show good (bytesOf s) = false by unfold good; rw [F]; rfl)
      rw [HG.out] at HV
      clear hB F
      go_wp2_with fail
      refine (HV.out _).mono ?_
      rintro e w2 ⟨rfl, hb2⟩
      replace HB := Lib.hid (below_then (HB.out.alloc HB.out.size _) (HB.out.alloc HB.out.size _).size hb2)
      clear hb2
      go_wp2
      go_ret
      exact ⟨rfl, HB.out⟩
    | some p =>
      rintro e w' ⟨A3, c3, A4, c4, hB, h3, h4, rfl⟩
      have HB := Lib.hid hB
      have HG := Lib.hid (show good (bytesOf s) = true by unfold good; rw [F]; rfl)
      clear h3 h4
      rw [HG.out] at HV
      clear hB F
      go_wp2_with fail
      refine (HV.out _).mono ?_
      rintro e w2 ⟨rfl, hb2⟩
      replace HB := Lib.hid (below_then (HB.out.alloc HB.out.size _) (HB.out.alloc HB.out.size _).size hb2)
      clear hb2
      go_wp2
      go_ret
      exact ⟨rfl, HB.out⟩
end Go.Proofs.Ytiehnomfckbnhaa.J
