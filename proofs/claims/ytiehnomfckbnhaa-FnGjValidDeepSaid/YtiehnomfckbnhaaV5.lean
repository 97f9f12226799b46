/- The walks of gjson's validarray: what is shared, arrays. -/
import Derived.Test.YtiehnomfckbnhaaV1
import Derived.Test.YtiehnomfckbnhaaJLen
set_option linter.unusedVariables false
set_option linter.unusedSimpArgs false
namespace Go.Proofs.Ytiehnomfckbnhaa.J
open Go.RowKit Go.Proofs.YtiehnomfckbnhaaW.PrintWords Go.Proofs.YtiehnomfckbnhaaW.PrintLast Go.Proofs.YtiehnomfckbnhaaW.PrintMore Go.Proofs.Ytiehnomfckbnhaa.Aid

theorem skip_skip : ∀ l : L, skip (skip l) = skip l
  | [] => rfl
  | c :: t => by
    by_cases h : blank c = true
    · rw [skip_blank t h]; exact skip_skip t
    · rw [skip_not t h, skip_not t h]
/-- The rest behind a value. -/
def valR (N n : Nat) (l : L) : Option L := (val N n l).map (·.2)
/-- validany's contract for rests shorter than n. -/
def AnyC (n : Nat) : Prop := ∀ (w : World) (g c : Nat) (all : L) (i : Nat) (l : L), l.length < n → At w g all i l →
  Calls Try.prog 24 #[.slice (some ⟨g, 0, none⟩) all.length c, .int .i64 (i : Int)] w (VP w g all (valR all.length n (skip l)))
theorem comma_none {en : Int} {r : L} (h : comma en r = none) : take en (skip r) = none ∧ take 44 (skip r) = none := by
  unfold comma at h
  cases hs : skip r with
  | nil => exact ⟨rfl, rfl⟩
  | cons c t =>
    rw [hs] at h
    simp only at h
    split at h
    · cases h
    · rename_i hn
      exact ⟨take_ne t (fun e => hn (.inr e)), take_ne t (fun e => hn (.inl e))⟩
theorem comma_some {en : Int} {r q : L} (h : comma en r = some q) : ∃ c t, q = c :: t ∧ skip r = c :: t ∧ (c = 44 ∨ c = en) := by
  unfold comma at h
  cases hs : skip r with
  | nil => rw [hs] at h; cases h
  | cons c t =>
    rw [hs] at h
    simp only at h
    split at h
    · rename_i hc; injection h with h; exact ⟨c, t, h.symm, rfl, hc⟩
    · cases h
/-- elems by rests. -/
theorem elems_none {v : L → Option (Pl × L)} {m : Nat} {l : L} {acc : List Pl} (h : v l = none) : elems v (m + 1) l acc = none := by simp [elems, h]
theorem elems_bad {v : L → Option (Pl × L)} {m : Nat} {l : L} {acc : List Pl} {x : Pl × L} (h : v l = some x) (h1 : take 93 (skip x.2) = none) (h2 : take 44 (skip x.2) = none) : elems v (m + 1) l acc = none := by simp [elems, h, h1, h2]
theorem elems_end {v : L → Option (Pl × L)} {m : Nat} {l t : L} {acc : List Pl} {x : Pl × L} (h : v l = some x) (h1 : take 93 (skip x.2) = some t) : elems v (m + 1) l acc = some (acc ++ [x.1], t) := by simp [elems, h, h1]
theorem elems_on {v : L → Option (Pl × L)} {m : Nat} {l t : L} {acc : List Pl} {x : Pl × L} (h : v l = some x) (h1 : take 93 (skip x.2) = none) (h2 : take 44 (skip x.2) = some t) : elems v (m + 1) l acc = elems v m (skip t) (acc ++ [x.1]) := by simp [elems, h, h1, h2]
def arrR (N n : Nat) (t : L) : Option L := (arr (val N n) t).map (·.2)
theorem valR_some {N n : Nat} {l r : L} (h : valR N n l = some r) : ∃ p, val N n l = some (p, r) := by
  obtain ⟨⟨p, r'⟩, h1, h2⟩ := Option.map_eq_some_iff.1 h
  exact ⟨p, by rw [h1]; simp only at h2; rw [h2]⟩
theorem valR_none {N n : Nat} {l : L} (h : valR N n l = none) : val N n l = none := by simpa [valR] using h
theorem val_nil (N n : Nat) : val N n [] = none := by cases n <;> simp [val]

set_option maxHeartbeats 8000000 in
set_option maxRecDepth 100000 in
theorem array_any (n : Nat) (hv : AnyC n) (w : World) (g c : Nat) (all : L) (i : Nat) (t : L) (hn : t.length < n) (h : At w g all i t) :
    Calls Try.prog 27 #[.slice (some ⟨g, 0, none⟩) all.length c, .int .i64 (i : Int)] w (VP w g all (arrR all.length n t)) := by
  have hsm := h.small
  have H := Lib.hid h
  have HV := Lib.hid hv
  obtain ⟨goal, hg⟩ : ∃ z, z = arrR all.length n t := ⟨_, rfl⟩
  rw [← hg]
  have HG := Lib.hid hg
  clear h hv hg
  go_enter Try.func27, Try.ntmps27
  go_wp2
  go_loop [1] (fun v => Hid (∃ (i' : Nat), v = .int .i64 (i' : Int) ∧ ((∃ l', At w g all i' l' ∧ skip l' = skip t ∧ l'.length ≤ t.length) ∨ (i' = all.length + 1 ∧ goal = none)))) (fun v => all.length + 1 - (intOf v).toNat)
  case atStart => exact Lib.hid ⟨i, rfl, .inl ⟨t, H.out, rfl, Nat.le_refl _⟩⟩
  case round =>
    obtain ⟨i', rfl, hor⟩ := hrel.out
    clear hrel
    rcases hor with ⟨l', hA, hs, hlen⟩ | ⟨rfl, hz⟩
    · have HA := Lib.hid hA
      have HS := Lib.hid hs
      clear hA hs
      cases l' with
      | nil =>
        obtain rfl := HA.out.end_
        have HN := Lib.hid (show goal = none by rw [HG.out, arrR, arr, ← HS.out]; simp [skip, take, elems, val_nil])
        go_wp2
        go_ret2
        exact vp_no HN.out
      | cons d t' =>
        have hlt := HA.out.lt
        have hcell := HA.out.cell
        by_cases hb : blank d = true
        · have HB := Lib.hid hb
          simp only [List.length_cons] at hlen
          rcases blank_cases hb with rfl | rfl | rfl | rfl
          all_goals
            clear hb
            go_wp2
            go_round
            case rel => exact Lib.hid ⟨i' + 1, by go_num, .inl ⟨t', HA.out.step, by rw [← HS.out, skip_blank t' HB.out], by omega⟩⟩
            case measure => simp [intOf]; omega
        · obtain ⟨b1, b2, b3, b4⟩ := blank_not hb
          have HB := Lib.hid (show skip t = d :: t' from HS.out.symm.trans (skip_not t' hb))
          clear hb
          by_cases h93 : d = 93
          · subst h93
            clear b1 b2 b3 b4
            have HN := Lib.hid (show goal = some t' by rw [HG.out, arrR, arr, HB.out, take_eq]; rfl)
            go_wp2
            go_ret2
            exact vp_yes HN.out HA.out.step (by omega)
          · have b5 : (d == 93) = false := beq_eq_false_iff_ne.mpr h93
            have HE := Lib.hid (show goal = (elems (val all.length n) (t.length + 1) (d :: t') []).map (·.2) by rw [HG.out, arrR, arr, HB.out, take_ne t' h93])
            have HSK := Lib.hid (show skip (d :: t') = d :: t' by rw [← HB.out]; exact skip_skip t)
            clear h93
            go_wp2
            go_loop [1] (fun v => Hid (∃ (i2 m : Nat) (l2 : L) (acc : List Pl), v = .int .i64 (i2 : Int) ∧ i' ≤ i2 ∧ At w g all i2 l2 ∧ l2.length < m ∧ l2.length ≤ t.length ∧ (elems (val all.length n) m (skip l2) acc).map (·.2) = goal)) (fun v => all.length - (intOf v).toNat)
            case atStart => exact Lib.hid ⟨i', t.length + 1, d :: t', [], rfl, by omega, HA.out, by omega, hlen, by rw [HSK.out, HE.out]⟩
            case round =>
              obtain ⟨i2, m, l2, acc, rfl, hii, hA2, hm, hl2, he⟩ := hrel.out
              clear hrel
              have HA2 := Lib.hid hA2
              have HE2 := Lib.hid he
              clear hA2 he
              obtain ⟨m', rfl⟩ : ∃ m', m = m' + 1 := ⟨m - 1, by omega⟩
              cases l2 with
              | nil =>
                obtain rfl := HA2.out.end_
                have HN := Lib.hid (show goal = none by rw [← HE2.out]; simp [skip, elems, val_nil])
                go_wp2
                go_round
                case rel => exact Lib.hid ⟨all.length + 1, by go_num, .inr ⟨rfl, HN.out⟩⟩
                case measure => simp [intOf]; omega
              | cons y r =>
                have hlt2 := HA2.out.lt
                have HC := HV.out w g c all i2 (y :: r) (by omega) HA2.out
                cases hR : valR all.length n (skip (y :: r)) with
                | none =>
                  rw [hR] at HC
                  have HN := Lib.hid (show goal = none by rw [← HE2.out, elems_none (valR_none hR)]; rfl)
                  replace HC := Lib.hid HC
                  clear hR
                  go_wp2_with fail
                  refine HC.out.mono ?_
                  rintro e w' ⟨j, rfl, rfl⟩
                  go_wp2
                  go_ret2
                  exact vp_no HN.out
                | some r2 =>
                  rw [hR] at HC
                  obtain ⟨p, hp⟩ := valR_some hR
                  have hrl := val_lt hp
                  have hsk := skip_le (y :: r)
                  replace HC := Lib.hid HC
                  have HP := Lib.hid hp
                  clear hR hp
                  go_wp2_with fail
                  refine HC.out.mono ?_
                  rintro e w' ⟨k2, hA3, rfl, rfl⟩
                  have HA3 := Lib.hid hA3
                  have hk2 := hA3.len
                  have hk1 := HA2.out.len
                  have HM := comma_any w' g c all k2 r2 93 hA3
                  clear hA3
                  cases hQ : comma 93 r2 with
                  | none =>
                    rw [hQ] at HM
                    have HN := Lib.hid (show goal = none by rw [← HE2.out, elems_bad HP.out (comma_none hQ).1 (comma_none hQ).2]; rfl)
                    replace HM := Lib.hid HM
                    clear hQ
                    go_wp2_with fail
                    refine HM.out.mono ?_
                    rintro e w' ⟨j, rfl, rfl⟩
                    go_wp2
                    go_ret2
                    exact vp_no HN.out
                  | some q =>
                    rw [hQ] at HM
                    obtain ⟨z, s, rfl, hzs, hz⟩ := comma_some hQ
                    have hs2 := skip_le r2
                    rw [hzs] at hs2
                    simp only [List.length_cons] at hs2 hsk hm hl2 hk1
                    replace HM := Lib.hid HM
                    have HZ := Lib.hid hzs
                    clear hQ hzs
                    go_wp2_with fail
                    refine HM.out.mono ?_
                    rintro e w' ⟨k3, hA4, rfl, rfl⟩
                    have HA4 := Lib.hid hA4
                    have hlt4 := hA4.lt
                    have hcell4 := hA4.cell
                    have hk3 := hA4.len
                    simp only [List.length_cons] at hk3
                    clear hA4
                    by_cases h93 : z = 93
                    · subst h93
                      have HN := Lib.hid (show goal = some s by rw [← HE2.out, elems_end HP.out (by rw [HZ.out, take_eq])]; rfl)
                      clear hz
                      go_wp2
                      go_ret2
                      exact vp_yes HN.out HA4.out.step (by omega)
                    · obtain rfl : z = 44 := hz.resolve_right h93
                      have HN := Lib.hid (show (elems (val all.length n) m' (skip s) (acc ++ [p])).map (·.2) = goal by rw [← HE2.out, elems_on HP.out (by rw [HZ.out, take_ne s (by decide)]) (by rw [HZ.out, take_eq])])
                      clear hz h93
                      go_wp2
                      go_round
                      case rel => exact Lib.hid ⟨k3 + 1, m', s, acc ++ [p], by go_num, by omega, HA4.out.step, by omega, by omega, HN.out⟩
                      case measure => simp [intOf]; omega
    · have HZ := Lib.hid hz
      clear hz
      go_wp2
      go_ret2
      exact vp_no HZ.out
end Go.Proofs.Ytiehnomfckbnhaa.J
