/- The walk of gjson's validobject. -/
import Derived.Test.YtiehnomfckbnhaaV5
import Derived.Test.YtiehnomfckbnhaaV3
import Derived.Test.YtiehnomfckbnhaaJump
set_option linter.unusedVariables false
set_option linter.unusedSimpArgs false
namespace Go.Proofs.Ytiehnomfckbnhaa.J
open Go.RowKit Go.Proofs.YtiehnomfckbnhaaW.PrintWords Go.Proofs.YtiehnomfckbnhaaW.PrintLast Go.Proofs.YtiehnomfckbnhaaW.PrintMore Go.Proofs.Ytiehnomfckbnhaa.Aid

section
variable {N : Nat} {v : L → Option (Pl × L)} {m : Nat} {t l1 l2 s : L} {ns : List Sp} {ks : List Pl} {x : Pl × L}
theorem mems_open : mems N v (m + 1) (34 :: t) ns ks = (str t).bind fun l1 => (take 58 (skip l1)).bind fun l2 => (v (skip l2)).bind fun x =>
    match take 125 (skip x.2) with
    | some t' => some ((ns ++ [⟨pos N (34 :: t), pos N l1⟩], ks ++ [x.1]), t')
    | none => (take 44 (skip x.2)).bind fun t' => mems N v m (skip t') (ns ++ [⟨pos N (34 :: t), pos N l1⟩]) (ks ++ [x.1]) := by
  rw [mems, take_eq]; rfl
theorem mems_s0 (h0 : str t = none) : mems N v (m + 1) (34 :: t) ns ks = none := by rw [mems_open, h0]; rfl
theorem mems_s1 (h0 : str t = some l1) (h1 : take 58 (skip l1) = none) : mems N v (m + 1) (34 :: t) ns ks = none := by rw [mems_open, h0, Option.bind_some, h1]; rfl
theorem mems_s2 (h0 : str t = some l1) (h1 : take 58 (skip l1) = some l2) (h2 : v (skip l2) = none) : mems N v (m + 1) (34 :: t) ns ks = none := by rw [mems_open, h0, Option.bind_some, h1, Option.bind_some, h2]; rfl
theorem mems_bad (h0 : str t = some l1) (h1 : take 58 (skip l1) = some l2) (h2 : v (skip l2) = some x) (h3 : take 125 (skip x.2) = none) (h4 : take 44 (skip x.2) = none) : mems N v (m + 1) (34 :: t) ns ks = none := by
  rw [mems_open, h0, Option.bind_some, h1, Option.bind_some, h2, Option.bind_some, h3, h4]; rfl
theorem mems_end (h0 : str t = some l1) (h1 : take 58 (skip l1) = some l2) (h2 : v (skip l2) = some x) (h3 : take 125 (skip x.2) = some s) : (mems N v (m + 1) (34 :: t) ns ks).map (·.2) = some s := by
  rw [mems_open, h0, Option.bind_some, h1, Option.bind_some, h2, Option.bind_some, h3]; rfl
theorem mems_on (h0 : str t = some l1) (h1 : take 58 (skip l1) = some l2) (h2 : v (skip l2) = some x) (h3 : take 125 (skip x.2) = none) (h4 : take 44 (skip x.2) = some s) : ∃ ns' ks', mems N v (m + 1) (34 :: t) ns ks = mems N v m (skip s) ns' ks' := by
  refine ⟨ns ++ [⟨pos N (34 :: t), pos N l1⟩], ks ++ [x.1], ?_⟩
  rw [mems_open, h0, Option.bind_some, h1, Option.bind_some, h2, Option.bind_some, h3, h4]; rfl
theorem mems_nil : mems N v m [] ns ks = none := by cases m <;> simp [mems, take]
theorem mems_ne {d : Int} (h : d ≠ 34) : mems N v m (d :: t) ns ks = none := by
  cases m with
  | zero => simp [mems]
  | succ m => rw [mems, take_ne t h]; rfl
end
def ObjJ (w : World) (g c : Nat) (all t : L) (n : Nat) (goal : Option L) : Act → World → Prop := fun a' w' => w' = w ∧ ∃ (u1 u2 u3 u4 u5 u6 u7 u8 u9 u10 u11 u12 u13 u14 u15 u16 u17 u18 u19 u20 u21 u22 u23 u24 u25 u26 u27 u28 u29 u30 u31 u32 u33 u34 u35 u36 u37 u38 u39 u40 u41 u42 u43 u44 u45 u46 u47 u48 u49 u50 u51 u52 u53 u54 u55 u56 u57 u58 u59 u60 u61 u62 u63 u64 u65 u66 u67 u68 u69 u70 u71 u72 u73 u74 u75 u76 u77 u78 u79 u80 u81 u82 u83 u84 u85 u86 u87 u88 u89 u90 u91 u92 u93 : Value), a' = { tmps := #[.slice (some ⟨g, 0, none⟩) all.length c, u1, u2, u3, u4, u5, u6, u7, u8, u9, u10, u11, u12, u13, u14, u15, u16, u17, u18, u19, u20, u21, u22, u23, u24, u25, u26, u27, u28, u29, u30, u31, u32, u33, u34, u35, u36, u37, u38, u39, u40, u41, u42, u43, u44, u45, u46, u47, u48, u49, u50, u51, u52, u53, u54, u55, u56, u57, u58, u59, u60, u61, u62, u63, u64, u65, u66, u67, u68, u69, u70, u71, u72, u73, u74, u75, u76, u77, u78, u79, u80, u81, u82, u83, u84, u85, u86, u87, u88, u89, u90, u91, u92, u93], defers := [] } ∧ Hid (∃ (i2 m : Nat) (t1 : L) (ns : List Sp) (ks : List Pl), u1 = .int .i64 (i2 : Int) ∧ At w g all i2 (34 :: t1) ∧ t1.length + 1 < m ∧ t1.length + 1 ≤ t.length ∧ (mems all.length (val all.length n) m (34 :: t1) ns ks).map (·.2) = goal)
def ObjM (N : Nat) (a' : Act) (_ : World) : Nat := N - (intOf (a'.tmps.getD 1 undef)).toNat
def objR (N n : Nat) (t : L) : Option L := (obj N (val N n) t).map (·.2)

set_option maxHeartbeats 16000000 in
set_option maxRecDepth 100000 in
theorem object_any (n : Nat) (hv : AnyC n) (w : World) (g c : Nat) (all : L) (i : Nat) (t : L) (hn : t.length < n) (h : At w g all i t) :
    Calls Try.prog 26 #[.slice (some ⟨g, 0, none⟩) all.length c, .int .i64 (i : Int)] w (VP w g all (objR all.length n t)) := by
  have hsm := h.small
  have H := Lib.hid h
  have HV := Lib.hid hv
  obtain ⟨goal, hg⟩ : ∃ z, z = objR all.length n t := ⟨_, rfl⟩
  rw [← hg]
  have HG := Lib.hid hg
  clear h hv hg
  go_enter Try.func26, Try.ntmps26
  go_wp2
  go_loop [1] (fun v => Hid (∃ (i' : Nat) (l' : L), v = .int .i64 (i' : Int) ∧ At w g all i' l' ∧ skip l' = skip t ∧ l'.length ≤ t.length)) (fun v => all.length - (intOf v).toNat)
  case atStart => exact Lib.hid ⟨i, t, rfl, H.out, rfl, Nat.le_refl _⟩
  case round =>
    obtain ⟨i', l', rfl, hA, hs, hlen⟩ := hrel.out
    have HA := Lib.hid hA
    have HS := Lib.hid hs
    clear hrel hA hs
    cases l' with
    | nil =>
      obtain rfl := HA.out.end_
      have HN := Lib.hid (show goal = none by rw [HG.out, objR, obj, ← HS.out]; simp [skip, take, mems_nil])
      go_wp2
      go_ret2
      exact vp_no HN.out
    | cons d t' =>
      have hlt := HA.out.lt
      have hcell := HA.out.cell
      by_cases hb : blank d = true
      · have HB := Lib.hid hb
        simp only [List.length_cons] at hlen
        rcases blank_cases hb with rfl | rfl | rfl | rfl
        all_goals
          clear hb
          go_wp2
          go_round
          case rel => exact Lib.hid ⟨i' + 1, t', by go_num, HA.out.step, by rw [← HS.out, skip_blank t' HB.out], by omega⟩
          case measure => simp [intOf]; omega
      · obtain ⟨b1, b2, b3, b4⟩ := blank_not hb
        have HB := Lib.hid (show skip t = d :: t' from HS.out.symm.trans (skip_not t' hb))
        clear hb
        by_cases h125 : d = 125
        · subst h125
          clear b1 b2 b3 b4
          have HN := Lib.hid (show goal = some t' by rw [HG.out, objR, obj, HB.out, take_eq]; rfl)
          go_wp2
          go_ret2
          exact vp_yes HN.out HA.out.step (by omega)
        · have b5 : (d == 125) = false := beq_eq_false_iff_ne.mpr h125
          have HE := Lib.hid (show goal = (mems all.length (val all.length n) (t.length + 1) (d :: t') [] []).map (·.2) by rw [HG.out, objR, obj, HB.out, take_ne t' h125])
          clear h125
          by_cases h34 : d = 34
          · subst h34
            clear b1 b2 b3 b4 b5
            simp only [List.length_cons] at hlen
            go_wp2
            refine wp_scope_label (ObjJ w g c all t n goal) (ObjM all.length) ?_ ?_
            · exact ⟨rfl, _, _, _, _, _, _, _, _, _, _, _, _, _, _, _, _, _, _, _, _, _, _, _, _, _, _, _, _, _, _, _, _, _, _, _, _, _, _, _, _, _, _, _, _, _, _, _, _, _, _, _, _, _, _, _, _, _, _, _, _, _, _, _, _, _, _, _, _, _, _, _, _, _, _, _, _, _, _, _, _, _, _, _, _, _, _, _, _, _, _, _, _, _, rfl, Lib.hid ⟨i', t.length + 1, t', [], [], rfl, HA.out, by omega, hlen, HE.out.symm⟩⟩
            · rintro a' w' hJ
              obtain ⟨rfl, u1, u2, u3, u4, u5, u6, u7, u8, u9, u10, u11, u12, u13, u14, u15, u16, u17, u18, u19, u20, u21, u22, u23, u24, u25, u26, u27, u28, u29, u30, u31, u32, u33, u34, u35, u36, u37, u38, u39, u40, u41, u42, u43, u44, u45, u46, u47, u48, u49, u50, u51, u52, u53, u54, u55, u56, u57, u58, u59, u60, u61, u62, u63, u64, u65, u66, u67, u68, u69, u70, u71, u72, u73, u74, u75, u76, u77, u78, u79, u80, u81, u82, u83, u84, u85, u86, u87, u88, u89, u90, u91, u92, u93, rfl, hrel⟩ := hJ
              obtain ⟨i2, m, t1, ns, ks, rfl, hA2, hm, hl2, he⟩ := hrel.out
              clear hrel
              have hA3 := hA2.step
              have HA2 := Lib.hid hA2
              have HE2 := Lib.hid he
              have hk0 := hA2.len
              simp only [List.length_cons] at hk0
              clear hA2 he hlt hcell HA HE HS HB
              obtain ⟨m', rfl⟩ : ∃ m', m = m' + 1 := ⟨m - 1, by omega⟩
              have HC := string_any w' g c all (i2 + 1) t1 hA3
              clear hA3
              cases F0 : str t1 with
              | none =>
                rw [F0] at HC
                have HN := Lib.hid (show goal = none by rw [← HE2.out, mems_s0 F0]; rfl)
                replace HC := Lib.hid HC
                clear F0
                go_wp2_with fail
                refine HC.out.mono ?_
                rintro e w2 ⟨j, rfl, rfl⟩
                go_wp2
                simp only [jumps]; go_ret2
                exact vp_no HN.out
              | some l1 =>
              rw [F0] at HC
              have q0 := str_lt' F0
              replace HC := Lib.hid HC
              replace F0 := Lib.hid F0
              go_wp2_with fail
              refine HC.out.mono ?_
              rintro e w2 ⟨k1, hA3, rfl, rfl⟩
              have HM := colon_any w2 g c all k1 l1 hA3
              clear hA3
              cases F1 : take 58 (skip l1) with
              | none =>
                rw [F1] at HM
                have HN := Lib.hid (show goal = none by rw [← HE2.out, mems_s1 F0.out F1]; rfl)
                replace HM := Lib.hid HM
                clear F1
                go_wp2_with fail
                refine HM.out.mono ?_
                rintro e w3 ⟨j, rfl, rfl⟩
                go_wp2
                simp only [jumps]; go_ret2
                exact vp_no HN.out
              | some l2 =>
              rw [F1] at HM
              have q1 := take_lt F1
              have q1' := skip_le l1
              replace HM := Lib.hid HM
              replace F1 := Lib.hid F1
              go_wp2_with fail
              refine HM.out.mono ?_
              rintro e w3 ⟨k2, hA3, rfl, rfl⟩
              have HC2 := HV.out w3 g c all k2 l2 (by omega) hA3
              clear hA3
              cases hR : valR all.length n (skip l2) with
              | none =>
                rw [hR] at HC2
                have HN := Lib.hid (show goal = none by rw [← HE2.out, mems_s2 F0.out F1.out (valR_none hR)]; rfl)
                replace HC2 := Lib.hid HC2
                clear hR
                go_wp2_with fail
                refine HC2.out.mono ?_
                rintro e w4 ⟨j, rfl, rfl⟩
                go_wp2
                simp only [jumps]; go_ret2
                exact vp_no HN.out
              | some r2 =>
              rw [hR] at HC2
              obtain ⟨p, hp⟩ := valR_some hR
              have hrl := val_lt hp
              have hsk := skip_le l2
              replace HC2 := Lib.hid HC2
              have HP := Lib.hid hp
              clear hR hp
              go_wp2_with fail
              refine HC2.out.mono ?_
              rintro e w4 ⟨k3, hA3, rfl, rfl⟩
              have HM2 := comma_any w4 g c all k3 r2 125 hA3
              clear hA3
              cases hQ : comma 125 r2 with
              | none =>
                rw [hQ] at HM2
                have HN := Lib.hid (show goal = none by rw [← HE2.out, mems_bad F0.out F1.out HP.out (comma_none hQ).1 (comma_none hQ).2]; rfl)
                replace HM2 := Lib.hid HM2
                clear hQ
                go_wp2_with fail
                refine HM2.out.mono ?_
                rintro e w5 ⟨j, rfl, rfl⟩
                go_wp2
                simp only [jumps]; go_ret2
                exact vp_no HN.out
              | some q =>
              rw [hQ] at HM2
              obtain ⟨z, s, rfl, hzs, hz⟩ := comma_some hQ
              have hs2 := skip_le r2
              rw [hzs] at hs2
              simp only [List.length_cons] at hs2
              replace HM2 := Lib.hid HM2
              have HZ := Lib.hid hzs
              clear hQ hzs
              go_wp2_with fail
              refine HM2.out.mono ?_
              rintro e w5 ⟨k4, hA4, rfl, rfl⟩
              have HA4 := Lib.hid hA4
              have hlt4 := hA4.lt
              have hcell4 := hA4.cell
              have hk4 := hA4.len
              simp only [List.length_cons] at hk4
              clear hA4
              by_cases h125 : z = 125
              · subst h125
                have HN := Lib.hid (show goal = some s by rw [← HE2.out, mems_end F0.out F1.out HP.out (by rw [HZ.out, take_eq])])
                clear hz
                go_wp2
                simp only [jumps]; go_ret2
                exact vp_yes HN.out HA4.out.step (by omega)
              · obtain rfl : z = 44 := hz.resolve_right h125
                obtain ⟨ns', ks', hon⟩ := mems_on (m := m') (ns := ns) (ks := ks) F0.out F1.out HP.out (by rw [HZ.out, take_ne s (by decide)]) (by rw [HZ.out, take_eq])
                have HN := Lib.hid (show (mems all.length (val all.length n) m' (skip s) ns' ks').map (·.2) = goal by rw [← HE2.out, hon])
                clear hz h125 hon
                go_wp2
                go_loop [1] (fun v => Hid (∃ (i9 : Nat) (l9 : L), v = .int .i64 (i9 : Int) ∧ k4 < i9 ∧ At w5 g all i9 l9 ∧ skip l9 = skip s ∧ l9.length ≤ s.length)) (fun v => all.length - (intOf v).toNat)
                case atStart => exact Lib.hid ⟨k4 + 1, s, by go_num, by omega, HA4.out.step, rfl, Nat.le_refl _⟩
                case round =>
                  obtain ⟨i9, l9, rfl, hki, hA9, hs9, hl9⟩ := hrel.out
                  have HA9 := Lib.hid hA9
                  have HS9 := Lib.hid hs9
                  clear hrel hA9 hs9
                  cases l9 with
                  | nil =>
                    obtain rfl := HA9.out.end_
                    have HX := Lib.hid (show goal = none by rw [← HN.out, ← HS9.out, skip, mems_nil]; rfl)
                    go_wp2
                    simp only [jumps]; go_ret2
                    exact vp_no HX.out
                  | cons d r9 =>
                    have hlt9 := HA9.out.lt
                    have hcell9 := HA9.out.cell
                    simp only [List.length_cons] at hl9
                    by_cases hb : blank d = true
                    · have HB9 := Lib.hid hb
                      rcases blank_cases hb with rfl | rfl | rfl | rfl
                      all_goals
                        clear hb
                        go_wp2
                        go_round
                        case rel => exact Lib.hid ⟨i9 + 1, r9, by go_num, by omega, HA9.out.step, by rw [← HS9.out, skip_blank r9 HB9.out], by omega⟩
                        case measure => simp [intOf]; omega
                    · obtain ⟨b1, b2, b3, b4⟩ := blank_not hb
                      have HB9 := Lib.hid (show skip s = d :: r9 from HS9.out.symm.trans (skip_not r9 hb))
                      clear hb
                      by_cases h34 : d = 34
                      · subst h34
                        clear b1 b2 b3 b4
                        go_wp2
                        go_step3
                        refine ⟨rfl, ⟨rfl, _, _, _, _, _, _, _, _, _, _, _, _, _, _, _, _, _, _, _, _, _, _, _, _, _, _, _, _, _, _, _, _, _, _, _, _, _, _, _, _, _, _, _, _, _, _, _, _, _, _, _, _, _, _, _, _, _, _, _, _, _, _, _, _, _, _, _, _, _, _, _, _, _, _, _, _, _, _, _, _, _, _, _, _, _, _, _, _, _, _, _, _, _, rfl, Lib.hid ⟨i9, m', r9, ns', ks', rfl, HA9.out, by omega, by omega, by rw [← HN.out, HB9.out]⟩⟩, ?_⟩
                        simp [ObjM, intOf]; omega
                      · have b5 : (d == 34) = false := beq_eq_false_iff_ne.mpr h34
                        have HX := Lib.hid (show goal = none by rw [← HN.out, HB9.out, mems_ne h34]; rfl)
                        clear h34
                        go_wp2
                        simp only [jumps]; go_ret2
                        exact vp_no HX.out
          · have b6 : (d == 34) = false := beq_eq_false_iff_ne.mpr h34
            have HN := Lib.hid (show goal = none by rw [HE.out, mems_ne h34]; rfl)
            clear h34
            go_wp2
            go_ret2
            exact vp_no HN.out
end Go.Proofs.Ytiehnomfckbnhaa.J
