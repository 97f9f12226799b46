/- Several texts in one. -/
import Derived.Test.YthehnffmbdlopaaDoorZGh
set_option linter.unusedVariables false
set_option linter.unusedSimpArgs false
namespace Go.Proofs.YthehnffmbdlopaaDoor.Jp
open Go.RowKit Go.Proofs.YthehnffmbdlopaaDoorW.PrintWords Go.Proofs.YthehnffmbdlopaaDoorW.PrintLast Go.Proofs.YthehnffmbdlopaaDoorW.PrintMore Go.Proofs.YthehnffmbdlopaaDoor.Aid Go.Proofs.YthehnffmbdlopaaDoor.J

abbrev tCfg : Nat := 84
/-- Where a configuration is kept. -/
def cfgO (m : Int) (sq ue : Bool) : Obj := .cells #[.bool sq, .bool ue, .int .i64 m] tCfg
def bE (op cl : Int) (l : L) : Int := match be op cl 0 l with
  | some r => (l.length : Int) - r.length
  | none => -1
theorem bE_some {op cl : Int} {l r : L} (h : be op cl 0 l = some r) : bE op cl l = (l.length : Int) - r.length := by unfold bE; rw [h]
theorem bE_none {op cl : Int} {l : L} (h : be op cl 0 l = none) : bE op cl l = -1 := by unfold bE; rw [h]
/-- The box of a configuration, in a later world. -/
structure Bx (w W : World) (m : Int) (ue : Bool) : Prop where
  b : Below (w.heap.size + 1) (w.alloc (cfgO m false ue)) W
theorem Bx.cell {w W : World} {m : Int} {ue : Bool} (h : Bx w W m ue) (i : Nat) : W.cell? ⟨w.heap.size, i, none⟩ = (#[Value.bool false, .bool ue, .int .i64 m] : Array Value)[i]? := by
  have := h.b.cell (p := ⟨w.heap.size, i, none⟩) (by show w.heap.size < w.heap.size + 1; omega)
  rw [this]
  exact blk_cell (blk_new w (cfgO m false ue)) i
theorem Bx.below {w W : World} {m : Int} {ue : Bool} (h : Bx w W m ue) : Below w.heap.size w W := by
  have h1 : Below w.heap.size w (w.alloc (cfgO m false ue)) := (Below.refl _ _).alloc (Nat.le_refl _) _
  have e : (w.alloc (cfgO m false ue)).heap.size = w.heap.size + 1 := by simp
  have h2 := h.b
  rw [← e] at h2
  exact below_then h1 h1.size h2
theorem Bx.size {w W : World} {m : Int} {ue : Bool} (h : Bx w W m ue) : w.heap.size + 1 ≤ W.heap.size := by
  have := h.b.size
  simpa using this
theorem Bx.more {w W W' : World} {m : Int} {ue : Bool} (h : Bx w W m ue) (k : Below W.heap.size W W') : Bx w W' m ue := ⟨below_then h.b h.size k⟩
theorem Bx.drew {w W : World} {m : Int} {ue : Bool} (h : Bx w W m ue) : Bx w W.drew m ue := ⟨h.b.drew⟩
theorem rs_drop {l a r : L} (h : Fp.rs false l = some (a, r)) : l.drop (a.length + 1) = r := by
  obtain ⟨h1, _⟩ := rs_loc h
  rw [h1, show a ++ 34 :: r = (a ++ [34]) ++ r by simp, List.drop_left' (by simp)]
theorem se_some {l a r : L} (h : Fp.rs false l = some (a, r)) : se l = ((a.length : Int) + 1, decide (92 ∈ a)) := by unfold se; rw [h]
theorem se_none {l : L} (h : Fp.rs false l = none) : se l = (-1, decide (92 ∈ l)) := by unfold se; rw [h]
def stop (op cl d : Int) : Prop := ¬ d ≤ 32 ∧ ¬ (92 < d ∧ d ≠ op ∧ d ≠ cl)

set_option maxHeartbeats 16000000 in
set_option maxRecDepth 100000 in
theorem blockEnd_any (w : World) (b o c : Nat) (l : L) (m : Int) (ue : Bool) (op cl : Int) (hs : Sq op cl) (hb : ∀ x ∈ l, byt x) (hi : In w b o l) (hl : l.length ≤ 2147483647) (hlc : l.length ≤ c) :
    Calls Tryd.prog 65 #[cfgV m false ue, .slice (some ⟨b, o, none⟩) l.length c, .int .u8 op, .int .u8 cl] w fun e w' => e = .returned (.int .i64 (bE op cl l)) ∧ Below w.heap.size w w' := by
  have HI := Lib.hid hi
  have HBy := Lib.hid hb
  have HSq := Lib.hid hs
  obtain ⟨o34, c34, oc⟩ := hs.ne
  have o39 : op ≠ 39 ∧ cl ≠ 39 ∧ 32 < op ∧ 32 < cl := by rcases hs with ⟨rfl, rfl⟩ | ⟨rfl, rfl⟩ <;> decide
  have HO := Lib.hid (And.intro o34 (And.intro c34 (And.intro oc o39)))
  clear hi hb hs o34 c34 oc o39
  obtain ⟨goal, hgoal⟩ : ∃ g, g = be op cl 0 l := ⟨_, rfl⟩
  have HG := Lib.hid hgoal
  clear hgoal
  unfold cfgV
  go_enter Tryd.func65, Tryd.ntmps65
  go_upto_block 0 with (fail)
  have HB0 : Hid (Bx w (w.alloc (.cells #[.bool false, .bool ue, .int .i64 m] 84)) m ue) := Lib.hid ⟨by exact Below.refl _ _⟩
  obtain ⟨w1, hw1⟩ : ∃ z, z = w.alloc (.cells #[.bool false, .bool ue, .int .i64 m] 84) := ⟨_, rfl⟩
  rw [← hw1] at HB0 ⊢
  clear hw1
  go_wp2_with fail
  go_loopg [9, 10] (l.length + 1) (fun kq v9 v10 W => Hid (∃ (i : Nat) (lv : Int), v9 = .int .i64 lv ∧ v10 = .int .i64 (i : Int) ∧ i + kq = l.length + 1 ∧ i ≤ l.length ∧ -(i : Int) ≤ lv ∧ lv ≤ (i : Int) ∧ be op cl lv (l.drop i) = goal ∧ Bx w W m ue))
  case atStart => exact Lib.hid ⟨0, 0, rfl, rfl, by omega, by omega, by omega, by omega, by rw [HG.out]; rfl, HB0.out⟩
  case round =>
    obtain ⟨i, lv, rfl, rfl, hk, hil, hv1, hv2, hbe, hbx⟩ := hrel.out
    have HBE := Lib.hid hbe
    have HBX := Lib.hid hbx
    have HK := Lib.hid hk
    clear hrel hbe hbx hk HB0
    rcases Nat.lt_or_ge i l.length with hlt | hge
    · have hdd : decide ((i : Int) < (l.length : Int)) = true := decide_eq_true (by omega)
      have HIr : Hid (In wr b o l) := Lib.hid (in_below HI.out HBX.out.below)
      go_upto_block 2 with (fail)
      go_cut [10, 12] from 18 to 97 (fun v10 v12 W => Hid (∃ i' : Nat, v10 = .int .i64 (i' : Int) ∧ i ≤ i' ∧ i' ≤ l.length ∧ be op cl lv (l.drop i') = goal ∧ (i' < l.length → stop op cl (l.getD i' 0)) ∧ W = wr))
      case first =>
        clear hdd
        go_wp2_with fail
        go_loop [10, 12] (fun v10 v12 => Hid (∃ i' : Nat, v10 = .int .i64 (i' : Int) ∧ i ≤ i' ∧ i' ≤ l.length ∧ be op cl lv (l.drop i') = goal)) (fun v10 _ => l.length - (intOf v10).toNat)
        case atStart => exact Lib.hid ⟨i, rfl, Nat.le_refl _, hil, HBE.out⟩
        case round =>
          obtain ⟨i2, rfl, h2a, h2b, h2c⟩ := hrel.out
          have H2 := Lib.hid h2c
          clear hrel h2c hlt
          rcases Nat.lt_or_ge i2 l.length with hlt | hge
          · have hdd : decide ((i2 : Int) < (l.length : Int)) = true := decide_eq_true (by omega)
            have hcell := in_at HIr.out hlt
            have HD := Lib.hid (drop_cons hlt)
            obtain ⟨d, hd⟩ : ∃ d, d = l.getD i2 0 := ⟨_, rfl⟩
            rw [← hd] at hcell HD
            have HDd := Lib.hid hd
            clear hd
            have hwi : IntKind.i64.wrap ((i2 : Int) + 1) = (i2 : Int) + 1 := IntWalk.i64_in _ (by omega)
            obtain ⟨o34, c34, oc, o39, c39, o32, c32⟩ := HO.out
            by_cases h32 : d ≤ 32
            · have g1 : decide (d ≤ 32) = true := decide_eq_true h32
              by_cases h34 : d = 34
              · omega
              have HN : Hid (be op cl lv (l.drop (i2 + 1)) = goal) := Lib.hid (by rw [← H2.out, HD.out, be_other _ h34 (by omega) (by omega)])
              clear h32 h34 o34 c34 oc o39 c39 o32 c32
              go_wp2
              go_round
              case rel => exact Lib.hid ⟨i2 + 1, by go_num, by omega, by omega, HN.out⟩
              case measure => simp [intOf]; omega
            · have g1 : decide (d ≤ 32) = false := decide_eq_false h32
              by_cases h92 : 92 < d ∧ d ≠ op ∧ d ≠ cl
              · obtain ⟨h92, hop, hcl⟩ := h92
                have g2 : decide (92 < d) = true := decide_eq_true h92
                have g3 : (d == op) = false := beq_eq_false_iff_ne.mpr hop
                have g4 : (d == cl) = false := beq_eq_false_iff_ne.mpr hcl
                have g5 := ne_of g3
                have g6 := ne_of g4
                have HN : Hid (be op cl lv (l.drop (i2 + 1)) = goal) := Lib.hid (by rw [← H2.out, HD.out, be_other _ (by omega) hop hcl])
                clear h32 h92 hop hcl o34 c34 oc o39 c39 o32 c32
                go_wp2
                go_round
                case rel => exact Lib.hid ⟨i2 + 1, by go_num, by omega, by omega, HN.out⟩
                case measure => simp [intOf]; omega
              · have HST : Hid (stop op cl (l.getD i2 0)) := Lib.hid (by rw [← HDd.out]; exact ⟨h32, h92⟩)
                by_cases a1 : 92 < d
                · have g2 : decide (92 < d) = true := decide_eq_true a1
                  by_cases a2 : d = op
                  · have g3 : (d == op) = true := beq_iff_eq.mpr a2
                    have g5 : (d != op) = false := by rw [bne, g3]; rfl
                    clear h32 h92 a1 a2 o34 c34 oc o39 c39 o32 c32
                    go_wp2
                    go_meet
                    case rel => exact Lib.hid ⟨i2, rfl, h2a, h2b, H2.out, fun _ => HST.out, rfl⟩
                  · have a3 : d = cl := by omega
                    have g3 : (d == op) = false := beq_eq_false_iff_ne.mpr a2
                    have g5 := ne_of g3
                    have g4 : (d == cl) = true := beq_iff_eq.mpr a3
                    have g6 : (d != cl) = false := by rw [bne, g4]; rfl
                    clear h32 h92 a1 a2 a3 o34 c34 oc o39 c39 o32 c32
                    go_wp2
                    go_meet
                    case rel => exact Lib.hid ⟨i2, rfl, h2a, h2b, H2.out, fun _ => HST.out, rfl⟩
                · have g2 : decide (92 < d) = false := decide_eq_false a1
                  clear h32 h92 a1 o34 c34 oc o39 c39 o32 c32
                  go_wp2
                  go_meet
                  case rel => exact Lib.hid ⟨i2, rfl, h2a, h2b, H2.out, fun _ => HST.out, rfl⟩
          · have hdd : decide ((i2 : Int) < (l.length : Int)) = false := decide_eq_false (by omega)
            have hd2 : decide (i2 < l.length) = false := decide_eq_false (by omega)
            go_wp2
            go_meet
            case rel => exact Lib.hid ⟨i2, rfl, h2a, h2b, H2.out, fun h => absurd h (by omega), rfl⟩
      case rest =>
        obtain ⟨j, rfl, h2a, h2b, h2c, h2d, hwc⟩ := hcut.out
        have H2 := Lib.hid h2c
        have HST := Lib.hid h2d
        subst hwc
        clear hcut h2c h2d hlt hdd
        rcases Nat.lt_or_ge j l.length with hlt | hge
        · have hdd : decide ((l.length : Int) ≤ (j : Int)) = false := decide_eq_false (by omega)
          have hd2 : decide (l.length ≤ j) = false := decide_eq_false (by omega)
          have hcell := in_at HIr.out hlt
          have HD := Lib.hid (drop_cons hlt)
          have HS2 := Lib.hid (HST.out hlt)
          obtain ⟨d, hd⟩ : ∃ d, d = l.getD j 0 := ⟨_, rfl⟩
          rw [← hd] at hcell HD HS2
          have hwi : IntKind.i64.wrap ((j : Int) + 1) = (j : Int) + 1 := IntWalk.i64_in _ (by omega)
          obtain ⟨o34, c34, oc, o39, c39, o32, c32⟩ := HO.out
          clear hd
          by_cases h34 : d = 34
          · subst h34
            obtain ⟨o', r, c', hr, hrl, hrc, ksl, hIr⟩ := cut_in b o c l (j + 1) (by omega) hlc
            have ksl' : ∀ W : World, (Instr.slice tBs (.slice (some ⟨b, o, none⟩) l.length c) (some (.int .i64 ((j : Int) + 1))) none none).run Tryd.prog W = .ok (.slice (some ⟨b, o', none⟩) r.length c') W := by
              intro W; have := ksl W; rwa [show (((j + 1 : Nat)) : Int) = (j : Int) + 1 by omega] at this
            clear ksl
            have hrb : ∀ x ∈ r, byt x := fun x hx => HBy.out x (by rw [hr] at hx; exact List.mem_of_mem_drop hx)
            have HSE := Lib.hid (strEnd_any wc.drew b o' c' r m false ue hrb (hIr _ (in_below HI.out HBX.out.drew.below)) (by omega) hrc)
            have HBE2 : Hid ((Fp.rs false r).bind (fun x => be op cl lv x.2) = goal) := Lib.hid (by rw [← H2.out, HD.out, be_str, ← hr])
            have HR := Lib.hid hr
            obtain ⟨q1, q2, hq⟩ : ∃ q1 q2, se r = (q1, q2) := ⟨_, _, rfl⟩
            rw [hq] at HSE
            have HQ := Lib.hid hq
            have HBXd := Lib.hid HBX.out.drew
            have kb0 : wc.cell? ⟨w.heap.size, 0, none⟩ = some (.bool false) := HBX.out.cell 0
            have kb1 : wc.cell? ⟨w.heap.size, 1, none⟩ = some (.bool ue) := HBX.out.cell 1
            have kb2 : wc.cell? ⟨w.heap.size, 2, none⟩ = some (.int .i64 m) := HBX.out.cell 2
            have x39 : ((34 : Int) == 39) = false := by decide
            unfold cfgV at HSE
            clear hr hrb hq o34 c34 oc o39 c39 o32 c32
            go_upto_region 17 with (fail)
            go_cut [14, 15] from 18 to 97 (fun v14 v15 W => Hid (v14 = .int .i64 q1 ∧ v15 = .bool q2 ∧ Bx w W m ue))
            case first =>
              go_region_with ((go_at_call 61; refine HSE.out.mono ?_; rintro e w2 ⟨rfl, hb2⟩; replace hb2 := Lib.hid hb2))
              all_goals
                go_wp2_with fail
                go_meet
                case rel => exact Lib.hid ⟨rfl, rfl, HBXd.out.more hb2.out⟩
            case rest =>
              obtain ⟨rfl, rfl, hB3⟩ := hcut.out
              have HB3 := Lib.hid hB3
              clear hcut hB3 HSE kb0 kb1 kb2
              cases hrs : Fp.rs false r with
              | none =>
                have e1 : q1 = -1 := by have := HQ.out; rw [se_none hrs] at this; injection this with h1 _; exact h1.symm
                have HG2 : Hid (be op cl 0 l = none) := Lib.hid (by rw [← HG.out, ← HBE2.out, hrs]; rfl)
                subst e1
                clear hrs
                go_wp2
                go_ret
                exact ⟨by rw [bE_none HG2.out]; rfl, HB3.out.below⟩
              | some x =>
                obtain ⟨a, r2⟩ := x
                have e1 : q1 = (a.length : Int) + 1 := by have := HQ.out; rw [se_some hrs] at this; injection this with h1 _; exact h1.symm
                have hla := Fp.rs_len r false a r2 hrs
                have HN : Hid (be op cl lv (l.drop (j + 1 + (a.length + 1))) = goal) := Lib.hid (by
                  rw [← HBE2.out, hrs, ← List.drop_drop, ← HR.out, rs_drop hrs]; rfl)
                have x1 : (q1 == -1) = false := beq_eq_false_iff_ne.mpr (by omega)
                have hw1 : IntKind.i64.wrap ((j : Int) + q1) = (j : Int) + q1 := IntWalk.i64_in _ (by omega)
                have hw2 : IntKind.i64.wrap ((j : Int) + q1 + 1) = (j : Int) + q1 + 1 := IntWalk.i64_in _ (by omega)
                have HE := Lib.hid e1
                clear hrs e1 hwi
                go_wp2
                go_roundg (l.length + 1 - (j + 1 + (a.length + 1)))
                case rel => exact Lib.hid ⟨j + 1 + (a.length + 1), lv, rfl, by congr 1; have := HE.out; omega, by omega, by omega, by omega, by omega, HN.out, HB3.out⟩
                case measure => have := HK.out; omega
          · have x34 : (d == 34) = false := beq_eq_false_iff_ne.mpr h34
            have HMe : ∀ lv', -((j : Int) + 1) ≤ lv' → lv' ≤ (j : Int) + 1 → be op cl lv' (l.drop (j + 1)) = goal → Hid (∃ (i : Nat) (lv : Int), Value.int .i64 lv' = .int .i64 lv ∧ Value.int .i64 ((j : Int) + 1) = .int .i64 (i : Int) ∧ i + (l.length + 1 - (j + 1)) = l.length + 1 ∧ i ≤ l.length ∧ -(i : Int) ≤ lv ∧ lv ≤ (i : Int) ∧ be op cl lv (l.drop i) = goal ∧ Bx w wc m ue) :=
              fun lv' z1 z2 z3 => Lib.hid ⟨j + 1, lv', rfl, by go_num, by omega, by omega, by omega, by omega, z3, HBX.out⟩
            replace HMe := Lib.hid HMe
            by_cases h39 : d = 39
            · subst h39
              have kb0 : wc.cell? ⟨w.heap.size, 0, none⟩ = some (.bool false) := HBX.out.cell 0
              have HN : Hid (be op cl lv (l.drop (j + 1)) = goal) := Lib.hid (by rw [← H2.out, HD.out, be_other _ h34 (by omega) (by omega)])
              clear o34 c34 oc o39 c39 o32 c32 h34
              go_wp2
              go_roundg (l.length + 1 - (j + 1))
              case rel => exact HMe.out lv (by omega) (by omega) HN.out
              case measure => have := HK.out; omega
            · have x39 : (d == 39) = false := beq_eq_false_iff_ne.mpr h39
              by_cases hop : d = op
              · have g3 : (d == op) = true := beq_iff_eq.mpr hop
                have HN : Hid (be op cl (lv + 1) (l.drop (j + 1)) = goal) := Lib.hid (by rw [← H2.out, HD.out, hop, be_open _ HSq.out])
                have hwl : IntKind.i64.wrap (lv + 1) = lv + 1 := IntWalk.i64_in _ (by omega)
                clear o34 c34 oc o39 c39 o32 c32 h34 h39 hop
                go_wp2
                go_roundg (l.length + 1 - (j + 1))
                case rel => exact HMe.out (lv + 1) (by omega) (by omega) HN.out
                case measure => have := HK.out; omega
              · have g3 : (d == op) = false := beq_eq_false_iff_ne.mpr hop
                by_cases hcl : d = cl
                · have g4 : (d == cl) = true := beq_iff_eq.mpr hcl
                  have hwl : IntKind.i64.wrap (lv - 1) = lv - 1 := IntWalk.i64_in _ (by omega)
                  have HC : Hid ((if lv = 1 then some (l.drop (j + 1)) else be op cl (lv - 1) (l.drop (j + 1))) = goal) := Lib.hid (by rw [← H2.out, HD.out, hcl, be_close _ HSq.out])
                  by_cases hl1 : lv = 1
                  · have HG2 : Hid (be op cl 0 l = some (l.drop (j + 1))) := Lib.hid (by rw [← HG.out, ← HC.out, if_pos hl1])
                    have x1 : (lv - 1 == 0) = true := beq_iff_eq.mpr (by omega)
                    clear o34 c34 oc o39 c39 o32 c32 h34 h39 hop hcl hl1
                    go_wp2
                    go_ret
                    exact ⟨by rw [bE_some HG2.out, List.length_drop]; show Ending.returned (.int .i64 ((j : Int) + 1)) = _; congr 2; omega, HBX.out.below⟩
                  · have HN : Hid (be op cl (lv - 1) (l.drop (j + 1)) = goal) := Lib.hid (by rw [← HC.out, if_neg hl1])
                    have x1 : (lv - 1 == 0) = false := beq_eq_false_iff_ne.mpr (by omega)
                    clear o34 c34 oc o39 c39 o32 c32 h34 h39 hop hcl hl1
                    go_wp2
                    go_roundg (l.length + 1 - (j + 1))
                    case rel => exact HMe.out (lv - 1) (by omega) (by omega) HN.out
                    case measure => have := HK.out; omega
                · have g4 : (d == cl) = false := beq_eq_false_iff_ne.mpr hcl
                  have HN : Hid (be op cl lv (l.drop (j + 1)) = goal) := Lib.hid (by rw [← H2.out, HD.out, be_other _ h34 hop hcl])
                  clear o34 c34 oc o39 c39 o32 c32 h34 h39 hop hcl
                  go_wp2
                  go_roundg (l.length + 1 - (j + 1))
                  case rel => exact HMe.out lv (by omega) (by omega) HN.out
                  case measure => have := HK.out; omega
        · have hdd : decide ((l.length : Int) ≤ (j : Int)) = true := decide_eq_true (by omega)
          have hd2 : decide (l.length ≤ j) = true := decide_eq_true (by omega)
          have HG2 : Hid (be op cl 0 l = none) := Lib.hid (by rw [← HG.out, ← H2.out, List.drop_eq_nil_of_le hge, be_nil])
          clear hge
          go_wp2
          go_ret
          exact ⟨by rw [bE_none HG2.out]; rfl, HBX.out.below⟩
    · have hdd : decide ((i : Int) < (l.length : Int)) = false := decide_eq_false (by omega)
      have hd2 : decide (i < l.length) = false := decide_eq_false (by omega)
      have HG2 : Hid (be op cl 0 l = none) := Lib.hid (by rw [← HG.out, ← HBE.out, List.drop_eq_nil_of_le hge, be_nil])
      clear hge
      go_wp2
      go_ret
      exact ⟨by rw [bE_none HG2.out]; rfl, HBX.out.below⟩
end Go.Proofs.YthehnffmbdlopaaDoor.Jp

set_option linter.unusedVariables false
set_option linter.unusedSimpArgs false
namespace Go.Proofs.YthehnffmbdlopaaDoor.Jp
open Go.RowKit Go.Proofs.YthehnffmbdlopaaDoorW.PrintWords Go.Proofs.YthehnffmbdlopaaDoorW.PrintLast Go.Proofs.YthehnffmbdlopaaDoorW.PrintMore Go.Proofs.YthehnffmbdlopaaDoor.Aid Go.Proofs.YthehnffmbdlopaaDoor.J

/-- A slice of bytes cut at both ends. -/
theorem cut_mid (b o c : Nat) (l : L) (k j : Nat) (hk : k ≤ j) (hj : j ≤ l.length) (hc : l.length ≤ c) : ∃ o' r c', r = (l.drop k).take (j - k) ∧ r.length = j - k ∧ r.length ≤ c' ∧
    (∀ W : World, (Instr.slice tBs (.slice (some ⟨b, o, none⟩) l.length c) (some (.int .i64 (k : Int))) (some (.int .i64 (j : Int))) none).run Tryd.prog W = .ok (.slice (some ⟨b, o', none⟩) r.length c') W) ∧ (∀ w, In w b o l → In w b o' r) := by
  have hlen : ((l.drop k).take (j - k)).length = j - k := by rw [List.length_take, List.length_drop]; omega
  refine ⟨if c = k then o else o + k, (l.drop k).take (j - k), c - k, rfl, hlen, by omega, fun W => ?_, fun w hi => ?_⟩
  · obtain ⟨i, hi, _, hsz, _⟩ := info_parts infoB
    have hel : Tryd.prog.elem tBs = tB := by simp [Program.elem, Tryd.underlying57]
    have hu : Tryd.prog.underlying tBs = some (.slice (Tryd.prog.elem tBs)) := by rw [hel]; exact Tryd.underlying57
    rw [run_slice_lh W tBs _ l.length c hu .i64 .i64 (k : Int) (j : Int) (by omega) (by omega) (by omega), hel, hlen]
    by_cases e : c = k
    · simp [sizeOf, typeInfo, hi, hsz, sliced, Result.andThen, e]
    · simp [sizeOf, typeInfo, hi, hsz, sliced, Result.andThen, e]
      unfold Addr.add
      split <;> simp_all
  · by_cases e : c = k
    · rw [if_pos e]
      intro x hx
      rw [hlen] at hx; omega
    · rw [if_neg e]
      intro x hx
      rw [hlen] at hx
      have := hi.drop k x (by rw [List.length_drop]; omega)
      rw [this]
      congr 2
      rw [List.getD_eq_getElem?_getD, List.getD_eq_getElem?_getD, List.getElem?_take_of_lt hx]

theorem str_eq (x : ByteArray) (w : List UInt8) : (x.toList == w) = decide (bytesOf x = w.map fun b => (b.toNat : Int)) := by
  rw [ByteArray.toList_eq, Bool.eq_iff_iff, beq_iff_eq, decide_eq_true_eq]
  constructor
  · intro h; unfold bytesOf; rw [h]
  · intro h
    unfold bytesOf at h
    exact (List.map_inj_right (fun x y hxy => by
      have : x.toNat = y.toNat := by omega
      exact UInt8.toNat_inj.1 this)).1 h
theorem in_str {w : World} {b o c : Nat} {q : L} (h : In w b o q) : (convert 57 9 (.slice (some ⟨b, o, none⟩) q.length c)).run Tryd.prog w = .ok (.string (strOfNums q)) w :=
  run_convert_bytes_arg (P := Tryd.prog) w 57 5 Tryd.underlying57 Tryd.underlying5 b o q.length c q rfl (fun i hi => by
    rw [h i hi]) 9 Tryd.underlying9
theorem bytes_at (W : World) (s : ByteArray) : In (Lib.bytesWorld W 5 s) W.heap.size 0 (bytesOf s) := by
  intro j hj
  rw [bytesOf_length] at hj
  rw [Nat.zero_add]
  exact bytes_cells W 5 s j hj
abbrev gUnk : Nat := 1
abbrev gStr : Nat := 3
abbrev gArr : Nat := 4
abbrev gObj : Nat := 5
abbrev gKey : Nat := 0
abbrev gJso : Nat := 2
/-- The package's errors: 1 a string's, 2 an array's, 3 an object's, 4 another value's, 5 no such key, 6 no value. -/
structure Er (w : World) (T : Int → TypeId) (E : Int → Value) : Prop where
  s : w.cell? ⟨gStr, 0, none⟩ = some (.iface (T 1) (E 1))
  a : w.cell? ⟨gArr, 0, none⟩ = some (.iface (T 2) (E 2))
  o : w.cell? ⟨gObj, 0, none⟩ = some (.iface (T 3) (E 3))
  u : w.cell? ⟨gUnk, 0, none⟩ = some (.iface (T 4) (E 4))
  k : w.cell? ⟨gKey, 0, none⟩ = some (.iface (T 5) (E 5))
  j : w.cell? ⟨gJso, 0, none⟩ = some (.iface (T 6) (E 6))
theorem Er.below {w w' : World} {T : Int → TypeId} {E : Int → Value} (h : Er w T E) (b : Below w.heap.size w w') : Er w' T E :=
  ⟨(b.cell (p := ⟨gStr, 0, none⟩) (block_lt_of_cell h.s)).trans h.s, (b.cell (p := ⟨gArr, 0, none⟩) (block_lt_of_cell h.a)).trans h.a, (b.cell (p := ⟨gObj, 0, none⟩) (block_lt_of_cell h.o)).trans h.o,
   (b.cell (p := ⟨gUnk, 0, none⟩) (block_lt_of_cell h.u)).trans h.u, (b.cell (p := ⟨gKey, 0, none⟩) (block_lt_of_cell h.k)).trans h.k, (b.cell (p := ⟨gJso, 0, none⟩) (block_lt_of_cell h.j)).trans h.j⟩

/-- What getType hands back: the value's text lies in the data's block. -/
def GP (w0 : World) (b : Nat) (l : L) (k : Nat) (T : Int → TypeId) (E : Int → Value) : GT → Ending → World → Prop
  | .good ty r, e, w' => Below w0.heap.size w0 w' ∧ ∃ o c, e = .returned (.tuple #[.slice (some ⟨b, o, none⟩) ((l.drop k).length - r.length) c, .int .i64 ty, .int .i64 ((l.length : Int) - r.length), .nilIface]) ∧
      (l.drop k).length - r.length ≤ c ∧ r.length ≤ (l.drop k).length ∧ In w' b o ((l.drop k).take ((l.drop k).length - r.length))
  | .bad ty ek, e, w' => Below w0.heap.size w0 w' ∧ e = .returned (.tuple #[.slice none 0 0, .int .i64 ty, .int .i64 (k : Int), .iface (T ek) (E ek)])

theorem Bx.drewN {w W : World} {m : Int} {ue : Bool} (h : Bx w W m ue) (n : Nat) : Bx w (W.drewN n) m ue := ⟨⟨h.b.os, h.b.tape, h.b.output, h.b.size, h.b.block⟩⟩
theorem results_tmp4 {fn : Func} {t u v x : Tmp} (h : fn.results = #[.tmp t, .tmp u, .tmp v, .tmp x]) (tmps : Array Value) (P : Program) (w : World) :
    (results fn tmps).run P w = .ok (.tuple #[tmps.getD t undef, tmps.getD u undef, tmps.getD v undef, tmps.getD x undef]) w := by
  simp [results, h]
theorem results_tmp5 {fn : Func} {t u v x y : Tmp} (h : fn.results = #[.tmp t, .tmp u, .tmp v, .tmp x, .tmp y]) (tmps : Array Value) (P : Program) (w : World) :
    (results fn tmps).run P w = .ok (.tuple #[tmps.getD t undef, tmps.getD u undef, tmps.getD v undef, tmps.getD x undef, tmps.getD y undef]) w := by
  simp [results, h]
theorem GP_good {w W : World} {b : Nat} {l : L} {k : Nat} {T : Int → TypeId} {E : Int → Value} {goal : GT} {ty : Int} {rr r2 : L} {j o2 c2 : Nat} (h : goal = .good ty rr) (hB : Below w.heap.size w W) (hkj : k ≤ j) (hj : j + rr.length = l.length)
    (hr2 : r2 = (l.drop k).take (j - k)) (hlen : r2.length = j - k) (hc : r2.length ≤ c2) (hI : In W b o2 r2) : GP w b l k T E goal (.returned (.tuple #[.slice (some ⟨b, o2, none⟩) r2.length c2, .int .i64 ty, .int .i64 (j : Int), .nilIface])) W := by
  subst h
  have e1 : (l.drop k).length - rr.length = j - k := by rw [List.length_drop]; omega
  refine ⟨hB, o2, c2, ?_, by rw [e1, ← hlen]; exact hc, by rw [List.length_drop]; omega, by rw [e1, ← hr2]; exact hI⟩
  have e3 : ((l.length : Int) - rr.length) = (j : Int) := by omega
  rw [e1, hlen, e3]
theorem GP_bad {w W : World} {b : Nat} {l : L} {k : Nat} {T : Int → TypeId} {E : Int → Value} {goal : GT} {ty ek : Int} (h : goal = .bad ty ek) (hB : Below w.heap.size w W) : GP w b l k T E goal (.returned (.tuple #[.slice none 0 0, .int .i64 ty, .int .i64 (k : Int), .iface (T ek) (E ek)])) W := by
  subst h
  exact ⟨hB, rfl⟩
set_option maxHeartbeats 16000000 in
set_option maxRecDepth 100000 in
theorem getType_any (w : World) (b o c : Nat) (l : L) (k : Nat) (m : Int) (ue : Bool) (T : Int → TypeId) (E : Int → Value) (hE : Er w T E) (hb : ∀ x ∈ l, byt x) (hi : In w b o l) (hl : l.length ≤ 2147483647) (hlc : l.length ≤ c) (hk : k < l.length) :
    Calls Tryd.prog 68 #[cfgV m false ue, .slice (some ⟨b, o, none⟩) l.length c, .int .i64 (k : Int)] w (GP w b l k T E (gt (l.drop k))) := by
  have HI := Lib.hid hi
  have HBy := Lib.hid hb
  have HE := Lib.hid hE
  have HD := Lib.hid (drop_cons hk)
  have hcell := in_at hi hk
  obtain ⟨d, hd⟩ : ∃ d, d = l.getD k 0 := ⟨_, rfl⟩
  rw [← hd] at hcell HD
  clear hi hb hE hd
  obtain ⟨goal, hgoal⟩ : ∃ g, g = gt (l.drop k) := ⟨_, rfl⟩
  rw [← hgoal]
  have HG := Lib.hid (hgoal.trans (by rw [HD.out]))
  clear hgoal
  have hwk : IntKind.i64.wrap ((k : Int) + 1) = (k : Int) + 1 := IntWalk.i64_in _ (by omega)
  unfold cfgV
  go_enter Tryd.func68, Tryd.ntmps68
  go_upto_region 3 with (fail)
  have HBX : Hid (Bx w (w.alloc (.cells #[.bool false, .bool ue, .int .i64 m] 84)) m ue) := Lib.hid ⟨by exact Below.refl _ _⟩
  have hcell1 : (w.alloc (.cells #[.bool false, .bool ue, .int .i64 m] 84)).cell? ⟨b, o + k, none⟩ = some (.int .u8 d) := cell?_alloc_old _ hcell
  obtain ⟨w1, hw1⟩ : ∃ z, z = w.alloc (.cells #[.bool false, .bool ue, .int .i64 m] 84) := ⟨_, rfl⟩
  rw [← hw1] at HBX hcell1 ⊢
  clear hw1 hcell
  have kb0 : w1.cell? ⟨w.heap.size, 0, none⟩ = some (.bool false) := HBX.out.cell 0
  have kb1 : w1.cell? ⟨w.heap.size, 1, none⟩ = some (.bool ue) := HBX.out.cell 1
  have kb2 : w1.cell? ⟨w.heap.size, 2, none⟩ = some (.int .i64 m) := HBX.out.cell 2
  have HBXd := Lib.hid HBX.out.drew
  have HId : Hid (In w1.drew b o l) := Lib.hid (in_below HI.out HBXd.out.below)
  by_cases h34 : d = 34
  · subst h34
    obtain ⟨o', r, c', hr, hrl, hrc, ksl, hIr⟩ := cut_in b o c l (k + 1) (by omega) hlc
    have ksl' : ∀ W : World, (Instr.slice tBs (.slice (some ⟨b, o, none⟩) l.length c) (some (.int .i64 ((k : Int) + 1))) none none).run Tryd.prog W = .ok (.slice (some ⟨b, o', none⟩) r.length c') W := by
      intro W; have := ksl W; rwa [show (((k + 1 : Nat)) : Int) = (k : Int) + 1 by omega] at this
    clear ksl
    have hrb : ∀ x ∈ r, byt x := fun x hx => HBy.out x (by rw [hr] at hx; exact List.mem_of_mem_drop hx)
    have HSE := Lib.hid (strEnd_any w1.drew b o' c' r m false ue hrb (hIr _ HId.out) (by omega) hrc)
    obtain ⟨q1, q2, hq⟩ : ∃ q1 q2, se r = (q1, q2) := ⟨_, _, rfl⟩
    rw [hq] at HSE
    have HQ := Lib.hid hq
    have HR := Lib.hid hr
    unfold cfgV at HSE
    clear hr hrb hq
    go_upto_region 5 with (fail)
    go_cut [12, 13] (fun v12 v13 W => Hid (v12 = .int .i64 q1 ∧ v13 = .bool q2 ∧ Bx w W m ue))
    case first =>
      go_region_with ((go_at_call 61; refine HSE.out.mono ?_; rintro e w2 ⟨rfl, hb2⟩; replace hb2 := Lib.hid hb2))
      all_goals
        go_wp2_with fail
        go_meet
        case rel => exact Lib.hid ⟨rfl, rfl, HBXd.out.more hb2.out⟩
    case rest =>
      obtain ⟨rfl, rfl, hB3⟩ := hcut.out
      have HB3 := Lib.hid hB3
      clear hcut hB3 HSE kb0 kb1 kb2 hcell1
      cases hrs : Fp.rs false r with
      | none =>
        have e1 : q1 = -1 := by have := HQ.out; rw [se_none hrs] at this; injection this with h1 _; exact h1.symm
        have HG2 : Hid (goal = .bad 1 1) := Lib.hid (by rw [HG.out, gt, if_pos rfl, ← HR.out, hrs])
        have ec : wc.cell? ⟨gStr, 0, none⟩ = some (.iface (T 1) (E 1)) := (HE.out.below HB3.out.below).s
        subst e1
        clear hrs
        go_wp2
        go_quiet (fail)
        go_wp2
        (try simp only [Exit.inBlock, Exit.then]); refine bodyPost_ret (results_tmp4 rfl _ _ _) rfl ?_
        exact GP_bad HG2.out (HB3.out.drewN _).below
      | some x =>
        obtain ⟨a, r2⟩ := x
        have e1 : q1 = (a.length : Int) + 1 := by have := HQ.out; rw [se_some hrs] at this; injection this with h1 _; exact h1.symm
        have hla := Fp.rs_len r false a r2 hrs
        have HG2 : Hid (goal = .good 1 r2) := Lib.hid (by rw [HG.out, gt, if_pos rfl, ← HR.out, hrs])
        obtain ⟨j, hj⟩ : ∃ j : Nat, j = k + (a.length + 2) := ⟨_, rfl⟩
        obtain ⟨o2, v, c2, hv, hvl, hvc, ksl2, hIv⟩ := cut_mid b o c l k j (by omega) (by omega) hlc
        have hw1 : IntKind.i64.wrap (q1 + 1) = q1 + 1 := IntWalk.i64_in _ (by omega)
        have hw2 : IntKind.i64.wrap ((k : Int) + (q1 + 1)) = (j : Int) := by rw [IntWalk.i64_in _ (by omega)]; omega
        have x1 : (q1 == -1) = false := beq_eq_false_iff_ne.mpr (by omega)
        have x2 := ne_of x1
        have HV := Lib.hid hv
        have HVl := Lib.hid hvl
        have HJ : Hid (k ≤ j ∧ j + r2.length = l.length) := Lib.hid ⟨by omega, by omega⟩
        clear hrs e1 hj hv hvl
        go_wp2
        (try simp only [Exit.inBlock, Exit.then]); refine bodyPost_ret (results_tmp4 rfl _ _ _) rfl ?_
        exact GP_good HG2.out HB3.out.below HJ.out.1 HJ.out.2 HV.out HVl.out hvc (hIv _ (in_below HI.out HB3.out.below))
  · have x34 : (d == 34) = false := beq_eq_false_iff_ne.mpr h34
    by_cases h91 : d = 91
    · subst h91
      obtain ⟨o', r, c', hr, hrl, hrc, ksl, hIr⟩ := cut_in b o c l k (by omega) hlc
      have hrb : ∀ x ∈ r, byt x := fun x hx => HBy.out x (by rw [hr] at hx; exact List.mem_of_mem_drop hx)
      have HSE := Lib.hid (blockEnd_any w1.drew b o' c' r m ue 91 93 (.inr ⟨rfl, rfl⟩) hrb (hIr _ HId.out) (by omega) hrc)
      have HR : Hid (r = 91 :: l.drop (k + 1)) := Lib.hid (hr.trans HD.out)
      obtain ⟨q, hq⟩ : ∃ q, bE 91 93 r = q := ⟨_, rfl⟩
      rw [hq] at HSE
      have HQ := Lib.hid hq
      unfold cfgV at HSE
      clear hr hrb hq
      go_upto_region 11 with (fail)
      go_cut [11] (fun v11 W => Hid (v11 = .int .i64 q ∧ Bx w W m ue))
      case first =>
        go_region_with ((go_at_call 65; refine HSE.out.mono ?_; rintro e w2 ⟨rfl, hb2⟩; replace hb2 := Lib.hid hb2))
        all_goals
          go_wp2_with fail
          go_meet
          case rel => exact Lib.hid ⟨rfl, HBXd.out.more hb2.out⟩
      case rest =>
        obtain ⟨rfl, hB3⟩ := hcut.out
        have HB3 := Lib.hid hB3
        clear hcut hB3 HSE kb0 kb1 kb2 hcell1
        cases hrs : be 91 93 0 r with
        | none =>
          have e1 : q = -1 := by rw [← HQ.out, bE_none hrs]
          have HG2 : Hid (goal = .bad 4 2) := Lib.hid (by rw [HG.out, gt, if_neg (by decide), if_pos rfl, ← HR.out, hrs])
          have ec : wc.cell? ⟨gArr, 0, none⟩ = some (.iface (T 2) (E 2)) := (HE.out.below HB3.out.below).a
          subst e1
          clear hrs
          go_wp2
          go_quiet (fail)
          go_wp2
          (try simp only [Exit.inBlock, Exit.then]); refine bodyPost_ret (results_tmp4 rfl _ _ _) rfl ?_
          exact GP_bad HG2.out (HB3.out.drewN _).below
        | some r2 =>
          have e1 : q = (r.length : Int) - r2.length := by rw [← HQ.out, bE_some hrs]
          have hla := be_lt' hrs
          have HG2 : Hid (goal = .good 4 r2) := Lib.hid (by rw [HG.out, gt, if_neg (by decide), if_pos rfl, ← HR.out, hrs])
          obtain ⟨j, hj⟩ : ∃ j : Nat, j = l.length - r2.length := ⟨_, rfl⟩
          obtain ⟨o2, v, c2, hv, hvl, hvc, ksl2, hIv⟩ := cut_mid b o c l k j (by omega) (by omega) hlc
          have hw2 : IntKind.i64.wrap (q + (k : Int)) = (j : Int) := by rw [IntWalk.i64_in _ (by omega)]; omega
          have x1 : (q == -1) = false := beq_eq_false_iff_ne.mpr (by omega)
          have HV := Lib.hid hv
          have HVl := Lib.hid hvl
          have HJ : Hid (k ≤ j ∧ j + r2.length = l.length) := Lib.hid ⟨by omega, by omega⟩
          clear hrs e1 hj hv hvl
          go_wp2
          (try simp only [Exit.inBlock, Exit.then]); refine bodyPost_ret (results_tmp4 rfl _ _ _) rfl ?_
          exact GP_good HG2.out HB3.out.below HJ.out.1 HJ.out.2 HV.out HVl.out hvc (hIv _ (in_below HI.out HB3.out.below))
    · have x91 : (d == 91) = false := beq_eq_false_iff_ne.mpr h91
      by_cases h123 : d = 123
      · subst h123
        obtain ⟨o', r, c', hr, hrl, hrc, ksl, hIr⟩ := cut_in b o c l k (by omega) hlc
        have hrb : ∀ x ∈ r, byt x := fun x hx => HBy.out x (by rw [hr] at hx; exact List.mem_of_mem_drop hx)
        have HSE := Lib.hid (blockEnd_any w1.drew b o' c' r m ue 123 125 (.inl ⟨rfl, rfl⟩) hrb (hIr _ HId.out) (by omega) hrc)
        have HR : Hid (r = 123 :: l.drop (k + 1)) := Lib.hid (hr.trans HD.out)
        obtain ⟨q, hq⟩ : ∃ q, bE 123 125 r = q := ⟨_, rfl⟩
        rw [hq] at HSE
        have HQ := Lib.hid hq
        unfold cfgV at HSE
        clear hr hrb hq
        go_upto_region 17 with (fail)
        go_cut [11] (fun v11 W => Hid (v11 = .int .i64 q ∧ Bx w W m ue))
        case first =>
          go_region_with ((go_at_call 65; refine HSE.out.mono ?_; rintro e w2 ⟨rfl, hb2⟩; replace hb2 := Lib.hid hb2))
          all_goals
            go_wp2_with fail
            go_meet
            case rel => exact Lib.hid ⟨rfl, HBXd.out.more hb2.out⟩
        case rest =>
          obtain ⟨rfl, hB3⟩ := hcut.out
          have HB3 := Lib.hid hB3
          clear hcut hB3 HSE kb0 kb1 kb2 hcell1
          cases hrs : be 123 125 0 r with
          | none =>
            have e1 : q = -1 := by rw [← HQ.out, bE_none hrs]
            have HG2 : Hid (goal = .bad 3 3) := Lib.hid (by rw [HG.out, gt, if_neg (by decide), if_neg (by decide), if_pos rfl, ← HR.out, hrs])
            have ec : wc.cell? ⟨gObj, 0, none⟩ = some (.iface (T 3) (E 3)) := (HE.out.below HB3.out.below).o
            subst e1
            clear hrs
            go_wp2
            go_quiet (fail)
            go_wp2
            (try simp only [Exit.inBlock, Exit.then]); refine bodyPost_ret (results_tmp4 rfl _ _ _) rfl ?_
            exact GP_bad HG2.out (HB3.out.drewN _).below
          | some r2 =>
            have e1 : q = (r.length : Int) - r2.length := by rw [← HQ.out, bE_some hrs]
            have hla := be_lt' hrs
            have HG2 : Hid (goal = .good 3 r2) := Lib.hid (by rw [HG.out, gt, if_neg (by decide), if_neg (by decide), if_pos rfl, ← HR.out, hrs])
            obtain ⟨j, hj⟩ : ∃ j : Nat, j = l.length - r2.length := ⟨_, rfl⟩
            obtain ⟨o2, v, c2, hv, hvl, hvc, ksl2, hIv⟩ := cut_mid b o c l k j (by omega) (by omega) hlc
            have hw2 : IntKind.i64.wrap (q + (k : Int)) = (j : Int) := by rw [IntWalk.i64_in _ (by omega)]; omega
            have x1 : (q == -1) = false := beq_eq_false_iff_ne.mpr (by omega)
            have HV := Lib.hid hv
            have HVl := Lib.hid hvl
            have HJ : Hid (k ≤ j ∧ j + r2.length = l.length) := Lib.hid ⟨by omega, by omega⟩
            clear hrs e1 hj hv hvl
            go_wp2
            (try simp only [Exit.inBlock, Exit.then]); refine bodyPost_ret (results_tmp4 rfl _ _ _) rfl ?_
            exact GP_good HG2.out HB3.out.below HJ.out.1 HJ.out.2 HV.out HVl.out hvc (hIv _ (in_below HI.out HB3.out.below))
      · have x123 : (d == 123) = false := beq_eq_false_iff_ne.mpr h123
        obtain ⟨o', r, c', hr, hrl, hrc, ksl, hIr⟩ := cut_in b o c l k (by omega) hlc
        have HR : Hid (r = d :: l.drop (k + 1)) := Lib.hid (hr.trans HD.out)
        have HTK := Lib.hid (tokenEnd_any w1 b o' c' r (hIr _ (in_below HI.out HBX.out.below)) (by omega))
        obtain ⟨a, r2, htk⟩ : ∃ a r2, tok r = (a, r2) := ⟨_, _, rfl⟩
        have hta : r = a ++ r2 := by have := tok_eq r; rw [htk] at this; exact this
        have htl := congrArg List.length hta
        rw [List.length_append] at htl
        rw [htk] at HTK
        simp only [] at HTK
        obtain ⟨j, hj⟩ : ∃ j : Nat, j = k + a.length := ⟨_, rfl⟩
        obtain ⟨o2, v, c2, hv, hvl, hvc, ksl2, hIv⟩ := cut_mid b o c l k j (by omega) (by omega) hlc
        have hva : v = a := by rw [hv, ← hr, hta, hj, Nat.add_sub_cancel_left, List.take_left' rfl]
        have kconv := in_str (c := c2) (hIv _ (in_below HI.out HBX.out.below))
        have hw2 : IntKind.i64.wrap ((k : Int) + (a.length : Int)) = (j : Int) := by rw [IntWalk.i64_in _ (by omega)]; omega
        obtain ⟨S, hS⟩ : ∃ S, S = strOfNums v := ⟨_, rfl⟩
        rw [← hS] at kconv
        have HG3 : Hid (goal = if d = 116 ∨ d = 102 then (if a = trueW ∨ a = falseW then .good 5 r2 else .bad 7 4) else if d = 117 ∨ d = 110 then (if a = nullW then .good 6 r2 else .bad 7 4) else if d = 45 ∨ dig d = true then .good 2 r2 else .bad 7 4) := Lib.hid (by
          rw [HG.out, gt, if_neg h34, if_neg h91, if_neg h123, ← HR.out, htk])
        have HR0 : Hid (∀ x ∈ a, x ∈ l) := Lib.hid (fun x hx => by
          have h1 : x ∈ r := by rw [hta]; exact List.mem_append_left _ hx
          rw [hr] at h1; exact List.mem_of_mem_drop h1)
        have HJ : Hid (k ≤ j ∧ j + r2.length = l.length) := Lib.hid ⟨by omega, by omega⟩
        have HV := Lib.hid hv
        have HVl := Lib.hid hvl
        have HVA := Lib.hid hva
        have HS := Lib.hid hS
        have ec : w1.cell? ⟨gUnk, 0, none⟩ = some (.iface (T 4) (E 4)) := (HE.out.below HBX.out.below).u
        clear hr hta htl htk hj hv hvl hva hS h34 h91 h123
        go_upto_block 0 with (go_at_call 77; refine HTK.out.mono ?_; rintro e w2 ⟨rfl, rfl⟩)
        have hbS : bytesOf S = a := by rw [HS.out, HVA.out]; exact bytes_of_str a (fun x hx => by have := HBy.out x (by have h1 := HR0.out; exact h1 x hx); unfold byt at this; omega)
        have k1 : (S.toList == [116, 114, 117, 101]) = decide (a = trueW) := by rw [str_eq, hbS]; rfl
        have k2 : (S.toList == [102, 97, 108, 115, 101]) = decide (a = falseW) := by rw [str_eq, hbS]; rfl
        have k3 : (S.toList == [110, 117, 108, 108]) = decide (a = nullW) := by rw [str_eq, hbS]; rfl
        have K1 := Lib.hid k1
        have K2 := Lib.hid k2
        have K3 := Lib.hid k3
        clear hbS k1 k2 k3
        by_cases hA : d = 116 ∨ d = 102
        · rcases hA with rfl | rfl
          · by_cases h1 : a = trueW
            · have HG2 : Hid (goal = .good 5 r2) := Lib.hid (by rw [HG3.out, if_pos (by decide), if_pos (.inl h1)])
              have t1 : (S.toList == [116, 114, 117, 101]) = true := by rw [K1.out]; exact decide_eq_true h1
              have t1p : S.toList = [116, 114, 117, 101] := eq_of_beq t1
              clear h1
              go_wp2
              (try simp only [Exit.inBlock, Exit.then]); refine bodyPost_ret (results_tmp4 rfl _ _ _) rfl ?_
              exact GP_good HG2.out HBX.out.below HJ.out.1 HJ.out.2 HV.out HVl.out hvc (hIv _ (in_below HI.out HBX.out.below))
            · by_cases h2 : a = falseW
              · have HG2 : Hid (goal = .good 5 r2) := Lib.hid (by rw [HG3.out, if_pos (by decide), if_pos (.inr h2)])
                have t1 : (S.toList == [116, 114, 117, 101]) = false := by rw [K1.out]; exact decide_eq_false h1
                have t1p : ¬ S.toList = [116, 114, 117, 101] := beq_eq_false_iff_ne.1 t1
                have t2 : (S.toList == [102, 97, 108, 115, 101]) = true := by rw [K2.out]; exact decide_eq_true h2
                have t2p : S.toList = [102, 97, 108, 115, 101] := eq_of_beq t2
                clear h1 h2
                go_wp2
                (try simp only [Exit.inBlock, Exit.then]); refine bodyPost_ret (results_tmp4 rfl _ _ _) rfl ?_
                exact GP_good HG2.out HBX.out.below HJ.out.1 HJ.out.2 HV.out HVl.out hvc (hIv _ (in_below HI.out HBX.out.below))
              · have HG2 : Hid (goal = .bad 7 4) := Lib.hid (by rw [HG3.out, if_pos (by decide), if_neg (fun e => e.elim h1 h2)])
                have t1 : (S.toList == [116, 114, 117, 101]) = false := by rw [K1.out]; exact decide_eq_false h1
                have t1p : ¬ S.toList = [116, 114, 117, 101] := beq_eq_false_iff_ne.1 t1
                have t2 : (S.toList == [102, 97, 108, 115, 101]) = false := by rw [K2.out]; exact decide_eq_false h2
                have t2p : ¬ S.toList = [102, 97, 108, 115, 101] := beq_eq_false_iff_ne.1 t2
                clear h1 h2
                go_wp2
                go_quiet (fail)
                go_wp2
                (try simp only [Exit.inBlock, Exit.then]); refine bodyPost_ret (results_tmp4 rfl _ _ _) rfl ?_
                exact GP_bad HG2.out (HBX.out.drewN _).below
          · by_cases h1 : a = trueW
            · have HG2 : Hid (goal = .good 5 r2) := Lib.hid (by rw [HG3.out, if_pos (by decide), if_pos (.inl h1)])
              have t1 : (S.toList == [116, 114, 117, 101]) = true := by rw [K1.out]; exact decide_eq_true h1
              have t1p : S.toList = [116, 114, 117, 101] := eq_of_beq t1
              clear h1
              go_wp2
              (try simp only [Exit.inBlock, Exit.then]); refine bodyPost_ret (results_tmp4 rfl _ _ _) rfl ?_
              exact GP_good HG2.out HBX.out.below HJ.out.1 HJ.out.2 HV.out HVl.out hvc (hIv _ (in_below HI.out HBX.out.below))
            · by_cases h2 : a = falseW
              · have HG2 : Hid (goal = .good 5 r2) := Lib.hid (by rw [HG3.out, if_pos (by decide), if_pos (.inr h2)])
                have t1 : (S.toList == [116, 114, 117, 101]) = false := by rw [K1.out]; exact decide_eq_false h1
                have t1p : ¬ S.toList = [116, 114, 117, 101] := beq_eq_false_iff_ne.1 t1
                have t2 : (S.toList == [102, 97, 108, 115, 101]) = true := by rw [K2.out]; exact decide_eq_true h2
                have t2p : S.toList = [102, 97, 108, 115, 101] := eq_of_beq t2
                clear h1 h2
                go_wp2
                (try simp only [Exit.inBlock, Exit.then]); refine bodyPost_ret (results_tmp4 rfl _ _ _) rfl ?_
                exact GP_good HG2.out HBX.out.below HJ.out.1 HJ.out.2 HV.out HVl.out hvc (hIv _ (in_below HI.out HBX.out.below))
              · have HG2 : Hid (goal = .bad 7 4) := Lib.hid (by rw [HG3.out, if_pos (by decide), if_neg (fun e => e.elim h1 h2)])
                have t1 : (S.toList == [116, 114, 117, 101]) = false := by rw [K1.out]; exact decide_eq_false h1
                have t1p : ¬ S.toList = [116, 114, 117, 101] := beq_eq_false_iff_ne.1 t1
                have t2 : (S.toList == [102, 97, 108, 115, 101]) = false := by rw [K2.out]; exact decide_eq_false h2
                have t2p : ¬ S.toList = [102, 97, 108, 115, 101] := beq_eq_false_iff_ne.1 t2
                clear h1 h2
                go_wp2
                go_quiet (fail)
                go_wp2
                (try simp only [Exit.inBlock, Exit.then]); refine bodyPost_ret (results_tmp4 rfl _ _ _) rfl ?_
                exact GP_bad HG2.out (HBX.out.drewN _).below
        · by_cases hB : d = 117 ∨ d = 110
          · rcases hB with rfl | rfl
            · by_cases h3 : a = nullW
              · have HG2 : Hid (goal = .good 6 r2) := Lib.hid (by rw [HG3.out, if_neg (by decide), if_pos (by decide), if_pos h3])
                have t3 : (S.toList == [110, 117, 108, 108]) = true := by rw [K3.out]; exact decide_eq_true h3
                have t3p : S.toList = [110, 117, 108, 108] := eq_of_beq t3
                clear h3
                go_wp2
                (try simp only [Exit.inBlock, Exit.then]); refine bodyPost_ret (results_tmp4 rfl _ _ _) rfl ?_
                exact GP_good HG2.out HBX.out.below HJ.out.1 HJ.out.2 HV.out HVl.out hvc (hIv _ (in_below HI.out HBX.out.below))
              · have HG2 : Hid (goal = .bad 7 4) := Lib.hid (by rw [HG3.out, if_neg (by decide), if_pos (by decide), if_neg h3])
                have t3 : (S.toList == [110, 117, 108, 108]) = false := by rw [K3.out]; exact decide_eq_false h3
                have t3p : ¬ S.toList = [110, 117, 108, 108] := beq_eq_false_iff_ne.1 t3
                clear h3
                go_wp2
                go_quiet (fail)
                go_wp2
                (try simp only [Exit.inBlock, Exit.then]); refine bodyPost_ret (results_tmp4 rfl _ _ _) rfl ?_
                exact GP_bad HG2.out (HBX.out.drewN _).below
            · by_cases h3 : a = nullW
              · have HG2 : Hid (goal = .good 6 r2) := Lib.hid (by rw [HG3.out, if_neg (by decide), if_pos (by decide), if_pos h3])
                have t3 : (S.toList == [110, 117, 108, 108]) = true := by rw [K3.out]; exact decide_eq_true h3
                have t3p : S.toList = [110, 117, 108, 108] := eq_of_beq t3
                clear h3
                go_wp2
                (try simp only [Exit.inBlock, Exit.then]); refine bodyPost_ret (results_tmp4 rfl _ _ _) rfl ?_
                exact GP_good HG2.out HBX.out.below HJ.out.1 HJ.out.2 HV.out HVl.out hvc (hIv _ (in_below HI.out HBX.out.below))
              · have HG2 : Hid (goal = .bad 7 4) := Lib.hid (by rw [HG3.out, if_neg (by decide), if_pos (by decide), if_neg h3])
                have t3 : (S.toList == [110, 117, 108, 108]) = false := by rw [K3.out]; exact decide_eq_false h3
                have t3p : ¬ S.toList = [110, 117, 108, 108] := beq_eq_false_iff_ne.1 t3
                clear h3
                go_wp2
                go_quiet (fail)
                go_wp2
                (try simp only [Exit.inBlock, Exit.then]); refine bodyPost_ret (results_tmp4 rfl _ _ _) rfl ?_
                exact GP_bad HG2.out (HBX.out.drewN _).below
          · by_cases hC : d = 45 ∨ dig d = true
            · have HG2 : Hid (goal = .good 2 r2) := Lib.hid (by rw [HG3.out, if_neg hA, if_neg hB, if_pos hC])
              have hC2 : d = 48 ∨ d = 49 ∨ d = 50 ∨ d = 51 ∨ d = 52 ∨ d = 53 ∨ d = 54 ∨ d = 55 ∨ d = 56 ∨ d = 57 ∨ d = 45 := by
                unfold dig at hC; simp at hC; omega
              clear hA hB hC HG3 HG
              rcases hC2 with rfl | rfl | rfl | rfl | rfl | rfl | rfl | rfl | rfl | rfl | rfl
              all_goals
                go_wp2
                (try simp only [Exit.inBlock, Exit.then]); refine bodyPost_ret (results_tmp4 rfl _ _ _) rfl ?_
                exact GP_good HG2.out HBX.out.below HJ.out.1 HJ.out.2 HV.out HVl.out hvc (hIv _ (in_below HI.out HBX.out.below))
            · have HG2 : Hid (goal = .bad 7 4) := Lib.hid (by rw [HG3.out, if_neg hA, if_neg hB, if_neg hC])
              have y116 : (d == 116) = false := beq_eq_false_iff_ne.mpr (by rintro rfl; revert hA hB hC; decide)
              have y102 : (d == 102) = false := beq_eq_false_iff_ne.mpr (by rintro rfl; revert hA hB hC; decide)
              have y117 : (d == 117) = false := beq_eq_false_iff_ne.mpr (by rintro rfl; revert hA hB hC; decide)
              have y110 : (d == 110) = false := beq_eq_false_iff_ne.mpr (by rintro rfl; revert hA hB hC; decide)
              have y48 : (d == 48) = false := beq_eq_false_iff_ne.mpr (by rintro rfl; revert hA hB hC; decide)
              have y49 : (d == 49) = false := beq_eq_false_iff_ne.mpr (by rintro rfl; revert hA hB hC; decide)
              have y50 : (d == 50) = false := beq_eq_false_iff_ne.mpr (by rintro rfl; revert hA hB hC; decide)
              have y51 : (d == 51) = false := beq_eq_false_iff_ne.mpr (by rintro rfl; revert hA hB hC; decide)
              have y52 : (d == 52) = false := beq_eq_false_iff_ne.mpr (by rintro rfl; revert hA hB hC; decide)
              have y53 : (d == 53) = false := beq_eq_false_iff_ne.mpr (by rintro rfl; revert hA hB hC; decide)
              have y54 : (d == 54) = false := beq_eq_false_iff_ne.mpr (by rintro rfl; revert hA hB hC; decide)
              have y55 : (d == 55) = false := beq_eq_false_iff_ne.mpr (by rintro rfl; revert hA hB hC; decide)
              have y56 : (d == 56) = false := beq_eq_false_iff_ne.mpr (by rintro rfl; revert hA hB hC; decide)
              have y57 : (d == 57) = false := beq_eq_false_iff_ne.mpr (by rintro rfl; revert hA hB hC; decide)
              have y45 : (d == 45) = false := beq_eq_false_iff_ne.mpr (by rintro rfl; revert hA hB hC; decide)
              clear hA hB hC HG3 HG
              go_wp2
              go_quiet (fail)
              go_wp2
              (try simp only [Exit.inBlock, Exit.then]); refine bodyPost_ret (results_tmp4 rfl _ _ _) rfl ?_
              exact GP_bad HG2.out (HBX.out.drewN _).below
end Go.Proofs.YthehnffmbdlopaaDoor.Jp
