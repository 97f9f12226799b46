/- Several texts in one. -/
import Derived.Test.YtcaigeikdnoheaaGreatDoorZGf
import Derived.Deep.CutRange
import Derived.Lib.LaidU8
import Derived.Deep.Strs
set_option linter.unusedVariables false
set_option linter.unusedSimpArgs false
namespace Go.Proofs.YtcaigeikdnoheaaGreatDoor.J
open Go.RowKit Go.Proofs.YtcaigeikdnoheaaGreatDoorW.PrintWords Go.Proofs.YtcaigeikdnoheaaGreatDoorW.PrintLast Go.Proofs.YtcaigeikdnoheaaGreatDoorW.PrintMore Go.Proofs.YtcaigeikdnoheaaGreatDoor.Aid

theorem kp_len : ∀ (m : Nat) (l : L), l.length ≤ m → (kp l).length ≤ 3 * l.length := by
  intro m
  induction m with
  | zero =>
    intro l h
    obtain rfl : l = [] := List.eq_nil_of_length_eq_zero (by omega)
    rw [kp_nil]; simp
  | succ m ih =>
    intro l h
    cases l with
    | nil => rw [kp_nil]; simp
    | cons c t =>
      simp only [List.length_cons] at h
      by_cases hc : c = 92
      · subst hc
        cases t with
        | nil => rw [kp_last]; simp
        | cons d t =>
          rw [kp_esc (by simp), List.length_append]
          have h1 := ke_out (92 :: d :: t)
          have h2 := ke_pos (92 :: d :: t)
          have h3 := ih ((92 :: d :: t).drop (ke (92 :: d :: t)).1) (by rw [List.length_drop, List.length_cons]; omega)
          have h4 := ke_le (l := 92 :: d :: t) (by simp)
          rw [List.length_drop] at h3
          omega
      · rw [kp_plain _ hc]
        have := ih t (by omega)
        simp only [List.length_cons]; omega
theorem next {out goal r o : L} {k : Nat} (hr : r ≠ []) (hk : ke (92 :: r) = (k, o)) (h1 : out ++ kp (92 :: r) = goal) (h2 : lone (92 :: r) = false) : (out ++ o) ++ kp ((92 :: r).drop k) = goal ∧ lone ((92 :: r).drop k) = false := by
  rw [kp_esc hr, hk] at h1
  rw [lone_esc hr, hk] at h2
  exact ⟨by rw [List.append_assoc]; exact h1, h2⟩
theorem ke_none {c : Int} {t : L} (hu : unit (92 :: c :: t) = none) (hp : plainEsc c = false) : ke (92 :: c :: t) = (2, [92, c]) := by
  unfold ke
  rw [hu]
  simp only []
  rw [if_neg (by simp [hp])]; rfl
theorem ke_short {c : Int} {t : L} (hp : plainEsc c = true) : ke (92 :: c :: t) = (2, [short c]) := by
  unfold ke
  rw [unit_short hp]
  simp only []
  rw [if_pos (by simpa using hp)]; rfl
theorem ke_plain {l : L} {n : Int} (hu : unit l = some n) (hn : isSur n = false) : ke l = (6, utf8 n) := by
  unfold isSur at hn
  rw [Bool.or_eq_false_iff] at hn
  unfold ke
  rw [hu]
  simp only []
  rw [if_neg (by simp [hn.1, hn.2])]
theorem ke_half {l : L} {n : Int} (hu : unit l = some n) (hn : isSur n = true) (h2 : unit (l.drop 6) = none) : ke l = (6, l.take 6) := by
  unfold isSur at hn
  rw [Bool.or_eq_true] at hn
  unfold ke
  rw [hu]
  simp only []
  rw [if_pos hn, h2]
theorem ke_pair {l : L} {n m : Int} (hu : unit l = some n) (hn : isSur n = true) (h2 : unit (l.drop 6) = some m) : ke l = (12, bytesOf (Utf8.encode (dec n m))) := by
  unfold isSur at hn
  rw [Bool.or_eq_true] at hn
  have r1 := unit_range hu
  have r2 := unit_range h2
  unfold ke dec
  rw [hu]
  simp only []
  rw [if_pos hn, h2]
  simp only []
  by_cases g : high n = true ∧ low m = true
  · rw [if_pos g, if_pos g]
    have g' := g
    unfold high low at g'
    simp only [Bool.and_eq_true, decide_eq_true_eq] at g'
    rw [encode_utf8 (c := comb n m) (by unfold comb; omega) (by unfold comb; omega) (by unfold comb; omega)]
  · rw [if_neg g, if_neg g, encode_fffd]
theorem out_string {w0 W : World} {v : Value} {xs : L} (h : OutF w0 W v xs) : (convert tBs 9 v).run Tryz.prog W = .ok (.string (strOfNums xs)) W := by
  obtain ⟨g, c, rfl, hI⟩ := h.reads
  exact run_convert_bytes_arg (P := Tryz.prog) W tBs tB Tryz.underlying30 Tryz.underlying5 g 0 xs.length c xs rfl (fun i hi => by rw [hI i hi]) 9 Tryz.underlying9
theorem b2s_any {w0 : World} (W : World) (v : Value) (xs : L) (h : OutF w0 W v xs) : Calls Tryz.prog 79 #[v] W fun e w' => e = .returned (.string (strOfNums xs)) ∧ w' = W := by
  have ks := out_string h
  obtain ⟨g, c, rfl, _⟩ := h.reads
  clear h
  go_enter Tryz.func79, Tryz.ntmps79
  go_wp2
  go_ret
  exact ⟨rfl, rfl⟩
theorem s2b_any (s : ByteArray) (w : World) : Calls Tryz.prog 102 #[.string s] w fun e w' => e = .returned (.slice (some ⟨w.heap.size, 0, none⟩) s.size (grownCap w s.size 0 tB)) ∧ w' = Lib.bytesWorld w tB s := by
  have kb := print_bytes (P := Tryz.prog) 9 30 5 Tryz.underlying9 Tryz.underlying30 Tryz.underlying5 s w
  go_enter Tryz.func102, Tryz.ntmps102
  go_wp2
  go_ret
  exact ⟨rfl, rfl⟩
def KI (w W : World) (goal : L) (kq : Nat) (v0 v4 : Value) : Prop := ∃ (sq : ByteArray) (out : L), v0 = .string sq ∧ OutF w W v4 out ∧ sq.size = kq ∧ sq.size ≤ 100000 ∧ out ++ kp (92 :: bytesOf sq) = goal ∧ lone (92 :: bytesOf sq) = false
def KC (w W : World) (goal : L) (K : Nat) (v0 v4 : Value) : Prop := ∃ (sq : ByteArray) (out : L), v0 = .string sq ∧ OutF w W v4 out ∧ sq.size < K ∧ sq.size ≤ 100000 ∧ out ++ kp (bytesOf sq) = goal ∧ lone (bytesOf sq) = false

set_option maxHeartbeats 8000000 in
set_option maxRecDepth 100000 in
theorem kept_walk (s : ByteArray) (w : World) (hs : s.size ≤ 100000) (hl : lone (bytesOf s) = false) (hE : ErrV w) :
    Calls Tryz.prog 98 #[.string s] w fun e w' => e = .returned (.string (strOfNums (kp (bytesOf s)))) ∧ Below w.heap.size w w' := by
  have hz := bytesOf_length s
  have hgl := kp_len _ (bytesOf s) (Nat.le_refl _)
  obtain ⟨goal, hgoal⟩ : ∃ goal, goal = kp (bytesOf s) := ⟨_, rfl⟩
  rw [← hgoal] at hgl ⊢
  have hg4 : goal.length ≤ 400000 := by omega
  rcases index_bs s with ⟨p, r, hp, hnp, hix⟩ | ⟨hno, hix⟩
  · have HIX := Lib.hid (fun W => Tryz.strings_IndexByte s 92 W)
    rw [hix] at HIX
    have hpl : p.length + 1 ≤ s.size := by rw [← hz, hp, List.length_append, List.length_cons]; omega
    obtain ⟨n, hn⟩ : ∃ n, n = p.length := ⟨_, rfl⟩
    rw [← hn] at hpl HIX
    have hsz : Hid (∀ W, Calls Tryz.prog 102 #[.string s] W fun e w' => e = .returned (.slice (some ⟨W.heap.size, 0, none⟩) s.size (grownCap W s.size 0 tB)) ∧ w' = Lib.bytesWorld W tB s) := Lib.hid (fun W => s2b_any s W)
    have hO := OutF.conv w w (Below.refl _ _) s (by omega) n (by omega)
    obtain ⟨hO1, hO2, hO3⟩ := hO
    have ht : (bytesOf s).take n = p := by rw [hp, hn, List.take_left' rfl]
    rw [ht] at hO1
    obtain ⟨s1, hs1⟩ : ∃ s1, s1 = s.extract (n + 1) s.size := ⟨_, rfl⟩
    have b1 : bytesOf s1 = r := by rw [hs1, by_from, hp, hn, List.drop_append, List.drop_of_length_le (by omega), List.nil_append, show p.length + 1 - p.length = 1 by omega]; rfl
    have z1 : s1.size ≤ 100000 := by rw [hs1, ByteArray.size_extract]; omega
    have ks1 : ∀ W : World, (Instr.slice 9 (.string s) (some (.int .i64 ((n : Int) + 1))) none none).run Tryz.prog W = .ok (.string s1) W := by rw [hs1]; exact sl_from s (n + 1) (by omega)
    have hB0 := Lib.hid hO1
    have e1 : p ++ kp (92 :: r) = goal := by rw [hgoal, hp, kp_run hnp]
    have e2 : lone (92 :: r) = false := by rw [hp, lone_run hnp] at hl; exact hl
    have HI0 := Lib.hid (show KI w (Lib.bytesWorld w tB s) goal s1.size (.string s1) (.slice (some ⟨w.heap.size, 0, none⟩) n (grownCap w s.size 0 tB)) from ⟨s1, p, rfl, hO1, rfl, z1, by rw [b1]; exact e1, by rw [b1]; exact e2⟩)
    have HE := Lib.hid hE
    have hd0 : decide ((n : Int) < 0) = false := decide_eq_false (by omega)
    have hnc : (n : Int) ≤ (grownCap w s.size 0 tB : Int) := by omega
    clear hO1 ht b1 e1 e2 hp hnp hn hl hgoal hE hix hgl hs1 z1 hB0
    go_enter Tryz.func98, Tryz.ntmps98
    go_wp2_with (first
      | (go_at_call_of 114 (Value.string s); refine (HIX.out _).mono ?_; rintro e w1 ⟨rfl, hw⟩; replace hw := hw.symm; subst hw)
      | (go_at_call 102; refine (hsz.out _).mono ?_; rintro e w1 ⟨rfl, rfl⟩))
    go_loopg [0, 4] s1.size (fun kq v0 v4 w' => Hid (KI w w' goal kq v0 v4))
    case atStart => exact HI0
    case round =>
      obtain ⟨sq, out, rfl, hO, rfl, hq, he, hlo2⟩ := hrel.out
      clear hrel HI0 hnc ks1
      have hql := bytesOf_length sq
      obtain ⟨ch, t, hr⟩ : ∃ ch t, bytesOf sq = ch :: t := by
        cases hb : bytesOf sq with
        | nil => rw [hb, lone_last] at hlo2; cases hlo2
        | cons ch t => exact ⟨ch, t, rfl⟩
      rw [hr] at he hlo2
      have hlen : t.length + 1 = sq.size := by rw [← hql, hr, List.length_cons]
      have hlt : 0 < sq.size := by omega
      have hlt' : decide (0 < sq.size) = true := decide_eq_true hlt
      have hx : ((sq[0]'hlt).toNat : Int) = ch := by rw [from_at0 sq 0 hlt]; unfold from_; rw [List.drop_zero, hr]; rfl
      have hbyt := bytesOf_range sq
      rw [hr] at hbyt
      have hch := hbyt ch List.mem_cons_self
      obtain ⟨s2, hs2⟩ : ∃ s2, s2 = sq.extract 1 sq.size := ⟨_, rfl⟩
      have b2 : bytesOf s2 = t := by rw [hs2, by_from, hr]; rfl
      have z2 : s2.size = t.length := by rw [← b2, bytesOf_length]
      have ks2 : ∀ W : World, (Instr.slice 9 (.string sq) (some (.int .i64 1)) none none).run Tryz.prog W = .ok (.string s2) W := by rw [hs2]; exact sl_from sq 1 (by omega)
      have HO := Lib.hid hO
      have hol : out.length ≤ 400000 := by have := congrArg List.length he; rw [List.length_append] at this; omega
      have nx : Hid (∀ k o, ke (92 :: ch :: t) = (k, o) → (out ++ o) ++ kp ((92 :: ch :: t).drop k) = goal ∧ lone ((92 :: ch :: t).drop k) = false) := Lib.hid (fun k o hk => next (by simp) hk he hlo2)
      have fin2 : Hid (∀ o, ke (92 :: ch :: t) = (2, o) → ∀ W v4, OutF w W v4 (out ++ o) → KC w W goal sq.size (.string s2) v4) := Lib.hid (fun o hk W v4 ho => by
        obtain ⟨h1, h2⟩ := nx.out 2 o hk
        exact ⟨s2, out ++ o, rfl, ho, by omega, by omega, by rw [b2]; exact h1, by rw [b2]; exact h2⟩)
      have Hz2 := Lib.hid z2
      have Hb2 := Lib.hid b2
      have Hqs := Lib.hid hlen
      clear hO hr he hlo2 hql hs2 b2 hbyt
      go_upto_block 2 with (fail)
      go_cut [0, 4] from 5 to 10 (fun v0 v4 W => Hid (KC w W goal sq.size v0 v4))
      case first =>
        have hlo : out.length + 1 ≤ 4294967296 := by omega
        have hlo2 : out.length + 2 ≤ 4294967296 := by omega
        cases hp : plainEsc ch with
        | true =>
          have hk := ke_short (t := t) hp
          have f := Lib.hid (fin2.out _ hk)
          clear fin2 nx hk z2 hlen
          unfold plainEsc at hp
          simp only [Bool.or_eq_true, beq_iff_eq] at hp
          rcases hp with ((((((rfl | rfl) | rfl) | rfl) | rfl) | rfl) | rfl) | rfl
          all_goals
            go_wp2_with (first
              | (at_builtin; refine outF_row rfl (.tmp 39) (.tmp 40) rfl _ [34] out 1 1 rfl (by simp [go_sem]) rfl HO.out hlo ?_; intro v1 w1 ho; have H1 := Lib.hid ho; clear ho)
              | (at_builtin; refine outF_row rfl (.tmp 44) (.tmp 45) rfl _ [92] out 1 1 rfl (by simp [go_sem]) rfl HO.out hlo ?_; intro v1 w1 ho; have H1 := Lib.hid ho; clear ho)
              | (at_builtin; refine outF_row rfl (.tmp 49) (.tmp 50) rfl _ [47] out 1 1 rfl (by simp [go_sem]) rfl HO.out hlo ?_; intro v1 w1 ho; have H1 := Lib.hid ho; clear ho)
              | (at_builtin; refine outF_row rfl (.tmp 54) (.tmp 55) rfl _ [8] out 1 1 rfl (by simp [go_sem]) rfl HO.out hlo ?_; intro v1 w1 ho; have H1 := Lib.hid ho; clear ho)
              | (at_builtin; refine outF_row rfl (.tmp 59) (.tmp 60) rfl _ [12] out 1 1 rfl (by simp [go_sem]) rfl HO.out hlo ?_; intro v1 w1 ho; have H1 := Lib.hid ho; clear ho)
              | (at_builtin; refine outF_row rfl (.tmp 64) (.tmp 65) rfl _ [10] out 1 1 rfl (by simp [go_sem]) rfl HO.out hlo ?_; intro v1 w1 ho; have H1 := Lib.hid ho; clear ho)
              | (at_builtin; refine outF_row rfl (.tmp 69) (.tmp 70) rfl _ [13] out 1 1 rfl (by simp [go_sem]) rfl HO.out hlo ?_; intro v1 w1 ho; have H1 := Lib.hid ho; clear ho)
              | (at_builtin; refine outF_row rfl (.tmp 74) (.tmp 75) rfl _ [9] out 1 1 rfl (by simp [go_sem]) rfl HO.out hlo ?_; intro v1 w1 ho; have H1 := Lib.hid ho; clear ho))
            go_meet
            case rel => exact Lib.hid (f.out _ _ H1.out)
        | false =>
          by_cases h117 : ch = 117
          · subst h117
            clear hx hp
            by_cases h4 : t.length < 4
            · have f := Lib.hid (fin2.out _ (ke_none (unit_short4 h4) rfl))
              have d1 : decide ((s2.size : Int) < 4) = true := decide_eq_true (by omega)
              have d2 : decide (s2.size < 4) = true := decide_eq_true (by omega)
              clear fin2 nx z2 hlen h4
              go_wp2_with (at_builtin; refine outF_str rfl (.tmp 82) (.const (.string ⟨#[92, 117]⟩)) rfl _ ⟨#[92, 117]⟩ out rfl rfl HO.out hlo2 ?_; intro v1 w1 ho; have H1 := Lib.hid ho; clear ho)
              go_meet
              case rel => exact Lib.hid (f.out _ _ H1.out)
            · have h4' : 4 ≤ t.length := by omega
              have hu := four_unit h4'
              have d1 : decide ((s2.size : Int) < 4) = false := decide_eq_false (by omega)
              have d2 : decide (s2.size < 4) = false := decide_eq_false (by omega)
              obtain ⟨xs, hxs⟩ : ∃ xs, xs = s2.extract 0 4 := ⟨_, rfl⟩
              have kxs : ∀ W : World, (Instr.slice 9 (.string s2) none (some (.int .i64 4)) none).run Tryz.prog W = .ok (.string xs) W := by rw [hxs]; exact sl_to s2 4 (by omega)
              have bxs : bytesOf xs = t.take 4 := by rw [hxs, bytesOf_extract, Hb2.out]; rfl
              have zxs : xs.size = 4 := by rw [← bytesOf_length, bxs, List.length_take]; omega
              have HPU0 : Hid (∀ W, Below w.heap.size w W → Calls Tryz.prog 120 #[.string xs, .int .i64 16, .int .i64 16] W (PuPost (t.take 4) W)) := Lib.hid (fun W hb => by have := ParseUint_any xs zxs W (HE.out.below hb); rwa [bxs] at this)
              cases hf : four (t.take 4) with
              | none =>
                have HPU : Hid (∀ W, Below w.heap.size w W → Calls Tryz.prog 120 #[.string xs, .int .i64 16, .int .i64 16] W (fun e w' => (∃ N, e = .returned (.tuple #[.int .u64 0, .iface 160 (.pointer (some ⟨N, 0, none⟩))])) ∧ Below W.heap.size W w')) := Lib.hid (fun W hb => (HPU0.out W hb).mono (fun e w' h => by unfold PuPost at h; rw [hf] at h; exact ⟨h.2, h.1⟩))
                have f := Lib.hid (fin2.out _ (ke_none (hu.trans hf) rfl))
                clear fin2 nx z2 hlen h4 h4' hu hf HPU0 bxs zxs hxs
                go_wp2_with (first
                  | (go_at_call_of 120 (Value.string xs); refine (HPU.out _ HO.out.1).mono ?_; rintro e w2 ⟨⟨N, rfl⟩, hb⟩; replace HO := Lib.hid (HO.out.below hb); clear hb)
                  | (at_builtin; refine outF_str rfl (.tmp 93) (.const (.string ⟨#[92, 117]⟩)) rfl _ ⟨#[92, 117]⟩ out rfl rfl HO.out hlo2 ?_; intro v_H1 w_H1 ho; have H1 := Lib.hid ho; clear ho))
                go_meet
                case rel => exact Lib.hid (f.out _ _ H1.out)
              | some n =>
                have HPU : Hid (∀ W, Below w.heap.size w W → Calls Tryz.prog 120 #[.string xs, .int .i64 16, .int .i64 16] W (fun e w' => e = .returned (.tuple #[.int .u64 n, .nilIface]) ∧ Below W.heap.size W w')) := Lib.hid (fun W hb => (HPU0.out W hb).mono (fun e w' h => by unfold PuPost at h; rw [hf] at h; exact ⟨h.2, h.1⟩))
                have hun : unit (92 :: 117 :: t) = some n := hu.trans hf
                have hnr := unit_range hun
                obtain ⟨s3, hs3⟩ : ∃ s3, s3 = s2.extract 4 s2.size := ⟨_, rfl⟩
                have ks3 : ∀ W : World, (Instr.slice 9 (.string s2) (some (.int .i64 4)) none none).run Tryz.prog W = .ok (.string s3) W := by rw [hs3]; exact sl_from s2 4 (by omega)
                obtain ⟨u, hud⟩ : ∃ u, u = t.drop 4 := ⟨_, rfl⟩
                have b3 : bytesOf s3 = u := by rw [hs3, by_from, Hb2.out, hud]
                have z3 : s3.size = u.length := by rw [← b3, bytesOf_length]
                have z3t : s3.size + 4 = t.length := by rw [z3, hud, List.length_drop]; omega
                have d6 : (92 :: 117 :: t).drop 6 = u := by rw [hud]; rfl
                have HSU := Lib.hid (fun W => sur_any n W)
                have fin6 : Hid (∀ o, ke (92 :: 117 :: t) = (6, o) → ∀ W v4, OutF w W v4 (out ++ o) → KC w W goal sq.size (.string s3) v4) := Lib.hid (fun o hk W v4 ho => by
                  obtain ⟨h1, h2⟩ := nx.out 6 o hk
                  exact ⟨s3, out ++ o, rfl, ho, by omega, by omega, by rw [b3, ← d6]; exact h1, by rw [b3, ← d6]; exact h2⟩)
                have n0 : 0 ≤ n := hnr.1
                have n1 : n ≤ 65535 := hnr.2
                clear HPU0 hf hu fin2 hxs h4 h4'
                cases hsu : isSur n with
                | false =>
                  rw [hsu] at HSU
                  have hen : bytesOf (Utf8.encode n) = utf8 n := encode_utf8 n0 (by omega) (by unfold isSur high low at hsu; simp at hsu; omega)
                  have f := Lib.hid (fin6.out _ (ke_plain hun hsu))
                  rw [← hen] at f
                  have hen4 : out.length + (Utf8.encode n).size ≤ 4294967296 := by rw [← bytesOf_length, hen]; have := utf8_le n; omega
                  clear fin6 nx z2 hlen bxs zxs hun hnr hs3 b3 z3 z3t d6 hud hsu hen
                  go_wp2_with (first
                    | (go_at_call_of 120 (Value.string xs); refine (HPU.out _ HO.out.1).mono ?_; rintro e w2 ⟨rfl, hb⟩; replace HO := Lib.hid (HO.out.below hb); clear hb)
                    | (go_at_call 121; refine (HSU.out _).mono ?_; rintro e w3 ⟨rfl, hb⟩; replace HO := Lib.hid (HO.out.below hb.below); clear hb)
                    | (at_builtin; refine outF_str rfl (.tmp 101) (.tmp 104) rfl _ (Utf8.encode n) out rfl rfl HO.out hen4 ?_; intro v_H1 w_H1 ho; have H1 := Lib.hid ho; clear ho))
                  go_meet
                  case rel => exact Lib.hid (f.out _ _ H1.out)
                | true =>
                  rw [hsu] at HSU
                  have half : Hid (unit u = none → ∀ W v4, OutF w W v4 ((out ++ bytesOf ⟨#[92, 117]⟩) ++ bytesOf xs) → KC w W goal sq.size (.string s3) v4) := Lib.hid (fun h W v4 ho => by
                    refine fin6.out _ (ke_half hun hsu (by rw [d6]; exact h)) W v4 ?_
                    rw [bxs, List.append_assoc] at ho
                    exact ho)
                  have lxs : (out ++ bytesOf ⟨#[92, 117]⟩).length + xs.size ≤ 4294967296 := by rw [zxs, List.length_append]; show out.length + 2 + 4 ≤ _; omega
                  by_cases h6 : s3.size < 6
                  · have hn : unit u = none := by
                      unfold unit; rw [if_neg]; intro g; have := g.1; omega
                    have f := Lib.hid (half.out hn)
                    have e1 : decide ((s3.size : Int) < 6) = true := decide_eq_true (by omega)
                    have e2 : decide (s3.size < 6) = true := decide_eq_true h6
                    clear fin6 half nx z2 hlen bxs zxs hun hnr hs3 b3 z3 z3t d6 hud hsu hn
                    go_wp2_with (first
                      | (go_at_call_of 120 (Value.string xs); refine (HPU.out _ HO.out.1).mono ?_; rintro e w2 ⟨rfl, hb⟩; replace HO := Lib.hid (HO.out.below hb); clear hb)
                      | (go_at_call 121; refine (HSU.out _).mono ?_; rintro e w3 ⟨rfl, hb⟩; replace HO := Lib.hid (HO.out.below hb.below); clear hb)
                      | (at_builtin; refine outF_str rfl (.tmp 119) (.const (.string ⟨#[92, 117]⟩)) rfl _ ⟨#[92, 117]⟩ out rfl rfl HO.out hlo2 ?_; intro v_H1 w_H1 ho; have H1 := Lib.hid ho; clear ho)
                      | (at_builtin; refine outF_str rfl (.tmp 121) (.tmp 122) rfl _ xs (out ++ bytesOf ⟨#[92, 117]⟩) rfl rfl H1.out lxs ?_; intro v_H2 w_H2 ho; have H2 := Lib.hid ho; clear ho))
                    go_meet
                    case rel => exact Lib.hid (f.out _ _ H2.out)
                  · have e1 : decide ((s3.size : Int) < 6) = false := decide_eq_false (by omega)
                    have e2 : decide (s3.size < 6) = false := decide_eq_false h6
                    have hl0 : 0 < s3.size := by omega
                    have hl1 : 1 < s3.size := by omega
                    obtain ⟨c0, c1, q, hq⟩ : ∃ c0 c1 q, u = c0 :: c1 :: q := by
                      have h66 : 6 ≤ u.length := by omega
                      cases hcu : u with
                      | nil => rw [hcu] at h66; simp at h66
                      | cons a u' =>
                        cases hcu2 : u' with
                        | nil => rw [hcu, hcu2] at h66; simp at h66
                        | cons b q => exact ⟨a, b, q, rfl⟩
                    have x0 : ((s3[0]'hl0).toNat : Int) = c0 := by rw [from_at0 s3 0 hl0]; unfold from_; rw [List.drop_zero, b3, hq]; rfl
                    have x1 : ((s3[1]'hl1).toNat : Int) = c1 := by have := from_at s3 0 1 (by omega); simp only [Nat.zero_add] at this; rw [this]; unfold from_; rw [List.drop_zero, b3, hq]; rfl
                    by_cases hc0 : c0 = 92
                    · by_cases hc1 : c1 = 117
                      · subst hc0; subst hc1
                        have hq4 : 4 ≤ q.length := by have := z3; rw [hq] at this; simp only [List.length_cons] at this; omega
                        obtain ⟨ys, hys⟩ : ∃ ys, ys = s3.extract 2 6 := ⟨_, rfl⟩
                        have kys : ∀ W : World, (Instr.slice 9 (.string s3) (some (.int .i64 2)) (some (.int .i64 6)) none).run Tryz.prog W = .ok (.string ys) W := by rw [hys]; exact sl_mid s3 2 6 (by omega) (by omega)
                        have bys : bytesOf ys = q.take 4 := by rw [hys, bytesOf_extract, b3, hq]; rfl
                        have zys : ys.size = 4 := by rw [← bytesOf_length, bys, List.length_take]; omega
                        have hu2 : unit u = four (q.take 4) := by rw [hq]; exact four_unit hq4
                        have HQ0 : Hid (∀ W, Below w.heap.size w W → Calls Tryz.prog 120 #[.string ys, .int .i64 16, .int .i64 16] W (PuPost (q.take 4) W)) := Lib.hid (fun W hb => by have := ParseUint_any ys zys W (HE.out.below hb); rwa [bys] at this)
                        cases hf2 : four (q.take 4) with
                        | none =>
                          have HQU : Hid (∀ W, Below w.heap.size w W → Calls Tryz.prog 120 #[.string ys, .int .i64 16, .int .i64 16] W (fun e w' => (∃ N, e = .returned (.tuple #[.int .u64 0, .iface 160 (.pointer (some ⟨N, 0, none⟩))])) ∧ Below W.heap.size W w')) := Lib.hid (fun W hb => (HQ0.out W hb).mono (fun e w' h => by unfold PuPost at h; rw [hf2] at h; exact ⟨h.2, h.1⟩))
                          have f := Lib.hid (half.out (hu2.trans hf2))
                          clear fin6 half nx z2 hlen bxs zxs hun hnr hs3 b3 z3 z3t d6 hud hsu hq hq4 hys bys zys hu2 HQ0 hf2
                          go_wp2_with (first
                            | (go_at_call_of 120 (Value.string xs); refine (HPU.out _ HO.out.1).mono ?_; rintro e w2 ⟨rfl, hb⟩; replace HO := Lib.hid (HO.out.below hb); clear hb)
                            | (go_at_call 121; refine (HSU.out _).mono ?_; rintro e w3 ⟨rfl, hb⟩; replace HO := Lib.hid (HO.out.below hb.below); clear hb)
                            | (go_at_call_of 120 (Value.string ys); refine (HQU.out _ HO.out.1).mono ?_; rintro e w4 ⟨⟨N, rfl⟩, hb⟩; replace HO := Lib.hid (HO.out.below hb); clear hb)
                            | (at_builtin; refine outF_str rfl (.tmp 132) (.const (.string ⟨#[92, 117]⟩)) rfl _ ⟨#[92, 117]⟩ out rfl rfl HO.out hlo2 ?_; intro v_H1 w_H1 ho; have H1 := Lib.hid ho; clear ho)
                            | (at_builtin; refine outF_str rfl (.tmp 134) (.tmp 135) rfl _ xs (out ++ bytesOf ⟨#[92, 117]⟩) rfl rfl H1.out lxs ?_; intro v_H2 w_H2 ho; have H2 := Lib.hid ho; clear ho))
                          go_meet
                          case rel => exact Lib.hid (f.out _ _ H2.out)
                        | some m =>
                          have HQU : Hid (∀ W, Below w.heap.size w W → Calls Tryz.prog 120 #[.string ys, .int .i64 16, .int .i64 16] W (fun e w' => e = .returned (.tuple #[.int .u64 m, .nilIface]) ∧ Below W.heap.size W w')) := Lib.hid (fun W hb => (HQ0.out W hb).mono (fun e w' h => by unfold PuPost at h; rw [hf2] at h; exact ⟨h.2, h.1⟩))
                          have hum : unit u = some m := hu2.trans hf2
                          have hmr := unit_range hum
                          have m0 : 0 ≤ m := hmr.1
                          have m1 : m ≤ 65535 := hmr.2
                          have HDC := Lib.hid (fun W => dec_any n m ⟨n0, n1⟩ ⟨m0, m1⟩ W)
                          have hk := ke_pair hun hsu (by rw [d6]; exact hum)
                          obtain ⟨s4, hs4⟩ : ∃ s4, s4 = s3.extract 6 s3.size := ⟨_, rfl⟩
                          have ks4 : ∀ W : World, (Instr.slice 9 (.string s3) (some (.int .i64 6)) none none).run Tryz.prog W = .ok (.string s4) W := by rw [hs4]; exact sl_from s3 6 (by omega)
                          have b4 : bytesOf s4 = (92 :: 117 :: t).drop 12 := by rw [hs4, by_from, b3, hud, List.drop_drop]; rfl
                          have z4 : s4.size ≤ s3.size := by rw [hs4, ByteArray.size_extract]; omega
                          have hdl : out.length + (Utf8.encode (dec n m)).size ≤ 4294967296 := by
                            have := ke_out (92 :: 117 :: t)
                            rw [hk, bytesOf_length] at this
                            omega
                          have f : Hid (∀ W v4, OutF w W v4 (out ++ bytesOf (Utf8.encode (dec n m))) → KC w W goal sq.size (.string s4) v4) := Lib.hid (fun W v4 ho => by
                            obtain ⟨h1, h2⟩ := nx.out 12 _ hk
                            exact ⟨s4, _, rfl, ho, by omega, by omega, by rw [b4]; exact h1, by rw [b4]; exact h2⟩)
                          obtain ⟨dc, hdc⟩ : ∃ dc, dc = dec n m := ⟨_, rfl⟩
                          rw [← hdc] at f hdl HDC
                          clear fin6 half nx z2 hlen bxs zxs hun hnr hs3 b3 z3 z3t d6 hud hsu hq hq4 hys bys zys hu2 HQ0 hf2 hum hmr hk hs4 b4 z4 hdc
                          go_wp2_with (first
                            | (go_at_call_of 120 (Value.string xs); refine (HPU.out _ HO.out.1).mono ?_; rintro e w2 ⟨rfl, hb⟩; replace HO := Lib.hid (HO.out.below hb); clear hb)
                            | (go_at_call 121; refine (HSU.out _).mono ?_; rintro e w3 ⟨rfl, hb⟩; replace HO := Lib.hid (HO.out.below hb.below); clear hb)
                            | (go_at_call_of 120 (Value.string ys); refine (HQU.out _ HO.out.1).mono ?_; rintro e w4 ⟨rfl, hb⟩; replace HO := Lib.hid (HO.out.below hb); clear hb)
                            | (go_at_call 122; refine (HDC.out _).mono ?_; rintro e w5 ⟨rfl, hb⟩; replace HO := Lib.hid (HO.out.below hb.below); clear hb)
                            | (at_builtin; refine outF_str rfl (.tmp 142) (.tmp 144) rfl _ (Utf8.encode dc) out rfl rfl HO.out hdl ?_; intro v_H1 w_H1 ho; have H1 := Lib.hid ho; clear ho))
                          go_meet
                          case rel => exact Lib.hid (f.out _ _ H1.out)
                      · have hn : unit u = none := by unfold unit; rw [if_neg]; rw [hq]; intro g; exact hc1 g.2.2.1
                        have f := Lib.hid (half.out hn)
                        have e4 : (c0 != 92) = false := bne_eq_false_iff_eq.mpr hc0
                        have e5 : (c1 != 117) = true := bne_iff_ne.mpr hc1
                        clear fin6 half nx z2 hlen bxs zxs hun hnr hs3 b3 z3 z3t d6 hud hsu hn hq hc0
                        go_wp2_with (first
                          | (go_at_call_of 120 (Value.string xs); refine (HPU.out _ HO.out.1).mono ?_; rintro e w2 ⟨rfl, hb⟩; replace HO := Lib.hid (HO.out.below hb); clear hb)
                          | (go_at_call 121; refine (HSU.out _).mono ?_; rintro e w3 ⟨rfl, hb⟩; replace HO := Lib.hid (HO.out.below hb.below); clear hb)
                          | (at_builtin; refine outF_str rfl (.tmp 119) (.const (.string ⟨#[92, 117]⟩)) rfl _ ⟨#[92, 117]⟩ out rfl rfl HO.out hlo2 ?_; intro v_H1 w_H1 ho; have H1 := Lib.hid ho; clear ho)
                          | (at_builtin; refine outF_str rfl (.tmp 121) (.tmp 122) rfl _ xs (out ++ bytesOf ⟨#[92, 117]⟩) rfl rfl H1.out lxs ?_; intro v_H2 w_H2 ho; have H2 := Lib.hid ho; clear ho))
                        go_meet
                        case rel => exact Lib.hid (f.out _ _ H2.out)
                    · have hn : unit u = none := by unfold unit; rw [if_neg]; rw [hq]; intro g; exact hc0 g.2.1
                      have f := Lib.hid (half.out hn)
                      have e4 : (c0 != 92) = true := bne_iff_ne.mpr hc0
                      clear fin6 half nx z2 hlen bxs zxs hun hnr hs3 b3 z3 z3t d6 hud hsu hn hq
                      go_wp2_with (first
                        | (go_at_call_of 120 (Value.string xs); refine (HPU.out _ HO.out.1).mono ?_; rintro e w2 ⟨rfl, hb⟩; replace HO := Lib.hid (HO.out.below hb); clear hb)
                        | (go_at_call 121; refine (HSU.out _).mono ?_; rintro e w3 ⟨rfl, hb⟩; replace HO := Lib.hid (HO.out.below hb.below); clear hb)
                        | (at_builtin; refine outF_str rfl (.tmp 119) (.const (.string ⟨#[92, 117]⟩)) rfl _ ⟨#[92, 117]⟩ out rfl rfl HO.out hlo2 ?_; intro v_H1 w_H1 ho; have H1 := Lib.hid ho; clear ho)
                        | (at_builtin; refine outF_str rfl (.tmp 121) (.tmp 122) rfl _ xs (out ++ bytesOf ⟨#[92, 117]⟩) rfl rfl H1.out lxs ?_; intro v_H2 w_H2 ho; have H2 := Lib.hid ho; clear ho))
                      go_meet
                      case rel => exact Lib.hid (f.out _ _ H2.out)
          · have hu : unit (92 :: ch :: t) = none := by unfold unit; rw [if_neg]; intro g; exact h117 g.2.2.1
            have f := Lib.hid (fin2.out _ (ke_none hu hp))
            have n9 : (ch == 117) = false := beq_eq_false_iff_ne.mpr h117
            unfold plainEsc at hp
            simp only [Bool.or_eq_false_iff] at hp
            obtain ⟨⟨⟨⟨⟨⟨⟨k1, k2⟩, k3⟩, k4⟩, k5⟩, k6⟩, k7⟩, k8⟩ := hp
            clear fin2 nx z2 hlen hu h117
            go_wp2_with (at_builtin; refine outF_row rfl (.tmp 33) (.tmp 35) rfl _ [92, ch] out 2 2 rfl (by simp [go_sem]) rfl HO.out hlo2 ?_; intro v1 w1 ho; have H1 := Lib.hid ho; clear ho)
            go_meet
            case rel => exact Lib.hid (f.out _ _ H1.out)
      case rest =>
        obtain ⟨sr, outr, rfl, hO, hlt2, hq2, he, hlo3⟩ := hcut.out
        clear hcut HO fin2 nx hx ks2 z2
        have HOr := Lib.hid hO
        have hol2 : outr.length ≤ 400000 := by have := congrArg List.length he; rw [List.length_append] at this; omega
        have hrl := bytesOf_length sr
        rcases index_bs sr with ⟨p2, r2, hp2, hnp2, hix2⟩ | ⟨hno2, hix2⟩
        · have HIX2 := Lib.hid (fun W => Tryz.strings_IndexByte sr 92 W)
          rw [hix2] at HIX2
          obtain ⟨k, hk⟩ : ∃ k, k = p2.length := ⟨_, rfl⟩
          have hkl : k + 1 ≤ sr.size := by rw [← hrl, hp2, List.length_append, List.length_cons]; omega
          rw [← hk] at HIX2
          have dk : decide ((k : Int) < 0) = false := decide_eq_false (by omega)
          obtain ⟨sa, hsa⟩ : ∃ sa, sa = sr.extract 0 k := ⟨_, rfl⟩
          obtain ⟨sb, hsb⟩ : ∃ sb, sb = sr.extract (k + 1) sr.size := ⟨_, rfl⟩
          have ba : bytesOf sa = p2 := by rw [hsa, bytesOf_extract, hp2, hk]; simp
          have bb : bytesOf sb = r2 := by rw [hsb, by_from, hp2, hk, List.drop_append, List.drop_of_length_le (by omega), List.nil_append, show p2.length + 1 - p2.length = 1 by omega]; rfl
          have zb : sb.size < sr.size := by rw [hsb, ByteArray.size_extract]; omega
          have za : outr.length + sa.size ≤ 4294967296 := by rw [← bytesOf_length, ba, ← hk]; omega
          have ksa : ∀ W : World, (Instr.slice 9 (.string sr) none (some (.int .i64 (k : Int))) none).run Tryz.prog W = .ok (.string sa) W := by rw [hsa]; exact sl_to sr k (by omega)
          have ksb : ∀ W : World, (Instr.slice 9 (.string sr) (some (.int .i64 ((k : Int) + 1))) none none).run Tryz.prog W = .ok (.string sb) W := by rw [hsb]; exact sl_from sr (k + 1) (by omega)
          have f : Hid (∀ W v4, OutF w W v4 (outr ++ bytesOf sa) → KI w W goal sb.size (.string sb) v4) := Lib.hid (fun W v4 ho => by
            rw [hp2, kp_run hnp2] at he
            rw [hp2, lone_run hnp2] at hlo3
            exact ⟨sb, _, rfl, ho, rfl, by omega, by rw [bb, ba, List.append_assoc]; exact he, by rw [bb]; exact hlo3⟩)
          clear hO he hlo3 hp2 hnp2 hix2 hk hsa hsb ba bb hrl
          go_wp2_with (first
            | (go_at_call 114; refine (HIX2.out _).mono ?_; rintro e w6 ⟨rfl, hw⟩; replace hw := hw.symm; subst hw)
            | (at_builtin; refine outF_str rfl (.tmp 155) (.tmp 158) rfl _ sa outr rfl rfl HOr.out za ?_; intro v_H3 w_H3 ho; have H3 := Lib.hid ho; clear ho))
          go_roundg sb.size
          case rel => exact Lib.hid (f.out _ _ H3.out)
          case measure => omega
        · have HIX2 := Lib.hid (fun W => Tryz.strings_IndexByte sr 92 W)
          rw [hix2] at HIX2
          have za : outr.length + sr.size ≤ 4294967296 := by omega
          have hkp : kp (bytesOf sr) = bytesOf sr := by have := kp_run hno2 []; rwa [List.append_nil, kp_nil, List.append_nil] at this
          have eg : Hid (outr ++ bytesOf sr = goal) := Lib.hid (by rw [← he, hkp])
          clear hO he hlo3 hix2 hno2 hkp hrl
          go_wp2_with (first
            | (go_at_call 114; refine (HIX2.out _).mono ?_; rintro e w6 ⟨rfl, hw⟩; replace hw := hw.symm; subst hw)
            | (at_builtin; refine outF_str rfl (.tmp 152) (.tmp 153) rfl _ sr outr rfl rfl HOr.out za ?_; intro v_H3 w_H3 ho; have H3 := Lib.hid ho; clear ho)
            | (go_at_call 79; refine (b2s_any _ _ _ H3.out).mono ?_; rintro e w7 ⟨rfl, hw⟩; replace hw := hw.symm; subst hw))
          go_ret
          exact ⟨by rw [eg.out]; rfl, H3.out.1⟩
  · have HIX := Lib.hid (fun W => Tryz.strings_IndexByte s 92 W)
    rw [hix] at HIX
    have hkp : kp (bytesOf s) = bytesOf s := by have := kp_run hno []; rwa [List.append_nil, kp_nil, List.append_nil] at this
    have eg : Hid (strOfNums goal = s) := Lib.hid (by rw [hgoal, hkp, str_of_bytes])
    have HB := Lib.hid (Below.refl w.heap.size w)
    clear hE hl hgoal hkp hix hno hgl
    go_enter Tryz.func98, Tryz.ntmps98
    go_wp2_with (go_at_call_of 114 (Value.string s); refine (HIX.out _).mono ?_; rintro e w1 ⟨rfl, hw⟩; replace hw := hw.symm; subst hw)
    go_ret
    exact ⟨by rw [eg.out]; rfl, HB.out⟩
end Go.Proofs.YtcaigeikdnoheaaGreatDoor.J

set_option linter.unusedVariables false
namespace Go.Proofs.YtcaigeikdnoheaaGreatDoor.J
open Go.RowKit Go.Lib Go.ChangeShapes Go.Deep

theorem err_of {W : World} {d : DataW Unit} (h2 : VarReads Tryz.prog W "strconv.ErrSyntax" (.iface "*errors.errorString" d)) : ErrV W := by
  obtain ⟨g2, t2, cs2, f2, p2, hg2, ht2, hv2, hd2⟩ := h2
  obtain rfl := Option.some.inj ((show Tryz.prog.globalNamed "strconv.ErrSyntax" = some gS by kernel_rfl).symm.trans hg2)
  obtain rfl := Option.some.inj ((show (Tryz.prog.globals[gS]?).map (·.type) = some 69 by kernel_rfl).symm.trans ht2)
  obtain ⟨fuel', u, v, e2, _, _⟩ := iface_of_trod Tryz.underlying69 hd2
  have i3 := World.var?_cell hg2 hv2 0
  refine ⟨.iface u v, ?_, .inr ⟨u, v, rfl⟩⟩
  rw [i3, ← Array.getElem?_toList, e2]; rfl
end Go.Proofs.YtcaigeikdnoheaaGreatDoor.J
