/- Several texts in one. -/
import Derived.Test.YtcaigeikdnoheaaGreatDoorZGj
import Derived.Deep.DeepCutAuto
import Derived.Deep.LoopGhost
import Derived.BigQuiet
import Derived.IntWalk
set_option linter.unusedVariables false
set_option linter.unusedSimpArgs false
namespace Go.Proofs.YtcaigeikdnoheaaGreatDoor.Fp
open Go.RowKit Go.Proofs.YtcaigeikdnoheaaGreatDoorW.PrintWords Go.Proofs.YtcaigeikdnoheaaGreatDoorW.PrintLast Go.Proofs.YtcaigeikdnoheaaGreatDoorW.PrintMore Go.Proofs.YtcaigeikdnoheaaGreatDoor.Aid Go.Proofs.YtcaigeikdnoheaaGreatDoor.J

/-- Is the number of backslashes right ahead odd? -/
def par : Bool → L → Bool
  | o, [] => o
  | o, c :: t => par (c == 92 && !o) t
def tbr : L → Nat
  | [] => 0
  | c :: q => if c = 92 then tbr q + 1 else 0
def tb (p : L) : Nat := tbr p.reverse
theorem par_snoc : ∀ (p : L) (o : Bool) (c : Int), par o (p ++ [c]) = (c == 92 && !(par o p))
  | [], o, c => rfl
  | d :: p, o, c => by rw [List.cons_append, par, par, par_snoc p]
theorem par_tbr : ∀ (q : L), par false q.reverse = (tbr q % 2 == 1)
  | [] => rfl
  | c :: q => by
    rw [List.reverse_cons, par_snoc, par_tbr q, tbr]
    by_cases h : c = 92
    · rw [if_pos h, beq_iff_eq.mpr h, Bool.true_and]
      rcases Nat.mod_two_eq_zero_or_one (tbr q) with e | e
      · rw [e, show (tbr q + 1) % 2 = 1 by omega]; rfl
      · rw [e, show (tbr q + 1) % 2 = 0 by omega]; rfl
    · rw [if_neg h, beq_eq_false_iff_ne.mpr h, Bool.false_and]; rfl
theorem par_tb (p : L) : par false p = (tb p % 2 == 1) := by
  have := par_tbr p.reverse
  rw [List.reverse_reverse] at this
  exact this
theorem tbr_spec : ∀ (q : L), tbr q ≤ q.length ∧ (∀ k, k < tbr q → q[k]? = some 92) ∧ q[tbr q]? ≠ some 92
  | [] => ⟨Nat.le_refl _, fun k h => (by unfold tbr at h; omega), by simp⟩
  | c :: q => by
    obtain ⟨h1, h2, h3⟩ := tbr_spec q
    rw [tbr]
    by_cases h : c = 92
    · rw [if_pos h]
      refine ⟨by simp; omega, fun k hk => ?_, by rw [List.getElem?_cons_succ]; exact h3⟩
      cases k with
      | zero => rw [List.getElem?_cons_zero, h]
      | succ k => rw [List.getElem?_cons_succ]; exact h2 k (by omega)
    · rw [if_neg h]
      exact ⟨Nat.zero_le _, fun k hk => absurd hk (by omega), by rw [List.getElem?_cons_zero]; intro e; exact h (Option.some.inj e)⟩
theorem tb_le (p : L) : tb p ≤ p.length := by have := (tbr_spec p.reverse).1; rw [List.length_reverse] at this; exact this
theorem tb_in (p : L) (k : Nat) (h0 : p.length - tb p ≤ k) (h1 : k < p.length) : p[k]? = some 92 := by
  have := (tbr_spec p.reverse).2.1 (p.length - 1 - k) (by have := tb_le p; unfold tb at *; omega)
  rw [List.getElem?_reverse (by omega)] at this
  rw [← this]
  congr 1
  omega
theorem tb_out (p : L) (h : tb p < p.length) : p[p.length - tb p - 1]? ≠ some 92 := by
  have := (tbr_spec p.reverse).2.2
  rw [List.getElem?_reverse (by unfold tb at h; omega)] at this
  intro e
  apply this
  rw [← e]
  congr 1
  unfold tb
  omega
theorem tb_pos (p : L) (h0 : 0 < p.length) (h : p[p.length - 1]? = some 92) : 0 < tb p := by
  rcases Nat.eq_zero_or_pos (tb p) with e | e
  · have := tb_out p (by omega)
    rw [e] at this
    exact absurd h this
  · exact e
theorem tb_zero (p : L) (h : p[p.length - 1]? ≠ some 92) : tb p = 0 := by
  rcases Nat.eq_zero_or_pos (tb p) with e | e
  · exact e
  · exact absurd (tb_in p (p.length - 1) (by omega) (by have := tb_le p; omega)) h
theorem rs_q : ∀ (p : L) (o : Bool) (t : L), 34 ∉ p → rs o (p ++ 34 :: t) = if par o p = false then some (p, t) else (rs false t).map fun x => (p ++ 34 :: x.1, x.2)
  | [], o, t, h => by
    rw [List.nil_append, rs, par]
    cases o with
    | false => rw [if_pos ⟨rfl, rfl⟩, if_pos rfl]
    | true => rw [if_neg (by simp), if_neg (by decide)]; rfl
  | c :: p, o, t, h => by
    rw [List.mem_cons, not_or] at h
    rw [List.cons_append, rs, if_neg (fun e => h.1 e.1.symm), rs_q p _ t h.2, par]
    split
    · rfl
    · rw [Option.map_map]; rfl
theorem rs_no : ∀ (p : L) (o : Bool), 34 ∉ p → rs o p = none
  | [], o, h => rfl
  | c :: p, o, h => by
    rw [List.mem_cons, not_or] at h
    rw [rs, if_neg (fun e => h.1 e.1.symm), rs_no p _ h.2]; rfl
/-- Up to a quotation mark behind an even number of backslashes, or behind an odd one. -/
theorem rs_even {p t : L} (h : 34 ∉ p) (he : tb p % 2 = 0) : rs false (p ++ 34 :: t) = some (p, t) := by
  rw [rs_q p false t h, par_tb, he]; rfl
theorem rs_odd {p t : L} (h : 34 ∉ p) (he : tb p % 2 = 1) : rs false (p ++ 34 :: t) = (rs false t).map fun x => (p ++ 34 :: x.1, x.2) := by
  rw [rs_q p false t h, par_tb, he]; rfl

theorem ix (s : ByteArray) (i : Int) (h0 : 0 ≤ i) (h1 : i < s.size) (W : World) : (Instr.index 9 (.string s) (.int .i64 i)).run Tryz.prog W = .ok (.int .u8 (bt s i)) W := by
  rw [run_index_string _ _ _ _ _ Tryz.underlying9, dif_pos ⟨h0, h1⟩]
  unfold bt
  rw [dif_pos (by omega)]
theorem sl_toI (s : ByteArray) (e : Int) (h0 : 0 ≤ e) (h2 : e ≤ s.size) (W : World) : (Instr.slice 9 (.string s) none (some (.int .i64 e)) none).run Tryz.prog W = .ok (.string (s.extract 0 e.toNat)) W := by
  obtain ⟨k, rfl⟩ : ∃ k : Nat, e = k := ⟨e.toNat, by omega⟩
  rw [Int.toNat_natCast]
  exact sl_to s k (by omega) W
theorem sl_fromI (s : ByteArray) (e : Int) (h0 : 0 ≤ e) (h2 : e ≤ s.size) (W : World) : (Instr.slice 9 (.string s) (some (.int .i64 e)) none none).run Tryz.prog W = .ok (.string (s.extract e.toNat s.size)) W := by
  obtain ⟨k, rfl⟩ : ∃ k : Nat, e = k := ⟨e.toNat, by omega⟩
  rw [Int.toNat_natCast]
  exact sl_from s k (by omega) W
theorem ext_to (s : ByteArray) (p r : L) (h : bytesOf s = p ++ r) : s.extract 0 p.length = strOfNums p := by
  rw [← str_of_bytes (s.extract 0 p.length), bytesOf_extract, h]
  simp
theorem ext_from (s : ByteArray) (p r : L) (h : bytesOf s = p ++ r) : s.extract p.length s.size = strOfNums r := by
  rw [← str_of_bytes (s.extract p.length s.size), by_from, h, List.drop_left' rfl]
theorem bt_of (s : ByteArray) (l : L) (h : bytesOf s = l) (k : Nat) (hk : k < l.length) : l[k]? = some (bt s (k : Int)) := by
  subst h
  exact bytesOf_get? s k (by rw [bytesOf_length] at hk; exact hk)
/-- The first quotation mark. -/
theorem index_q (s : ByteArray) : (∃ p r, bytesOf s = p ++ 34 :: r ∧ 34 ∉ p ∧ Lib.indexByte s.data.toList (34 : Int).toNat.toUInt8 = (p.length : Int)) ∨ (34 ∉ bytesOf s ∧ Lib.indexByte s.data.toList (34 : Int).toNat.toUInt8 = -1) := by
  have key : ∀ (l : List UInt8), (∃ p r, (l.map fun b => (b.toNat : Int)) = p ++ 34 :: r ∧ 34 ∉ p ∧ Lib.indexByte l 34 = (p.length : Int)) ∨ (34 ∉ (l.map fun b => (b.toNat : Int)) ∧ Lib.indexByte l 34 = -1) := by
    intro l
    induction l with
    | nil => exact .inr ⟨by simp, rfl⟩
    | cons b t ih =>
      by_cases hb : b = 34
      · subst hb
        exact .inl ⟨[], t.map fun b => (b.toNat : Int), rfl, by simp, rfl⟩
      · have hn : (b.toNat : Int) ≠ 34 := fun h => hb (by
          have : b.toNat = 34 := by omega
          exact UInt8.toNat_inj.1 this)
        have hb' : (b == 34) = false := beq_eq_false_iff_ne.mpr hb
        rcases ih with ⟨p, r, e1, e2, e3⟩ | ⟨e1, e2⟩
        · refine .inl ⟨(b.toNat : Int) :: p, r, ?_, ?_, ?_⟩
          · rw [List.map_cons, e1]; rfl
          · rw [List.mem_cons, not_or]; exact ⟨fun h => hn h.symm, e2⟩
          · unfold Lib.indexByte
            rw [hb', if_neg (by decide), e3, if_neg (by simp), List.length_cons]; rfl
        · refine .inr ⟨?_, ?_⟩
          · rw [List.map_cons, List.mem_cons, not_or]; exact ⟨fun h => hn h.symm, e1⟩
          · unfold Lib.indexByte
            rw [hb', if_neg (by decide), e2]; rfl
  exact key s.data.toList
/-- What a function gives that splits a text: two parts, or an error. -/
def SpPost (W : World) (r : Option (L × L)) (e : Ending) (w' : World) : Prop :=
  Below W.heap.size W w' ∧ match r with
    | some x => e = .returned (.tuple #[.string (strOfNums x.1), .string (strOfNums x.2), .nilIface])
    | none => ∃ a b N, e = .returned (.tuple #[.string a, .string b, eI N])
theorem sp_some {W : World} {x : L × L} {e : Ending} {w' : World} (hb : Below W.heap.size W w') (h : e = .returned (.tuple #[.string (strOfNums x.1), .string (strOfNums x.2), .nilIface])) : SpPost W (some x) e w' := ⟨hb, h⟩
theorem sp_none {W : World} {e : Ending} {w' : World} {a b : ByteArray} {N : Nat} (hb : Below W.heap.size W w') (h : e = .returned (.tuple #[.string a, .string b, eI N])) : SpPost W none e w' := ⟨hb, a, b, N, h⟩
theorem sp_someE {W : World} {r : Option (L × L)} {x : L × L} {e : Ending} {w' : World} (hr : r = some x) (hb : Below W.heap.size W w') (h : e = .returned (.tuple #[.string (strOfNums x.1), .string (strOfNums x.2), .nilIface])) : SpPost W r e w' := by rw [hr]; exact sp_some hb h
theorem sp_noneE {W : World} {r : Option (L × L)} {e : Ending} {w' : World} {a b : ByteArray} {N : Nat} (hr : r = none) (hb : Below W.heap.size W w') (h : e = .returned (.tuple #[.string a, .string b, eI N])) : SpPost W r e w' := by rw [hr]; exact sp_none hb h
/-- The state at the head of the loop over quotation marks behind backslashes. -/
def QH (s0 : ByteArray) (K : Nat) (v0 v5 : Value) : Prop := ∃ (sq : ByteArray) (pre p t : L), v0 = .string sq ∧ v5 = .int .i64 ((p.length : Nat) : Int) ∧ sq.size = K ∧ bytesOf s0 = pre ++ bytesOf sq ∧ bytesOf sq = p ++ 34 :: t ∧ 34 ∉ p ∧ 0 < p.length ∧ p[p.length - 1]? = some 92 ∧ rs false (bytesOf s0) = (rs false (bytesOf sq)).map fun x => (pre ++ x.1, x.2)
set_option maxHeartbeats 8000000 in
set_option maxRecDepth 100000 in
theorem rawStr_any (s0 : ByteArray) (hs : s0.size ≤ 100000) (w : World) : Calls Tryz.prog 95 #[.string s0] w (SpPost w (rs false (bytesOf s0))) := by
  have hz := bytesOf_length s0
  rcases index_q s0 with ⟨p, t, hp, hnp, hix⟩ | ⟨hno, hix⟩
  · have HIX := Lib.hid (fun W => Tryz.strings_IndexByte s0 34 W)
    rw [hix] at HIX
    obtain ⟨n, hn⟩ : ∃ n, n = p.length := ⟨_, rfl⟩
    rw [← hn] at HIX
    have hlen : n + 1 + t.length = s0.size := by rw [← hz, hp, hn]; simp; omega
    have hnb : (n : Int) + 1 ≤ (s0.size : Int) := by omega
    have hd0 : decide ((n : Int) < 0) = false := decide_eq_false (by omega)
    have k1 : ∀ W : World, (Instr.slice 9 (.string s0) none (some (.int .i64 (n : Int))) none).run Tryz.prog W = .ok (.string (strOfNums p)) W := fun W => by rw [sl_to s0 n (by omega), hn, ext_to s0 p _ hp]
    have hwr : IntKind.i64.wrap ((n : Int) + 1) = (n : Int) + 1 := IntWalk.i64_in _ (by omega)
    have k2 : ∀ W : World, (Instr.slice 9 (.string s0) (some (.int .i64 ((n : Int) + 1))) none none).run Tryz.prog W = .ok (.string (strOfNums t)) W := fun W => by
      rw [sl_fromI s0 _ (by omega) (by omega), show ((n : Int) + 1).toNat = (p ++ [34]).length by rw [List.length_append, ← hn]; simp, ext_from s0 (p ++ [34]) t (by rw [hp]; simp)]
    rcases Nat.eq_zero_or_pos n with h0 | h0
    · have ht0 : tb p = 0 := by have := tb_le p; omega
      have HR := Lib.hid (rs_even (t := t) hnp (by rw [ht0]))
      rw [hp, HR.out]
      have e0 : ((n : Int) == 0) = true := beq_iff_eq.mpr (by omega)
      clear hlen hp hnp hix hz hs hn ht0 HR h0
      go_enter Tryz.func95, Tryz.ntmps95
      go_upto_region 5 with (go_at_call 114; refine (HIX.out _).mono ?_; rintro e w1 ⟨rfl, hw⟩; replace hw := hw.symm; subst hw)
      go_quiet (fail)
      go_wp2
      go_ret3
      exact sp_some (pw_below_drewN (Below.refl _ _) _) rfl
    have e0 : ((n : Int) == 0) = false := beq_eq_false_iff_ne.mpr (by omega)
    have hwm : IntKind.i64.wrap ((n : Int) - 1) = (n : Int) - 1 := IntWalk.i64_in _ (by omega)
    have hlast : p[p.length - 1]? = some (bt s0 ((n : Int) - 1)) := by
      have := bt_of s0 _ hp (p.length - 1) (by simp; omega)
      rw [List.getElem?_append_left (by omega)] at this
      rw [this, ← hn, show ((n - 1 : Nat) : Int) = (n : Int) - 1 by omega]
    have ki : ∀ W : World, (Instr.index 9 (.string s0) (.int .i64 ((n : Int) - 1))).run Tryz.prog W = .ok (.int .u8 (bt s0 ((n : Int) - 1))) W := fun W => ix s0 _ (by omega) (by omega) W
    by_cases h92 : bt s0 ((n : Int) - 1) = 92
    · rw [h92] at hlast ki
      have H0 : Hid (QH s0 s0.size (.string s0) (.int .i64 (n : Int))) := Lib.hid ⟨s0, [], p, t, rfl, by rw [hn], rfl, rfl, hp, hnp, by omega, hlast, by simp⟩
      have HS := Lib.hid hs
      obtain ⟨goal, hgoal⟩ : ∃ g, g = rs false (bytesOf s0) := ⟨_, rfl⟩
      rw [← hgoal]
      have HGL := Lib.hid hgoal
      clear hlen hp hnp hix hz hs hn h0 hlast h92 hgoal k1 k2 hwr hnb
      go_enter Tryz.func95, Tryz.ntmps95
      go_upto_region 6 with (go_at_call 114; refine (HIX.out _).mono ?_; rintro e w1 ⟨rfl, hw⟩; replace hw := hw.symm; subst hw)
      go_wp2
      clear e0 hwm ki hd0 HIX
      go_loopg [0, 5] s0.size (fun kq v0 v5 w' => Hid (QH s0 kq v0 v5 ∧ Below w.heap.size w w'))
      case atStart => exact Lib.hid ⟨H0.out, Below.refl _ _⟩
      case round =>
        obtain ⟨⟨sq, pre, p, t, rfl, rfl, rfl, hpre, hq, hnp, h0, hlast, hrs⟩, hB⟩ := hrel.out
        have HB := Lib.hid hB
        clear hrel H0 hB
        have hz := bytesOf_length sq
        obtain ⟨n, hn⟩ : ∃ n, n = p.length := ⟨_, rfl⟩
        rw [← hn]
        have hlen : n + 1 + t.length = sq.size := by rw [← hz, hq, hn]; simp; omega
        have hsz : sq.size ≤ 100000 := by
          have h1 := congrArg List.length hpre
          rw [List.length_append, bytesOf_length, bytesOf_length] at h1
          have := HS.out
          omega
        obtain ⟨T, hT⟩ : ∃ T, T = tb p := ⟨_, rfl⟩
        have hT1 := tb_le p
        have hT0 := tb_pos p h0 hlast
        rw [← hT, ← hn] at hT1
        rw [← hT] at hT0
        have HIN : Hid (∀ k : Nat, n - T ≤ k → k < n → bt sq (k : Int) = 92) := Lib.hid fun k g1 g2 => by
          have g3 := tb_in p k (by rw [← hT, ← hn]; exact g1) (by omega)
          have := bt_of sq _ hq k (by simp; omega)
          rw [List.getElem?_append_left (by omega), g3] at this
          exact (Option.some.inj this).symm
        have HOUT : Hid (∀ k : Nat, k + 1 = n - T → bt sq (k : Int) ≠ 92) := Lib.hid fun k g1 e => by
          have g3 := tb_out p (by rw [← hT, ← hn]; omega)
          have := bt_of sq _ hq k (by simp; omega)
          rw [List.getElem?_append_left (by omega), e, show k = p.length - tb p - 1 by rw [← hT, ← hn]; omega] at this
          exact g3 this
        have HX := Lib.hid (And.intro hpre (And.intro hq (And.intro hnp hrs)))
        have hwm : IntKind.i64.wrap ((n : Int) - 1) = (n : Int) - 1 := IntWalk.i64_in _ (by omega)
        have HL := Lib.hid hlen
        have HN := Lib.hid hn
        have HT := Lib.hid hT
        clear hpre hq hnp hrs hlast hz hlen hn hT h0
        have hnb : (n : Int) ≤ 100000 := by have := HL.out; omega
        have hns : (n : Int) + 1 ≤ (sq.size : Int) := by have := HL.out; omega
        go_upto_block 2 with (fail)
        go_cut [7] from 33 to 43 (fun v7 W => Hid (v7 = .int .i64 ((n : Int) - (T : Int)) ∧ W = wr))
        case first =>
          clear HX HL HT HGL hwm
          go_wp2
          go_loop [7] (fun v7 => ∃ j : Nat, v7 = .int .i64 ((j : Nat) : Int) ∧ n - T ≤ j ∧ j < n) (fun v7 => (intOf v7).toNat)
          case atStart => exact ⟨n - 1, by congr 1; omega, by omega, by omega⟩
          case round =>
            obtain ⟨j, rfl, hj1, hj2⟩ := hrel
            rcases Nat.lt_or_ge (n - T) j with g | g
            · have k1 : ∀ W : World, (Instr.index 9 (.string sq) (.int .i64 ((j : Int) - 1))).run Tryz.prog W = .ok (.int .u8 92) W := fun W => by
                rw [ix sq _ (by omega) (by omega) W, show (j : Int) - 1 = ((j - 1 : Nat) : Int) by omega, HIN.out (j - 1) (by omega) (by omega)]
              have d1 : decide ((0 : Int) < (j : Int)) = true := decide_eq_true (by omega)
              have hwj : IntKind.i64.wrap ((j : Int) - 1) = (j : Int) - 1 := IntWalk.i64_in _ (by omega)
              clear HIN HOUT
              go_wp2
              go_round
              case rel => exact ⟨j - 1, by congr 1; omega, by omega, by omega⟩
              case measure => simp [intOf]; omega
            · obtain rfl : j = n - T := by omega
              by_cases hz : n - T = 0
              · have d1 : decide ((0 : Int) < ((n - T : Nat) : Int)) = false := decide_eq_false (by omega)
                clear HIN HOUT
                go_wp2
                go_meet
                case rel => exact Lib.hid ⟨by congr 1; omega, rfl⟩
              · obtain ⟨j, hj⟩ : ∃ j, j = n - T := ⟨_, rfl⟩
                have hj2 := HOUT.out (j - 1) (by omega)
                have k1 : ∀ W : World, (Instr.index 9 (.string sq) (.int .i64 ((j : Int) - 1))).run Tryz.prog W = .ok (.int .u8 (bt sq ((j : Int) - 1))) W := fun W => ix sq _ (by omega) (by omega) W
                have e9 : (bt sq ((j : Int) - 1) == 92) = false := beq_eq_false_iff_ne.mpr (by rw [show (j : Int) - 1 = ((j - 1 : Nat) : Int) by omega]; exact hj2)
                generalize bt sq ((j : Int) - 1) = c at k1 e9
                have d1 : decide ((0 : Int) < (j : Int)) = true := decide_eq_true (by omega)
                have hwj : IntKind.i64.wrap ((j : Int) - 1) = (j : Int) - 1 := IntWalk.i64_in _ (by omega)
                rw [← hj]
                have HJ := Lib.hid hj
                have hj0 : 0 < j := by omega
                clear HIN HOUT hz hj hj2 hj1
                go_wp2
                go_meet
                case rel => exact Lib.hid ⟨by congr 1; have := HJ.out; omega, rfl⟩
        case rest =>
          obtain ⟨rfl, rfl⟩ := hcut.out
          clear hcut HIN HOUT
          have hsub : IntKind.i64.wrap ((n : Int) - ((n : Int) - (T : Int))) = (T : Int) := by rw [show (n : Int) - ((n : Int) - (T : Int)) = T by omega]; exact IntWalk.i64_in _ (by omega)
          have hpl : pre.length + sq.size = s0.size := by
            have := congrArg List.length HX.out.1
            rw [List.length_append, bytesOf_length, bytesOf_length] at this
            exact this.symm
          have h100 := HS.out
          have hw1 : IntKind.i64.wrap ((n : Int) + 1) = (n : Int) + 1 := IntWalk.i64_in _ (by omega)
          rcases Nat.mod_two_eq_zero_or_one T with hpar | hpar
          · have eT : ((T : Int) % 2 == 0) = true := beq_iff_eq.mpr (by omega)
            have hg : goal = some (pre ++ p, t) := by
              obtain ⟨h1, h2, h3, h4⟩ := HX.out
              rw [HGL.out, h4, h2, rs_even h3 (by rw [← HT.out]; exact hpar)]; rfl
            have Hg := Lib.hid hg
            have hw2 : IntKind.i64.wrap ((s0.size : Int) - (sq.size : Int)) = (s0.size : Int) - (sq.size : Int) := IntWalk.i64_in _ (by omega)
            have hw3 : IntKind.i64.wrap ((s0.size : Int) - (sq.size : Int) + (n : Int)) = (s0.size : Int) - (sq.size : Int) + (n : Int) := IntWalk.i64_in _ (by omega)
            have k1 : ∀ W : World, (Instr.slice 9 (.string s0) none (some (.int .i64 ((s0.size : Int) - (sq.size : Int) + (n : Int)))) none).run Tryz.prog W = .ok (.string (strOfNums (pre ++ p))) W := fun W => by
              rw [sl_toI s0 _ (by omega) (by omega), show ((s0.size : Int) - (sq.size : Int) + (n : Int)).toNat = (pre ++ p).length by rw [List.length_append, ← HN.out]; omega, ext_to s0 (pre ++ p) (34 :: t) (by rw [HX.out.1, HX.out.2.1, List.append_assoc])]
            have k2 : ∀ W : World, (Instr.slice 9 (.string sq) (some (.int .i64 ((n : Int) + 1))) none none).run Tryz.prog W = .ok (.string (strOfNums t)) W := fun W => by
              rw [sl_fromI sq _ (by omega) (by omega), show ((n : Int) + 1).toNat = (p ++ [34]).length by rw [List.length_append, ← HN.out]; simp, ext_from sq (p ++ [34]) t (by rw [HX.out.2.1]; simp)]
            clear HGL HX hg hpar hpl
            go_upto_region 11 with (fail)
            go_quiet (fail)
            go_wp2
            go_ret3
            exact sp_someE Hg.out (below_step HB.out (pw_below_drewN (Below.refl _ _) _)) rfl
          · have eT : ((T : Int) % 2 == 0) = false := beq_eq_false_iff_ne.mpr (by omega)
            obtain ⟨s1, hs1⟩ : ∃ s1, s1 = strOfNums t := ⟨_, rfl⟩
            have b1 : bytesOf s1 = t := by
              rw [hs1, bytes_of_str]
              intro x hx
              have := bytesOf_range sq x (by rw [HX.out.2.1]; simp [hx])
              exact this
            have k1 : ∀ W : World, (Instr.slice 9 (.string sq) (some (.int .i64 ((n : Int) + 1))) none none).run Tryz.prog W = .ok (.string s1) W := fun W => by
              rw [hs1, sl_fromI sq _ (by omega) (by omega), show ((n : Int) + 1).toNat = (p ++ [34]).length by rw [List.length_append, ← HN.out]; simp, ext_from sq (p ++ [34]) t (by rw [HX.out.2.1]; simp)]
            have hz1 : s1.size = t.length := by rw [← b1, bytesOf_length]
            have hg : goal = (rs false t).map fun x => (pre ++ (p ++ 34 :: x.1), x.2) := by
              obtain ⟨h1, h2, h3, h4⟩ := HX.out
              rw [HGL.out, h4, h2, rs_odd h3 (by rw [← HT.out]; exact hpar), Option.map_map]; rfl
            rcases index_q s1 with ⟨p2, t2, hp2, hnp2, hix⟩ | ⟨hno, hix⟩
            · have HIX := Lib.hid (fun W => Tryz.strings_IndexByte s1 34 W)
              rw [hix] at HIX
              obtain ⟨n2, hn2⟩ : ∃ n2, n2 = p2.length := ⟨_, rfl⟩
              rw [← hn2] at HIX
              have hz2 := bytesOf_length s1
              have hlen2 : n2 + 1 + t2.length = s1.size := by rw [← hz2, hp2, hn2]; simp; omega
              have hs12 : s1.size + n + 1 = sq.size := by have := HL.out; omega
              have hd2 : decide ((n2 : Int) < 0) = false := decide_eq_false (by omega)
              have hw4 : IntKind.i64.wrap ((n2 : Int) + 1) = (n2 : Int) + 1 := IntWalk.i64_in _ (by omega)
              have hw2 : IntKind.i64.wrap ((s0.size : Int) - (s1.size : Int)) = (s0.size : Int) - (s1.size : Int) := IntWalk.i64_in _ (by omega)
              have hw3 : IntKind.i64.wrap ((s0.size : Int) - (s1.size : Int) + (n2 : Int)) = (s0.size : Int) - (s1.size : Int) + (n2 : Int) := IntWalk.i64_in _ (by omega)
              have hpre2 : bytesOf s0 = (pre ++ (p ++ [34])) ++ bytesOf s1 := by rw [HX.out.1, HX.out.2.1, b1]; simp
              have k4 : ∀ W : World, (Instr.slice 9 (.string s0) none (some (.int .i64 ((s0.size : Int) - (s1.size : Int) + (n2 : Int)))) none).run Tryz.prog W = .ok (.string (strOfNums ((pre ++ (p ++ [34])) ++ p2))) W := fun W => by
                rw [sl_toI s0 _ (by omega) (by omega), show ((s0.size : Int) - (s1.size : Int) + (n2 : Int)).toNat = ((pre ++ (p ++ [34])) ++ p2).length by
                  have := congrArg List.length hpre2
                  rw [bytesOf_length, List.length_append, bytesOf_length] at this
                  rw [List.length_append, ← hn2]; omega, ext_to s0 ((pre ++ (p ++ [34])) ++ p2) (34 :: t2) (by rw [hpre2, hp2]; simp)]
              have k5 : ∀ W : World, (Instr.slice 9 (.string s1) (some (.int .i64 ((n2 : Int) + 1))) none none).run Tryz.prog W = .ok (.string (strOfNums t2)) W := fun W => by
                rw [sl_fromI s1 _ (by omega) (by omega), show ((n2 : Int) + 1).toNat = (p2 ++ [34]).length by rw [List.length_append, ← hn2]; simp, ext_from s1 (p2 ++ [34]) t2 (by rw [hp2]; simp)]
              have hg3 : goal = (rs false (bytesOf s1)).map fun x => ((pre ++ (p ++ [34])) ++ x.1, x.2) := by
                rw [hg, b1]; congr 1; funext x; simp
              have hgE : tb p2 = 0 → goal = some (pre ++ (p ++ 34 :: p2), t2) := fun h => by
                rw [hg3, hp2, rs_even hnp2 (by rw [h])]; simp
              have HT2 := Lib.hid hpre2
              have HT3 := Lib.hid hp2
              rcases Nat.eq_zero_or_pos n2 with h0 | h0
              · have e2 : ((n2 : Int) == 0) = true := beq_iff_eq.mpr (by omega)
                have Hg := Lib.hid (hgE (by have := tb_le p2; omega))
                clear HGL HX hg hg3 hgE hpar hpl hix hs1 b1 hz1 hz2 hlen2 hs12 hpre2 hp2 hnp2 hn2 h0
                go_upto_region 17 with (go_at_call 114; refine (HIX.out _).mono ?_; rintro e w1 ⟨rfl, hw⟩; replace hw := hw.symm; subst hw)
                go_quiet (fail)
                go_wp2
                go_ret3
                exact sp_someE Hg.out (below_step HB.out (pw_below_drewN (Below.refl _ _) _)) rfl
              have e2 : ((n2 : Int) == 0) = false := beq_eq_false_iff_ne.mpr (by omega)
              have hw5 : IntKind.i64.wrap ((n2 : Int) - 1) = (n2 : Int) - 1 := IntWalk.i64_in _ (by omega)
              have hlast : p2[p2.length - 1]? = some (bt s1 ((n2 : Int) - 1)) := by
                have := bt_of s1 _ hp2 (p2.length - 1) (by simp; omega)
                rw [List.getElem?_append_left (by omega)] at this
                rw [this, ← hn2, show ((n2 - 1 : Nat) : Int) = (n2 : Int) - 1 by omega]
              have ki : ∀ W : World, (Instr.index 9 (.string s1) (.int .i64 ((n2 : Int) - 1))).run Tryz.prog W = .ok (.int .u8 (bt s1 ((n2 : Int) - 1))) W := fun W => ix s1 _ (by omega) (by omega) W
              by_cases h92 : bt s1 ((n2 : Int) - 1) = 92
              · rw [h92] at hlast ki
                have HQ : Hid (QH s0 s1.size (.string s1) (.int .i64 (n2 : Int))) := Lib.hid ⟨s1, _, p2, t2, rfl, by rw [hn2], rfl, hpre2, hp2, hnp2, by omega, hlast, by rw [← HGL.out]; exact hg3⟩
                have HLT := Lib.hid (show s1.size < sq.size by omega)
                clear HX hg hg3 hgE hpar hpl hix hs1 b1 hz1 hz2 hlen2 hs12 hpre2 hp2 hnp2 hn2 h0 hlast h92 k4 k5 hw2 hw3 hw4
                go_wp2_with (go_at_call 114; refine (HIX.out _).mono ?_; rintro e w1 ⟨rfl, hw⟩; replace hw := hw.symm; subst hw)
                go_roundg s1.size
                case rel => exact Lib.hid ⟨HQ.out, HB.out⟩
                case measure => exact HLT.out
              · have Hg := Lib.hid (hgE (tb_zero p2 (by rw [hlast]; intro e; exact h92 (Option.some.inj e))))
                have e9 : (bt s1 ((n2 : Int) - 1) != 92) = true := bne_iff_ne.mpr h92
                generalize bt s1 ((n2 : Int) - 1) = c at ki e9
                clear HGL HX hg hg3 hgE hpar hpl hix hs1 b1 hz1 hz2 hlen2 hs12 hpre2 hp2 hnp2 hn2 h0 hlast h92
                go_upto_region 17 with (go_at_call 114; refine (HIX.out _).mono ?_; rintro e w1 ⟨rfl, hw⟩; replace hw := hw.symm; subst hw)
                go_quiet (fail)
                go_wp2
                go_ret3
                exact sp_someE Hg.out (below_step HB.out (pw_below_drewN (Below.refl _ _) _)) rfl
            · have hg2 : goal = none := by rw [hg, ← b1, rs_no _ _ hno]; rfl
              have Hg := Lib.hid hg2
              have HIX := Lib.hid (fun W => Tryz.strings_IndexByte s1 34 W)
              rw [hix] at HIX
              clear HGL HX hg hg2 hpar hpl hno hix hs1 b1 hz1
              go_wp2_with (first
                | (go_at_call 114; refine (HIX.out _).mono ?_; rintro e w1 ⟨rfl, hw⟩; replace hw := hw.symm; subst hw)
                | (go_at_call 54; refine (new_any _ _).mono ?_; rintro e w1 ⟨⟨N, rfl⟩, hb⟩; have HB2 := Lib.hid (below_step HB.out hb); clear hb))
              go_ret3
              exact sp_noneE Hg.out HB2.out rfl
    · have ht0 : tb p = 0 := tb_zero p (by rw [hlast]; intro e; exact h92 (Option.some.inj e))
      have HR := Lib.hid (rs_even (t := t) hnp (by rw [ht0]))
      rw [hp, HR.out]
      have e9 : (bt s0 ((n : Int) - 1) != 92) = true := bne_iff_ne.mpr h92
      generalize bt s0 ((n : Int) - 1) = c at ki e9
      clear hlen hp hnp hix hz hs hn ht0 HR h0 hlast h92
      go_enter Tryz.func95, Tryz.ntmps95
      go_upto_region 5 with (go_at_call 114; refine (HIX.out _).mono ?_; rintro e w1 ⟨rfl, hw⟩; replace hw := hw.symm; subst hw)
      go_quiet (fail)
      go_wp2
      go_ret3
      exact sp_some (pw_below_drewN (Below.refl _ _) _) rfl
  · have HR := Lib.hid (rs_no (bytesOf s0) false hno)
    rw [HR.out]
    have HIX := Lib.hid (fun W => Tryz.strings_IndexByte s0 34 W)
    rw [hix] at HIX
    clear hno hix hz hs HR
    go_enter Tryz.func95, Tryz.ntmps95
    go_wp2_with (first
      | (go_at_call 114; refine (HIX.out _).mono ?_; rintro e w1 ⟨rfl, hw⟩; replace hw := hw.symm; subst hw)
      | (go_at_call 54; refine (new_any _ _).mono ?_; rintro e w1 ⟨⟨N, rfl⟩, hb⟩; have HB := Lib.hid hb; clear hb))
    go_ret3
    exact sp_none HB.out rfl
end Go.Proofs.YtcaigeikdnoheaaGreatDoor.Fp

set_option linter.unusedVariables false
set_option linter.unusedSimpArgs false
namespace Go.Proofs.YtcaigeikdnoheaaGreatDoor.Fp
open Go.RowKit Go.Proofs.YtcaigeikdnoheaaGreatDoorW.PrintWords Go.Proofs.YtcaigeikdnoheaaGreatDoorW.PrintLast Go.Proofs.YtcaigeikdnoheaaGreatDoorW.PrintMore Go.Proofs.YtcaigeikdnoheaaGreatDoor.Aid Go.Proofs.YtcaigeikdnoheaaGreatDoor.J

theorem split_at (s : ByteArray) (i : Nat) (h : i < s.size) : bytesOf s = (bytesOf s).take i ++ bt s (i : Int) :: from_ s (i + 1) := by
  have h1 := from_cons' s i h
  rw [← h1]
  exact (List.take_append_drop i (bytesOf s)).symm
theorem take_len (s : ByteArray) (i : Nat) (h : i ≤ s.size) : ((bytesOf s).take i).length = i := by rw [List.length_take, bytesOf_length]; omega
theorem take_mem (s : ByteArray) (i : Nat) (P : Int → Prop) (h : ∀ k : Nat, k < i → P (bt s (k : Int))) (hi : i ≤ s.size) : ∀ x ∈ (bytesOf s).take i, P x := by
  intro x hx
  obtain ⟨k, hk, rfl⟩ := List.mem_iff_getElem.1 hx
  have hk2 : k < i := by rw [take_len s i hi] at hk; exact hk
  have := bytesOf_get? s k (by omega)
  rw [List.getElem_take]
  rw [List.getElem?_eq_getElem (by rw [bytesOf_length]; omega)] at this
  rw [Option.some.inj this]
  exact h k hk2
theorem tb_no (p : L) (h : 92 ∉ p) : tb p = 0 := by
  apply tb_zero
  intro e
  exact h (List.mem_of_getElem? e)
def KeyI (s : ByteArray) (K : Nat) (v8 : Value) : Prop := ∃ i : Nat, v8 = .int .i64 ((i : Nat) : Int) ∧ i + K = s.size ∧ ∀ k : Nat, k < i → bt s (k : Int) ≠ 34 ∧ bt s (k : Int) ≠ 92
set_option maxHeartbeats 8000000 in
set_option maxRecDepth 100000 in
theorem rawKey_any (s : ByteArray) (hs : s.size ≤ 100000) (w : World) : Calls Tryz.prog 119 #[.string s] w (SpPost w (rs false (bytesOf s))) := by
  have HS := Lib.hid (fun W => rawStr_any s hs W)
  obtain ⟨goal, hgoal⟩ : ∃ g, g = rs false (bytesOf s) := ⟨_, rfl⟩
  rw [← hgoal] at HS ⊢
  have HGL := Lib.hid hgoal
  clear hgoal
  go_enter Tryz.func119, Tryz.ntmps119
  go_wp2
  go_loopg [8] s.size (fun kq v8 w' => Hid (KeyI s kq v8 ∧ Below w.heap.size w w'))
  case atStart => exact Lib.hid ⟨⟨0, rfl, by omega, fun k h => absurd h (by omega)⟩, Below.refl _ _⟩
  case round =>
    obtain ⟨⟨i, rfl, hi, hall⟩, hB⟩ := hrel.out
    have HB := Lib.hid hB
    have HA := Lib.hid hall
    have HI := Lib.hid hi
    clear hrel hB hall
    rcases Nat.lt_or_ge i s.size with hlt | hge
    · have hsp := split_at s i hlt
      have k1 : ∀ W : World, (Instr.index 9 (.string s) (.int .i64 (i : Int))).run Tryz.prog W = .ok (.int .u8 (bt s (i : Int))) W := fun W => ix s _ (by omega) (by omega) W
      have hn34 : 34 ∉ (bytesOf s).take i := fun h => (take_mem s i (fun x => x ≠ 34 ∧ x ≠ 92) HA.out (by omega) 34 h).1 rfl
      have hn92 : 92 ∉ (bytesOf s).take i := fun h => (take_mem s i (fun x => x ≠ 34 ∧ x ≠ 92) HA.out (by omega) 92 h).2 rfl
      by_cases h34 : bt s (i : Int) = 34
      · have Hg : Hid (goal = some ((bytesOf s).take i, from_ s (i + 1))) := Lib.hid (by
          rw [HGL.out, hsp, h34, rs_even hn34 (by rw [tb_no _ hn92])]
          rw [← h34, ← hsp])
        rw [h34] at k1
        have hw1 : IntKind.i64.wrap ((i : Int) + 1) = (i : Int) + 1 := IntWalk.i64_in _ (by omega)
        have k2 : ∀ W : World, (Instr.slice 9 (.string s) none (some (.int .i64 (i : Int))) none).run Tryz.prog W = .ok (.string (strOfNums ((bytesOf s).take i))) W := fun W => by
          have := ext_to s ((bytesOf s).take i) _ hsp
          rw [take_len s i (by omega)] at this
          rw [sl_to s i (by omega), this]
        have k3 : ∀ W : World, (Instr.slice 9 (.string s) (some (.int .i64 ((i : Int) + 1))) none none).run Tryz.prog W = .ok (.string (strOfNums (from_ s (i + 1)))) W := fun W => by
          rw [sl_fromI s _ (by omega) (by omega), show ((i : Int) + 1).toNat = i + 1 by omega, ext_str]
        have hlt' : (i : Int) < (s.size : Int) := by omega
        clear hsp hn34 hn92 h34 hi
        go_upto_region 5 with (fail)
        go_quiet (fail)
        go_wp2
        go_ret3
        exact sp_someE Hg.out (below_step HB.out (pw_below_drewN (Below.refl _ _) _)) rfl
      have e34 : (bt s (i : Int) == 34) = false := beq_eq_false_iff_ne.mpr h34
      by_cases h92 : bt s (i : Int) = 92
      · rw [h92] at k1
        have hlt' : (i : Int) < (s.size : Int) := by omega
        clear hsp hn34 hn92 h34 h92 e34 hi
        have HP : Hid (∀ W e w', SpPost W goal e w' → (∃ a b er, e = .returned (.tuple #[a, b, er])) ∧ SpPost W goal e w') := Lib.hid fun W e w' h => ⟨by
          cases hg : goal with
          | none => obtain ⟨_, a, b, N, h⟩ := (show SpPost W none e w' by rw [← hg]; exact h); exact ⟨_, _, _, h⟩
          | some x => obtain ⟨_, h⟩ := (show SpPost W (some x) e w' by rw [← hg]; exact h); exact ⟨_, _, _, h⟩, h⟩
        go_wp2_with (go_at_call 95; refine (HS.out _).mono ?_; intro e w1 hsp; obtain ⟨⟨a, b, er, rfl⟩, hq⟩ := HP.out _ _ _ hsp; have HQ := Lib.hid hq; clear hsp hq)
        go_ret3
        exact ⟨below_step HB.out HQ.out.1, HQ.out.2⟩
      have e92 : (bt s (i : Int) == 92) = false := beq_eq_false_iff_ne.mpr h92
      have FIN : Hid (KeyI s (s.size - (i + 1)) (.int .i64 ((i + 1 : Nat) : Int))) := Lib.hid ⟨i + 1, rfl, by omega, fun k hk => by
        rcases Nat.lt_or_ge k i with g | g
        · exact HA.out k g
        · obtain rfl : k = i := by omega
          exact ⟨h34, h92⟩⟩
      have hlt' : (i : Int) < (s.size : Int) := by omega
      generalize bt s (i : Int) = c at k1 e34 e92
      clear hsp hn34 hn92 h34 h92 hi
      go_wp2
      go_roundg (s.size - (i + 1))
      case rel => exact Lib.hid ⟨FIN.out, HB.out⟩
      case measure => have := HI.out; omega
    · obtain rfl : i = s.size := by omega
      have Hg : Hid (goal = none) := Lib.hid (by
        rw [HGL.out]
        refine rs_no _ _ fun h => ?_
        have := take_mem s s.size (fun x => x ≠ 34 ∧ x ≠ 92) HA.out (Nat.le_refl _) 34 (by rw [List.take_of_length_le (by rw [bytesOf_length]; exact Nat.le_refl _)]; exact h)
        exact this.1 rfl)
      clear hi hge
      go_wp2_with (go_at_call 54; refine (new_any _ _).mono ?_; rintro e w1 ⟨⟨N, rfl⟩, hb⟩; have HB2 := Lib.hid (below_step HB.out hb); clear hb)
      go_ret3
      exact sp_noneE Hg.out HB2.out rfl

theorem drop_all : ∀ (l : L), (∀ x ∈ l, nb x = true) → l.dropWhile nb = []
  | [], _ => rfl
  | c :: t, h => by rw [List.dropWhile_cons_of_pos (h c List.mem_cons_self)]; exact drop_all t fun x hx => h x (List.mem_cons_of_mem _ hx)
theorem num_end (l : L) (h : ∀ x ∈ l, nb x = true) : num l = some (l, []) := by
  have := drop_all l h
  unfold num
  simp only [this, if_pos]
theorem num_at (a : L) (c : Int) (t : L) (h : ∀ x ∈ a, nb x = true) (hc : nb c = false) :
    num (a ++ c :: t) = if a = [] ∨ a = [45] ∨ a = [43] then (if odd3 (c :: t) = true then some (a ++ (c :: t).take 3, (c :: t).drop 3) else none) else some (a, c :: t) := by
  have h1 : (a ++ c :: t).takeWhile nb = a := by
    rw [List.takeWhile_append_of_pos h, List.takeWhile_cons_of_neg (by rw [hc]; decide), List.append_nil]
  have h2 : (a ++ c :: t).dropWhile nb = c :: t := by
    rw [List.dropWhile_append_of_pos h, List.dropWhile_cons_of_neg (by rw [hc]; decide)]
  unfold num
  simp only [h1, h2]
  rw [if_neg (by simp)]
  by_cases e : a = []
  · rw [if_pos e, if_pos (show a = [] ∨ a = [45] ∨ a = [43] from Or.inl e)]
    subst e
    rfl
  · rw [if_neg e]
    by_cases e2 : a = [45] ∨ a = [43]
    · rw [if_pos e2, if_pos (show a = [] ∨ a = [45] ∨ a = [43] from Or.inr e2)]
    · rw [if_neg e2, if_neg (show ¬ (a = [] ∨ a = [45] ∨ a = [43]) by rintro (h | h); exact e h; exact e2 h)]
def NumI (s : ByteArray) (K : Nat) (v11 : Value) : Prop := ∃ i : Nat, v11 = .int .i64 ((i : Nat) : Int) ∧ i + K = s.size ∧ ∀ k : Nat, k < i → nb (bt s (k : Int)) = true
theorem nb_true {c : Int} (h : nb c = true) : (decide (48 ≤ c) = true ∧ decide (c ≤ 57) = true) ∨ c = 46 ∨ c = 45 ∨ c = 101 ∨ c = 69 ∨ c = 43 := by
  unfold nb at h
  simp only [Bool.or_eq_true, Bool.and_eq_true, beq_iff_eq] at h
  rcases h with ((((h | h) | h) | h) | h) | h
  · exact .inl h
  · exact .inr (.inl h)
  · exact .inr (.inr (.inl h))
  · exact .inr (.inr (.inr (.inl h)))
  · exact .inr (.inr (.inr (.inr (.inl h))))
  · exact .inr (.inr (.inr (.inr (.inr h))))
theorem nb_false {c : Int} (h : nb c = false) : (decide (48 ≤ c) = false ∨ (decide (48 ≤ c) = true ∧ decide (c ≤ 57) = false)) ∧ (c == 46) = false ∧ (c == 45) = false ∧ (c == 101) = false ∧ (c == 69) = false ∧ (c == 43) = false := by
  unfold nb at h
  simp only [Bool.or_eq_false_iff, Bool.and_eq_false_iff] at h
  obtain ⟨⟨⟨⟨⟨h1, h2⟩, h3⟩, h4⟩, h5⟩, h6⟩ := h
  refine ⟨?_, h2, h3, h4, h5, h6⟩
  cases e : decide (48 ≤ c) with
  | false => exact .inl rfl
  | true => rcases h1 with g | g
            · rw [e] at g; cases g
            · exact .inr ⟨rfl, g⟩
def bInf : ByteArray := ⟨#[105, 110, 102]⟩
def bNan : ByteArray := ⟨#[110, 97, 110]⟩
set_option maxHeartbeats 16000000 in
set_option maxRecDepth 100000 in
theorem rawNum_any (s : ByteArray) (hs : s.size ≤ 100000) (h0 : 0 < s.size) (w : World) : Calls Tryz.prog 97 #[.string s] w (SpPost w (num (bytesOf s))) := by
  obtain ⟨goal, hgoal⟩ : ∃ g, g = num (bytesOf s) := ⟨_, rfl⟩
  rw [← hgoal]
  have HGL := Lib.hid hgoal
  clear hgoal
  go_enter Tryz.func97, Tryz.ntmps97
  go_wp2
  go_loopg [0, 11] s.size (fun kq v0 v11 w' => Hid ((NumI s kq v11 ∧ Below w.heap.size w w') ∧ v0 = .string s))
  case atStart => exact Lib.hid ⟨⟨⟨0, rfl, by omega, fun k h => absurd h (by omega)⟩, Below.refl _ _⟩, rfl⟩
  case round =>
    obtain ⟨⟨⟨i, rfl, hi, hall⟩, hB⟩, rfl⟩ := hrel.out
    have HB := Lib.hid hB
    have HA := Lib.hid hall
    have HI := Lib.hid hi
    clear hrel hB hall
    rcases Nat.lt_or_ge i s.size with hlt | hge
    · have hsp := split_at s i hlt
      have k1 : ∀ W : World, (Instr.index 9 (.string s) (.int .i64 (i : Int))).run Tryz.prog W = .ok (.int .u8 (bt s (i : Int))) W := fun W => ix s _ (by omega) (by omega) W
      have hlt' : (i : Int) < (s.size : Int) := by omega
      cases hc : nb (bt s (i : Int)) with
      | true =>
        have FIN : Hid (NumI s (s.size - (i + 1)) (.int .i64 ((i + 1 : Nat) : Int))) := Lib.hid ⟨i + 1, rfl, by omega, fun k hk => by
          rcases Nat.lt_or_ge k i with g | g
          · exact HA.out k g
          · obtain rfl : k = i := by omega
            exact hc⟩
        generalize bt s (i : Int) = c at k1 hc hsp
        clear hsp hi h0
        rcases nb_true hc with ⟨d1, d2⟩ | rfl | rfl | rfl | rfl | rfl
        all_goals
          clear hc
          go_wp2
          go_roundg (s.size - (i + 1))
          case rel => exact Lib.hid ⟨⟨FIN.out, HB.out⟩, rfl⟩
          case measure => have := HI.out; omega
      | false =>
        have hav : ∀ x ∈ (bytesOf s).take i, nb x = true := take_mem s i (fun x => nb x = true) HA.out (by omega)
        have hnum := num_at ((bytesOf s).take i) (bt s (i : Int)) (from_ s (i + 1)) hav hc
        rw [← hsp, ← HGL.out, ← from_cons' s i hlt] at hnum
        have HNUM := Lib.hid hnum
        obtain ⟨hd, e46, e45, e101, e69, e43⟩ := nb_false hc
        have k0 : ∀ W : World, (Instr.index 9 (.string s) (.int .i64 0)).run Tryz.prog W = .ok (.int .u8 (bt s 0)) W := fun W => ix s _ (by omega) (by omega) W
        have hcase : ((((i : Int) == 0) = true ∨ (((i : Int) == 0) = false ∧ ((i : Int) == 1) = true ∧ (bt s 0 == 45) = true) ∨ (((i : Int) == 0) = false ∧ ((i : Int) == 1) = true ∧ (bt s 0 == 45) = false ∧ (bt s 0 == 43) = true)) ∧ ((bytesOf s).take i = [] ∨ (bytesOf s).take i = [45] ∨ (bytesOf s).take i = [43])) ∨ (((((i : Int) == 0) = false ∧ ((i : Int) == 1) = true ∧ (bt s 0 == 45) = false ∧ (bt s 0 == 43) = false) ∨ (((i : Int) == 0) = false ∧ ((i : Int) == 1) = false)) ∧ ¬ ((bytesOf s).take i = [] ∨ (bytesOf s).take i = [45] ∨ (bytesOf s).take i = [43])) := by
          by_cases i0 : i = 0
          · subst i0; exact .inl ⟨.inl rfl, .inl rfl⟩
          have e0 : ((i : Int) == 0) = false := beq_eq_false_iff_ne.mpr (by omega)
          have hne : (bytesOf s).take i ≠ [] := fun e => by have := take_len s i (by omega); rw [e] at this; simp at this; omega
          by_cases i1 : i = 1
          · subst i1
            have t1 : (bytesOf s).take 1 = [bt s 0] := by
              have := from_cons' s 0 (by omega)
              rw [show bytesOf s = from_ s 0 from rfl, this]; rfl
            rw [t1]
            by_cases c45 : bt s 0 = 45
            · exact .inl ⟨.inr (.inl ⟨e0, rfl, beq_iff_eq.mpr c45⟩), .inr (.inl (by rw [c45]))⟩
            by_cases c43 : bt s 0 = 43
            · exact .inl ⟨.inr (.inr ⟨e0, rfl, beq_eq_false_iff_ne.mpr c45, beq_iff_eq.mpr c43⟩), .inr (.inr (by rw [c43]))⟩
            refine .inr ⟨.inl ⟨e0, rfl, beq_eq_false_iff_ne.mpr c45, beq_eq_false_iff_ne.mpr c43⟩, ?_⟩
            rintro (h | h | h)
            · cases h
            · injection h with h; exact c45 h
            · injection h with h; exact c43 h
          · have e1 : ((i : Int) == 1) = false := beq_eq_false_iff_ne.mpr (by omega)
            refine .inr ⟨.inr ⟨e0, e1⟩, ?_⟩
            have hl := take_len s i (by omega)
            rintro (h | h | h)
            · exact hne h
            · rw [h] at hl; simp at hl; omega
            · rw [h] at hl; simp at hl; omega
        have kto : ∀ W : World, (Instr.slice 9 (.string s) none (some (.int .i64 (i : Int))) none).run Tryz.prog W = .ok (.string (strOfNums ((bytesOf s).take i))) W := fun W => by
          have := ext_to s ((bytesOf s).take i) _ hsp
          rw [take_len s i (by omega)] at this
          rw [sl_to s i (by omega), this]
        have kfrom : ∀ W : World, (Instr.slice 9 (.string s) (some (.int .i64 (i : Int))) none none).run Tryz.prog W = .ok (.string (strOfNums (from_ s i))) W := fun W => by
          rw [sl_from s _ (by omega), ext_str]
        generalize hcc : bt s (i : Int) = c at k1 hc hsp hd e46 e45 e101 e69 e43
        generalize bt s 0 = c0 at k0 hcase
        rcases hcase with ⟨hx, ha⟩ | ⟨hx, ha⟩
        · rw [if_pos ha] at hnum
          have hfl : (from_ s i).length = s.size - i := from_len s i
          have hsl : ((s.extract i s.size).size : Int) = (s.size : Int) - (i : Int) := by rw [ByteArray.size_extract]; omega
          by_cases h3 : i + 3 ≤ s.size
          · have d3 : decide ((3 : Int) ≤ ((strOfNums (from_ s i)).size : Int)) = true := decide_eq_true (by rw [← ext_str, hsl]; omega)
            obtain ⟨xs, hxs⟩ : ∃ xs, xs = s.extract i (i + 3) := ⟨_, rfl⟩
            have bxs : bytesOf xs = (from_ s i).take 3 := by rw [hxs, bytesOf_extract, Nat.add_sub_cancel_left]; rfl
            have zxs : xs.size = 3 := by rw [← bytesOf_length, bxs, List.length_take, hfl]; omega
            have hw3 : IntKind.i64.wrap ((i : Int) + 3) = (i : Int) + 3 := IntWalk.i64_in _ (by omega)
            have kmid : ∀ W : World, (Instr.slice 9 (.string s) (some (.int .i64 (i : Int))) (some (.int .i64 ((i : Int) + 3))) none).run Tryz.prog W = .ok (.string xs) W := fun W => by
              have := sl_mid s i (i + 3) (by omega) h3 W
              rw [← hxs] at this
              exact this
            have kto3 : ∀ W : World, (Instr.slice 9 (.string s) none (some (.int .i64 ((i : Int) + 3))) none).run Tryz.prog W = .ok (.string (strOfNums ((bytesOf s).take i ++ (from_ s i).take 3))) W := fun W => by
              have e1 : bytesOf s = ((bytesOf s).take i ++ (from_ s i).take 3) ++ (from_ s i).drop 3 := by
                rw [List.append_assoc, List.take_append_drop]; exact (List.take_append_drop i (bytesOf s)).symm
              have := ext_to s _ _ e1
              rw [List.length_append, take_len s i (by omega), List.length_take, hfl, Nat.min_eq_left (by omega)] at this
              rw [sl_toI s _ (by omega) (by omega), show ((i : Int) + 3).toNat = i + 3 by omega, this]
            have kfrom3 : ∀ W : World, (Instr.slice 9 (.string s) (some (.int .i64 ((i : Int) + 3))) none none).run Tryz.prog W = .ok (.string (strOfNums ((from_ s i).drop 3))) W := fun W => by
              rw [sl_fromI s _ (by omega) (by omega), show ((i : Int) + 3).toNat = i + 3 by omega, ext_str]
              unfold from_
              rw [List.drop_drop]
            have HF1 := Lib.hid (fun W => fold_any xs bInf W (by omega) (by rw [zxs]; rfl))
            have HF2 := Lib.hid (fun W => fold_any xs bNan W (by omega) (by rw [zxs]; rfl))
            rw [bxs] at HF1 HF2
            have hod : odd3 (from_ s i) = ((((from_ s i).take 3).map low == bytesOf bInf) || (((from_ s i).take 3).map low == bytesOf bNan)) := by
              have dd : decide (3 ≤ (from_ s i).length) = true := decide_eq_true (by omega)
              unfold odd3 fold3
              rw [dd, Bool.true_and, Bool.true_and]
              rfl
            rw [hod] at hnum
            obtain ⟨b1, hb1⟩ : ∃ b, b = (((from_ s i).take 3).map low == bytesOf bInf) := ⟨_, rfl⟩
            obtain ⟨b2, hb2⟩ : ∃ b, b = (((from_ s i).take 3).map low == bytesOf bNan) := ⟨_, rfl⟩
            rw [← hb1, ← hb2] at hnum
            rw [← hb1] at HF1
            rw [← hb2] at HF2
            unfold bInf at HF1
            unfold bNan at HF2
            have Hg := Lib.hid hnum
            have hi0 : (0 : Int) ≤ (i : Int) + 3 := by omega
            have hi3 : (i : Int) + 3 ≤ (s.size : Int) := by omega
            clear hsp hav hc hcc HNUM hnum ha hi h0 hod hb1 hb2 hxs bxs zxs hfl hsl h3
            rcases hx with e0 | ⟨e0, e1, e2⟩ | ⟨e0, e1, e2, e3⟩
            all_goals
              rcases hd with d1 | ⟨d1, d2⟩
              all_goals
                cases b1
                · cases b2
                  · go_wp2_with (first
                      | (go_at_call_of 96 (Value.string ⟨#[105, 110, 102]⟩); refine (HF1.out _).mono ?_; rintro e w1 ⟨rfl, nq, rfl⟩)
                      | (go_at_call_of 96 (Value.string ⟨#[110, 97, 110]⟩); refine (HF2.out _).mono ?_; rintro e w1 ⟨rfl, nq, rfl⟩)
                      | (go_at_call 54; refine (new_any _ _).mono ?_; rintro e w1 ⟨⟨N, rfl⟩, hb⟩; have HB2 := Lib.hid (below_step HB.out (below_then (pw_below_drewN (Below.refl _ _) _) (by first | exact Nat.le_refl _ | simp) hb)); clear hb))
                    go_ret3
                    exact sp_noneE Hg.out HB2.out rfl
                  · go_upto_region 10 with (first
                      | (go_at_call_of 96 (Value.string ⟨#[105, 110, 102]⟩); refine (HF1.out _).mono ?_; rintro e w1 ⟨rfl, nq, rfl⟩)
                      | (go_at_call_of 96 (Value.string ⟨#[110, 97, 110]⟩); refine (HF2.out _).mono ?_; rintro e w1 ⟨rfl, nq, rfl⟩))
                    go_quiet (fail)
                    go_wp2
                    go_ret3
                    exact sp_someE Hg.out (below_step HB.out (pw_below_drewN (pw_below_drewN (Below.refl _ _) _) _)) rfl
                · go_upto_region 10 with (first
                    | (go_at_call_of 96 (Value.string ⟨#[105, 110, 102]⟩); refine (HF1.out _).mono ?_; rintro e w1 ⟨rfl, nq, rfl⟩))
                  go_quiet (fail)
                  go_wp2
                  go_ret3
                  exact sp_someE Hg.out (below_step HB.out (pw_below_drewN (pw_below_drewN (Below.refl _ _) _) _)) rfl
          · have d3 : decide ((3 : Int) ≤ ((strOfNums (from_ s i)).size : Int)) = false := decide_eq_false (by rw [← ext_str, hsl]; omega)
            have hod : odd3 (from_ s i) = false := by
              have dd : decide (3 ≤ (from_ s i).length) = false := decide_eq_false (by omega)
              unfold odd3 fold3
              rw [dd, Bool.false_and, Bool.false_and]; rfl
            rw [hod] at hnum
            have Hg := Lib.hid hnum
            clear hsp hav hc hcc HNUM hnum ha hi h0 hod hfl hsl h3
            rcases hx with e0 | ⟨e0, e1, e2⟩ | ⟨e0, e1, e2, e3⟩
            all_goals
              rcases hd with d1 | ⟨d1, d2⟩
              all_goals
                go_wp2_with (go_at_call 54; refine (new_any _ _).mono ?_; rintro e w1 ⟨⟨N, rfl⟩, hb⟩; have HB2 := Lib.hid (below_step HB.out hb); clear hb)
                go_ret3
                exact sp_noneE Hg.out HB2.out rfl
        · rw [if_neg ha] at hnum
          have Hg := Lib.hid hnum
          clear hsp hav hc hcc HNUM hnum ha hi h0
          rcases hx with ⟨e0, e1, e2, e3⟩ | ⟨e0, e1⟩
          all_goals
            rcases hd with d1 | ⟨d1, d2⟩
            all_goals
              go_wp2
              go_ret3
              exact sp_someE Hg.out HB.out rfl
    · obtain rfl : i = s.size := by omega
      have Hg : Hid (goal = some (bytesOf s, [])) := Lib.hid (by
        rw [HGL.out]
        refine num_end _ fun x hx => ?_
        exact take_mem s s.size (fun x => nb x = true) HA.out (Nat.le_refl _) x (by rw [List.take_of_length_le (by rw [bytesOf_length]; exact Nat.le_refl _)]; exact hx))
      have e1 : s = strOfNums (bytesOf s) := (str_of_bytes s).symm
      have He := Lib.hid e1
      clear hi hge e1
      go_wp2
      go_ret3
      exact sp_someE Hg.out HB.out (by rw [← He.out]; rfl)
end Go.Proofs.YtcaigeikdnoheaaGreatDoor.Fp
