/- The walk of gjson's unescape on what the reference writes. -/
import Derived.Test.YtbpiooeklkjilaaDoorZGlA
import Derived.Deep.DeepCutAuto
import Derived.Deep.CutRange
set_option linter.unusedVariables false
set_option linter.unusedSimpArgs false
namespace Go.Proofs.YtbpiooeklkjilaaDoor.Gl
open Go.RowKit Go.Proofs.YtbpiooeklkjilaaDoorW.PrintWords Go.Proofs.YtbpiooeklkjilaaDoorW.PrintLast Go.Proofs.YtbpiooeklkjilaaDoorW.PrintMore Go.Proofs.YtbpiooeklkjilaaDoor.Aid Go.Proofs.YtbpiooeklkjilaaDoor.J

theorem bt_mid {s : ByteArray} {a b : L} {c : Int} (h : bytesOf s = a ++ c :: b) : bt s (a.length : Int) = c ∧ (a.length : Int) < s.size := by
  have hz := bytesOf_length s
  rw [h, List.length_append, List.length_cons] at hz
  have h1 := bytesOf_get? s a.length (by omega)
  rw [h, List.getElem?_append_right (Nat.le_refl _), Nat.sub_self] at h1
  exact ⟨(Option.some.inj h1).symm, by omega⟩
/-- How a byte is written. -/
theorem qz_ways (c : Int) : (∃ y, qz c = [92, y] ∧ ((c = 34 ∧ y = 34) ∨ (c = 92 ∧ y = 92) ∨ (c = 8 ∧ y = 98) ∨ (c = 12 ∧ y = 102) ∨ (c = 10 ∧ y = 110) ∨ (c = 13 ∧ y = 114) ∨ (c = 9 ∧ y = 116))) ∨
    (c < 32 ∧ qz c = [92, 117, 48, 48, 48 + c / 16, hx (c % 16)]) ∨ (32 ≤ c ∧ c ≠ 34 ∧ c ≠ 92 ∧ qz c = [c]) := by
  unfold qz
  repeat' split
  all_goals first
    | exact .inr (.inl ⟨by omega, rfl⟩)
    | exact .inr (.inr ⟨by omega, by omega, by omega, rfl⟩)
    | exact .inl ⟨_, rfl, by omega⟩
/-- A row with eight bytes more than are wanted: one is written, seven are cut off. -/
theorem out8 {w W : World} {v : Value} {a : L} (h : OutF w W v (a ++ [0, 0, 0, 0, 0, 0, 0, 0])) : ∃ (g cap : Nat) (cur : List Value), v = .slice (some ⟨g, 0, none⟩) (a.length + 8) cap ∧ Row W g cur ∧ a.length + 8 ≤ cap ∧ cap = cur.length ∧ (∀ c : Int, OutF w (W.setCell ⟨g, a.length, none⟩ (.int .u8 c)) (.slice (some ⟨g, 0, none⟩) (a.length + 1) cap) (a ++ [c])) := by
  obtain ⟨hB, g, cap, cur, rfl, hg, hR, hl, hc, hm, ht⟩ := h
  rw [List.length_append] at hl ht
  simp only [List.length_cons, List.length_nil] at hl ht
  refine ⟨g, cap, cur, by rw [List.length_append]; rfl, hR, by omega, hc, fun c => ⟨hB.setCell hg _, g, cap, cur.set a.length (.int .u8 c), by rw [List.length_append]; rfl, hg, hR.set _ _, by rw [List.length_append]; simp only [List.length_cons, List.length_nil]; omega, by rw [List.length_set]; exact hc, hm, ?_⟩⟩
  rw [List.length_append]
  simp only [List.length_cons, List.length_nil, Nat.zero_add]
  have h1 : cur.take a.length = nums .u8 a := by
    have := congrArg (List.take a.length) ht
    rw [List.take_take, Nat.min_eq_left (by omega)] at this
    rw [this]
    simp [nums]
  rw [List.take_add_one, List.take_set_of_le (Nat.le_refl _), h1, List.getElem?_set_self (by omega)]
  simp [nums]
theorem cut_hi (g m n cap : Nat) (h1 : m ≤ n) (h2 : n ≤ cap) (W : World) : (Instr.slice tBs (.slice (some ⟨g, 0, none⟩) n cap) none (some (.int .i64 (m : Int))) none).run Tryd.prog W = .ok (.slice (some ⟨g, 0, none⟩) m cap) W :=
  cut_to tBs tB .i64 Tryd.underlying35 (info_parts infoB).choose_spec.1 (some ⟨g, 0, none⟩) n cap (m : Int) (by omega) (by omega) h2 W
theorem cut_lo (g m n cap : Nat) (h1 : m ≤ n) (h2 : n ≤ cap) (h3 : m < cap) (W : World) : (Instr.slice tBs (.slice (some ⟨g, 0, none⟩) n cap) (some (.int .i64 (m : Int))) none none).run Tryd.prog W = .ok (.slice (some ⟨g, m, none⟩) (n - m) (cap - m)) W := by
  have := cut_from tBs tB .i64 Tryd.underlying35 (info_parts infoB).choose_spec.1 1 (info_parts infoB).choose_spec.2.2.1 (some ⟨g, 0, none⟩) n cap (m : Int) (by omega) (by omega) W
  rw [this]
  simp only [Int.toNat_natCast]
  rw [if_neg (by omega), Option.map_some, Nat.mul_one, add_plain]
def UeI (w W : World) (x : L) (v3 v4 : Value) (kq : Nat) : Prop := ∃ a b, x = a ++ b ∧ OutF w W v3 a ∧ v4 = .int .i64 ((qs a).length : Nat) ∧ b.length = kq
set_option maxHeartbeats 8000000 in
set_option maxRecDepth 100000 in
theorem unescape_any (s : ByteArray) (x : L) (hx : ∀ c ∈ x, 0 ≤ c ∧ c < 256) (hs : bytesOf s = qs x) (hl : s.size ≤ 100000) (w : World) :
    Calls Tryd.prog 21 #[.string s] w fun e w' => e = .returned (.string (strOfNums x)) ∧ Below w.heap.size w w' := by
  have HX := Lib.hid (And.intro hx hs)
  have hz := bytesOf_length s
  have hql := qs_len x
  rw [hs] at hz
  have HL := Lib.hid (And.intro hz hql)
  have HB0 := Lib.hid (Below.refl w.heap.size w)
  clear hx hs hz hql
  go_enter Tryd.func21, Tryd.ntmps21
  go_wp2_with (refine outF_make rfl _ _ rfl (s.size : Int) rfl (by first | rfl | (simp [go_sem]; omega)) (by omega) (by omega) HB0.out ?_; intro w1 ho; have HO := Lib.hid ho; clear ho)
  go_loopg [3, 4] x.length (fun kq v3 v4 w' => Hid (UeI w w' x v3 v4 kq))
  case atStart => exact Lib.hid ⟨[], x, rfl, HO.out, rfl, rfl⟩
  case round =>
    obtain ⟨a, b, hab, hO, rfl, hk⟩ := hrel.out
    clear hrel HO HB0
    have HAB := Lib.hid hab
    have HK := Lib.hid hk
    have hqa := qs_len a
    have hsz : (qs x).length = s.size := HL.out.1
    have hxl := HL.out.2
    have hal : a.length ≤ x.length := by rw [hab, List.length_append]; omega
    have hs := HX.out.2
    cases b with
    | nil =>
      rw [List.append_nil] at hab
      subst hab
      have ks := out_string hO
      have HO := Lib.hid hO
      obtain ⟨g, cc, rfl, _⟩ := hO.reads
      have d1 : ((qs x).length : Int) = (s.size : Int) := by omega
      rw [d1]
      clear d1 hs hO hk hqa hsz hxl hal
      go_wp2
      go_ret
      exact ⟨rfl, HO.out.1⟩
    | cons c b =>
      rw [hab, qs_append, qs_cons] at hs
      obtain ⟨p, hp⟩ : ∃ p, p = (qs a).length := ⟨_, rfl⟩
      have hc : 0 ≤ c ∧ c < 256 := HX.out.1 c (by rw [hab]; simp)
      have NX : Hid (∀ v3 W, OutF w W v3 (a ++ [c]) → UeI w W x v3 (.int .i64 ((p + (qz c).length : Nat) : Int)) (b.length)) := Lib.hid (fun v3 W ho => ⟨a ++ [c], b, by rw [hab]; simp, ho, by rw [qs_snoc, List.length_append, hp], rfl⟩)
      have HO := Lib.hid hO
      have hal2 : a.length + 8 ≤ 4294967296 := by
        have : (qs x).length ≤ 100000 := by omega
        omega
      obtain ⟨hb0, hp0⟩ : bt s (p : Int) = (qz c).headD 0 ∧ (p : Int) < s.size := by
        obtain ⟨t0, t, ht⟩ : ∃ t0 t, qz c = t0 :: t := by
          have := (qz_len c).1
          cases h : qz c with
          | nil => rw [h] at this; simp at this
          | cons t0 t => exact ⟨t0, t, rfl⟩
        rw [ht] at hs ⊢
        have := bt_mid (s := s) (a := qs a) (c := t0) (b := t ++ qs b) (by rw [hs]; rfl)
        rw [hp]
        exact this
      rw [← hp]
      rcases qz_ways c with ⟨y, hq, hy⟩ | ⟨h32, hq⟩ | ⟨h32, h34, h92, hq⟩
      · rw [hq] at hb0 NX hs
        obtain ⟨hb1, hp1⟩ : bt s ((p : Int) + 1) = y ∧ (p : Int) + 1 < s.size := by
          have := bt_mid (s := s) (a := qs a ++ [92]) (c := y) (b := qs b) (by rw [hs]; simp)
          rw [List.length_append, List.length_cons, List.length_nil, Nat.zero_add, ← hp] at this
          exact this
        have k0 : ∀ W : World, (Instr.index 9 (.string s) (.int .i64 (p : Int))).run Tryd.prog W = .ok (.int .u8 92) W := fun W => by
          have := ix s (p : Int) (by omega) hp0 W
          rwa [show bt s (p : Int) = 92 from hb0] at this
        have k1 : ∀ W : World, (Instr.index 9 (.string s) (.int .i64 ((p : Int) + 1))).run Tryd.prog W = .ok (.int .u8 y) W := fun W => by
          have := ix s ((p : Int) + 1) (by omega) hp1 W
          rwa [hb1] at this
        have hlo : a.length + 1 ≤ 4294967296 := by omega
        have d0 : decide ((p : Int) < (s.size : Int)) = true := decide_eq_true hp0
        have d1 : decide ((s.size : Int) ≤ (p : Int) + 1) = false := decide_eq_false (by omega)
        replace NX := Lib.hid (show ∀ v3 W, OutF w W v3 (a ++ [c]) → UeI w W x v3 (.int .i64 ((p : Int) + 1 + 1)) b.length from fun v3 W ho => by have := NX.out v3 W ho; rwa [show ((p + ([92, y] : L).length : Nat) : Int) = (p : Int) + 1 + 1 by simp; omega] at this)
        clear hs hO hk hqa hsz hxl hal hb0 hb1 hq hab hp hc
        rcases hy with ⟨rfl, rfl⟩ | ⟨rfl, rfl⟩ | ⟨rfl, rfl⟩ | ⟨rfl, rfl⟩ | ⟨rfl, rfl⟩ | ⟨rfl, rfl⟩ | ⟨rfl, rfl⟩
        all_goals
          go_wp2_with (first
            | (at_builtin; refine outF_row rfl (.tmp 49) (.tmp 50) rfl _ [92] a 1 1 rfl (by simp [go_sem]) rfl HO.out hlo ?_; intro v1 w1 ho; have H1 := Lib.hid ho; clear ho)
            | (at_builtin; refine outF_row rfl (.tmp 59) (.tmp 60) rfl _ [8] a 1 1 rfl (by simp [go_sem]) rfl HO.out hlo ?_; intro v1 w1 ho; have H1 := Lib.hid ho; clear ho)
            | (at_builtin; refine outF_row rfl (.tmp 64) (.tmp 65) rfl _ [12] a 1 1 rfl (by simp [go_sem]) rfl HO.out hlo ?_; intro v1 w1 ho; have H1 := Lib.hid ho; clear ho)
            | (at_builtin; refine outF_row rfl (.tmp 69) (.tmp 70) rfl _ [10] a 1 1 rfl (by simp [go_sem]) rfl HO.out hlo ?_; intro v1 w1 ho; have H1 := Lib.hid ho; clear ho)
            | (at_builtin; refine outF_row rfl (.tmp 74) (.tmp 75) rfl _ [13] a 1 1 rfl (by simp [go_sem]) rfl HO.out hlo ?_; intro v1 w1 ho; have H1 := Lib.hid ho; clear ho)
            | (at_builtin; refine outF_row rfl (.tmp 79) (.tmp 80) rfl _ [9] a 1 1 rfl (by simp [go_sem]) rfl HO.out hlo ?_; intro v1 w1 ho; have H1 := Lib.hid ho; clear ho)
            | (at_builtin; refine outF_row rfl (.tmp 84) (.tmp 85) rfl _ [34] a 1 1 rfl (by simp [go_sem]) rfl HO.out hlo ?_; intro v1 w1 ho; have H1 := Lib.hid ho; clear ho))
          go_roundg b.length
          case rel => exact Lib.hid (NX.out _ _ H1.out)
          case measure => have := HK.out; simp only [List.length_cons] at this; omega
      · rw [hq] at hb0 NX hs
        obtain ⟨hb1, hp1⟩ : bt s ((p : Int) + 1) = 117 ∧ (p : Int) + 1 < s.size := by
          have := bt_mid (s := s) (a := qs a ++ [92]) (c := 117) (b := [48, 48, 48 + c / 16, hx (c % 16)] ++ qs b) (by rw [hs]; simp)
          rw [List.length_append, List.length_cons, List.length_nil, Nat.zero_add, ← hp] at this
          exact this
        have hp6 : p + 6 ≤ s.size := by
          have h := bytesOf_length s
          rw [hs] at h
          simp only [List.length_append, List.length_cons, List.length_nil] at h
          omega
        have k0 : ∀ W : World, (Instr.index 9 (.string s) (.int .i64 (p : Int))).run Tryd.prog W = .ok (.int .u8 92) W := fun W => by
          have := ix s (p : Int) (by omega) hp0 W
          rwa [show bt s (p : Int) = 92 from hb0] at this
        have k1 : ∀ W : World, (Instr.index 9 (.string s) (.int .i64 ((p : Int) + 1))).run Tryd.prog W = .ok (.int .u8 117) W := fun W => by
          have := ix s ((p : Int) + 1) (by omega) hp1 W
          rwa [hb1] at this
        obtain ⟨s2, hs2⟩ : ∃ s2, s2 = s.extract (p + 2) s.size := ⟨_, rfl⟩
        have k2 : ∀ W : World, (Instr.slice 9 (.string s) (some (.int .i64 ((p : Int) + 1 + 1))) none none).run Tryd.prog W = .ok (.string s2) W := by rw [hs2]; exact sl_from s (p + 2) (by omega)
        have hb2 : bytesOf s2 = [48, 48, 48 + c / 16, hx (c % 16)] ++ qs b := by
          rw [hs2, by_from, hs, hp, List.drop_append, List.drop_of_length_le (by omega), List.nil_append, show (qs a).length + 2 - (qs a).length = 2 by omega]
          rfl
        have HRI := Lib.hid (fun W => runeit_any s2 c hc.1 h32 (qs b) hb2 W)
        have HSU := Lib.hid (fun W => sur_any c hc.1 h32 W)
        have hlo : a.length + 8 ≤ 4294967296 := by omega
        obtain ⟨m, hm⟩ : ∃ m, m = a.length := ⟨_, rfl⟩
        have d0 : decide ((p : Int) < (s.size : Int)) = true := decide_eq_true hp0
        have d1 : decide ((s.size : Int) ≤ (p : Int) + 1) = false := decide_eq_false (by omega)
        have d2 : decide ((s.size : Int) < (p : Int) + 1 + 5) = false := decide_eq_false (by omega)
        replace NX := Lib.hid (show ∀ v3 W, OutF w W v3 (a ++ [c]) → UeI w W x v3 (.int .i64 ((p : Int) + 6)) b.length from fun v3 W ho => NX.out v3 W ho)
        have HM := Lib.hid hm
        have hm1 : m ≤ a.length := by omega
        have hm2 : a.length ≤ m := by omega
        clear hs hO hk hqa hsz hxl hal hb0 hb1 hq hab hp hs2 hb2 hm
        go_wp2_with (first
          | (go_at_call 24; refine (HRI.out _).mono ?_; rintro e w1 ⟨rfl, hb⟩; replace HO := Lib.hid (HO.out.below hb); clear hb)
          | (go_at_call 25; refine (HSU.out _).mono ?_; rintro e w2 ⟨rfl, hd⟩; replace HO := Lib.hid (HO.out.below hd.below); clear hd)
          | (at_builtin; refine outF_row rfl (.tmp 132) (.tmp 133) rfl _ [0, 0, 0, 0, 0, 0, 0, 0] a 8 8 rfl (by simp [go_sem]) rfl HO.out hlo ?_; intro v1 w3 ho; obtain ⟨g, cap, cur, rfl, hrow, hcap, hcl, hfin⟩ := out8 ho; rw [← HM.out] at hcap hfin ⊢; have hcl1 := Nat.le_of_eq hcl; have hcl2 := Nat.le_of_eq hcl.symm; clear hcl; have kS1 := cut_lo g m (m + 8) cap (by omega) (by omega) (by omega); have kS2 := cut_hi g (m + 1) (m + 8) cap (by omega) (by omega); rw [show ((m + 1 : Nat) : Int) = (m : Int) + 1 by omega] at kS2; have HFIN := Lib.hid hfin; have q1 : m < cur.length := (by omega); have q2 : (0 : Int) ≤ c := (by omega); have q3 : c ≤ 127 := (by omega); have q4 := hrow.frozen m q1; have HEN := Lib.hid (enc_any g m 8 (cap - m) c cur w3 q2 q3 hrow q4 q1 (by omega)); clear q1 q4; rw [show m + 8 - m = 8 by omega] at kS1; clear ho hfin hrow)
          | (go_at_call 27; refine HEN.out.mono ?_; rintro e w4 ⟨rfl, rfl⟩))
        go_roundg b.length
        case rel => exact Lib.hid (NX.out _ _ (HFIN.out c))
        case measure => have := HK.out; simp only [List.length_cons] at this; omega
      · rw [hq] at hb0 NX hs
        have k0 : ∀ W : World, (Instr.index 9 (.string s) (.int .i64 (p : Int))).run Tryd.prog W = .ok (.int .u8 c) W := fun W => by
          have := ix s (p : Int) (by omega) hp0 W
          rwa [show bt s (p : Int) = c from hb0] at this
        have hlo : a.length + 1 ≤ 4294967296 := by omega
        have d0 : decide ((p : Int) < (s.size : Int)) = true := decide_eq_true hp0
        have d1 : decide (c < 32) = false := decide_eq_false (by omega)
        have d2 : (c == 92) = false := beq_eq_false_iff_ne.mpr h92
        clear hs hO hk hqa hsz hxl hal hb0 hq hab hp
        go_wp2_with (first
          | (at_builtin; refine outF_row rfl (.tmp 16) (.tmp 20) rfl _ [c] a 1 1 rfl (by simp [go_sem]) rfl HO.out hlo ?_; intro v1 w1 ho; have H1 := Lib.hid ho; clear ho))
        go_roundg b.length
        case rel => exact Lib.hid (NX.out _ _ H1.out)
        case measure => have := HK.out; simp only [List.length_cons] at this; omega
end Go.Proofs.YtbpiooeklkjilaaDoor.Gl
