/- The law FnMtGuarded. -/
import Derived.Test.YtjpbjbcdobibbaaDoorM2
set_option linter.unusedVariables false
set_option linter.unusedSimpArgs false
namespace Go.Proofs.YtjpbjbcdobibbaaDoor.J
open Go.RowKit Go.Proofs.YtjpbjbcdobibbaaDoorW.PrintWords Go.Proofs.YtjpbjbcdobibbaaDoorW.PrintLast Go.Proofs.YtjpbjbcdobibbaaDoorW.PrintMore Go.Proofs.YtjpbjbcdobibbaaDoor.Aid

def eqB (l m : L) : Bool := decide (l = m)
theorem tl_eq (s t : ByteArray) : (s.toList == t.toList) = eqB (bytesOf s) (bytesOf t) := by
  rw [Bool.eq_iff_iff, beq_iff_eq]
  unfold eqB
  rw [decide_eq_true_iff]
  constructor
  · intro h
    unfold bytesOf
    rw [ByteArray.toList_eq, ByteArray.toList_eq] at h
    rw [h]
  · intro h
    have h1 := str_of_bytes s
    rw [h, str_of_bytes t] at h1
    rw [h1]
set_option maxHeartbeats 4000000 in
set_option maxRecDepth 100000 in
theorem MtMatch_guard (s p : ByteArray) (l : L) (w : World) (hs : s.size ≤ 4096) (hp : bytesOf p = gd l) (hpl : p.size ≤ 10000) (hlb : ∀ x ∈ l, 0 ≤ x ∧ x ≤ 255) (hv : valid l = true) (hv2 : valid (bytesOf s) = true) (hT : Lib.Utf8Tabs gF gA w) :
    Calls Tryd.prog 13 #[.string s, .string p] w fun e w' => e = .returned (.bool (eqB l (bytesOf s))) ∧ Below w.heap.size w w' := by
  have K := Lib.hid (match_guard s p l w hs hp hpl hlb hv hv2 hT)
  have hpz := bytesOf_length p
  have hne : (p.toList == [42]) = false := by
    rw [beq_eq_false_iff_ne]
    intro e
    have h1 : bytesOf p = [42] := by
      unfold bytesOf
      rw [ByteArray.toList_eq] at e
      rw [e]; rfl
    rw [h1] at hp
    cases l with
    | nil => simp [gd] at hp
    | cons b t =>
      simp only [gd, List.flatMap_cons, gd1] at hp
      split at hp
      · simp at hp
      · rename_i g
        simp at hp
        omega
  have hr : Hid (((mres l (bytesOf s)) == 1) = eqB l (bytesOf s)) := Lib.hid (by
    unfold mres eqB
    by_cases h : l = bytesOf s <;> simp [h])
  obtain ⟨r, hr'⟩ : ∃ r, r = mres l (bytesOf s) := ⟨_, rfl⟩
  rw [← hr'] at K hr
  clear hp hlb hv hv2 hT hpz hr'
  have K44 : Hid (Calls Tryd.prog 44 #[.string s, .string p, .bool false] w fun e w' => e = .returned (.bool (r == 1)) ∧ Below w.heap.size w w') := Lib.hid (by
    go_enter Tryd.func44, Tryd.ntmps44
    go_wp2_with (go_at_call 56; refine K.out.mono ?_; rintro e w1 ⟨rfl, hb⟩; replace hb := Lib.hid hb)
    go_ret
    exact ⟨rfl, hb.out⟩)
  have K29 : Hid (Calls Tryd.prog 29 #[.string s, .string p] w fun e w' => e = .returned (.bool (r == 1)) ∧ Below w.heap.size w w') := Lib.hid (by
    go_enter Tryd.func29, Tryd.ntmps29
    go_wp2_with (go_at_call 44; refine K44.out.mono ?_; rintro e w1 ⟨rfl, hb⟩; replace hb := Lib.hid hb)
    go_ret
    exact ⟨rfl, hb.out⟩)
  go_enter Tryd.func13, Tryd.ntmps13
  go_wp2_with (go_at_call 29; refine K29.out.mono ?_; rintro e w1 ⟨rfl, hb⟩; replace hb := Lib.hid hb)
  go_ret
  exact ⟨by rw [← hr.out]; rfl, hb.out⟩

set_option maxHeartbeats 4000000 in
set_option maxRecDepth 100000 in
theorem lawMtGuarded_any (s t : ByteArray) (w : World) (hT : Lib.Utf8Tabs gF gA w) (hs : s.size ≤ 140737488351232) (ht : t.size ≤ 140737488351232) :
    Calls Tryd.prog 5 #[.string s, .string t] w fun e w' => e = .returned (.bool true) ∧ Below w.heap.size w w' := by
  by_cases c1 : 2147483647 < (s.size : Int)
  · have hd : decide (2147483647 < (s.size : Int)) = true := decide_eq_true c1
    clear hT
    go_enter Tryd.func5, Tryd.ntmps5
    go_wp2
    go_ret
    exact ⟨rfl, Below.refl _ _⟩
  have hd1 : decide (2147483647 < (s.size : Int)) = false := decide_eq_false c1
  by_cases c2 : 2147483647 < (t.size : Int)
  · have hd : decide (2147483647 < (t.size : Int)) = true := decide_eq_true c2
    clear hT
    go_enter Tryd.func5, Tryd.ntmps5
    go_wp2
    go_ret
    exact ⟨rfl, Below.refl _ _⟩
  have hd2 : decide (2147483647 < (t.size : Int)) = false := decide_eq_false c2
  by_cases c3 : 4096 < (s.size : Int)
  · have hd : decide (4096 < (s.size : Int)) = true := decide_eq_true c3
    clear hT
    go_enter Tryd.func5, Tryd.ntmps5
    go_wp2
    go_ret
    exact ⟨rfl, Below.refl _ _⟩
  have hd3 : decide (4096 < (s.size : Int)) = false := decide_eq_false c3
  by_cases c4 : 4096 < (t.size : Int)
  · have hd : decide (4096 < (t.size : Int)) = true := decide_eq_true c4
    clear hT
    go_enter Tryd.func5, Tryd.ntmps5
    go_wp2
    go_ret
    exact ⟨rfl, Below.refl _ _⟩
  have hd4 : decide (4096 < (t.size : Int)) = false := decide_eq_false c4
  have us : Hid (∀ W, Calls Tryd.prog 8 #[.string s] W fun e w' => e = .returned (.bool (valid (bytesOf s))) ∧ Drawn0 W w') := Lib.hid (fun W => UTF8_any s W (by omega))
  have ut : Hid (∀ W, Calls Tryd.prog 8 #[.string t] W fun e w' => e = .returned (.bool (valid (bytesOf t))) ∧ Drawn0 W w') := Lib.hid (fun W => UTF8_any t W (by omega))
  cases hvs : valid (bytesOf s) with
  | false =>
    rw [hvs] at us
    clear hT hvs
    go_enter Tryd.func5, Tryd.ntmps5
    go_wp2_with (go_at_call_of 8 (Value.string s); refine (us.out _).mono ?_; rintro e w1 ⟨rfl, hb⟩; replace hb := Lib.hid hb.below)
    go_ret
    exact ⟨rfl, hb.out⟩
  | true =>
  rw [hvs] at us
  cases hvt : valid (bytesOf t) with
  | false =>
    rw [hvt] at ut
    clear hT hvs hvt
    go_enter Tryd.func5, Tryd.ntmps5
    go_wp2_with (first | (go_at_call_of 8 (Value.string s); refine (us.out _).mono ?_; rintro e w1 ⟨rfl, hb⟩; replace hb := Lib.hid hb.below) | (go_at_call_of 8 (Value.string t); refine (ut.out _).mono ?_; rintro e w2 ⟨rfl, hb2⟩; replace hb := Lib.hid (below_then hb.out hb.out.size hb2.below); clear hb2))
    go_ret
    exact ⟨rfl, hb.out⟩
  | true =>
  rw [hvt] at ut
  have hbs : ∀ x ∈ bytesOf s, 0 ≤ x ∧ x ≤ 255 := fun x hx => by have := bytesOf_range s x hx; omega
  obtain ⟨g, hg⟩ : ∃ g, g = strOfNums (gd (bytesOf s)) := ⟨_, rfl⟩
  have hgb : bytesOf g = gd (bytesOf s) := by rw [hg]; exact bytes_of_str _ (gd_byt hbs)
  have hgz : g.size ≤ 10000 := by
    have := bytesOf_length g
    have h2 := (gd_len (bytesOf s)).2
    have h3 := bytesOf_length s
    rw [hgb] at this
    omega
  have G := Lib.hid (fun W => mtGuard_any s W (by omega))
  rw [← hg] at G
  have A := Lib.hid (fun W (h : Lib.Utf8Tabs gF gA W) => MtMatch_guard s g (bytesOf s) W (by omega) hgb hgz hbs hvs hvs h)
  have B := Lib.hid (fun W (h : Lib.Utf8Tabs gF gA W) => MtMatch_guard t g (bytesOf s) W (by omega) hgb hgz hbs hvs hvt h)
  have e1 : eqB (bytesOf s) (bytesOf s) = true := decide_eq_true rfl
  rw [e1] at A
  have E := Lib.hid (tl_eq s t)
  obtain ⟨q, hq⟩ : ∃ q, q = eqB (bytesOf s) (bytesOf t) := ⟨_, rfl⟩
  rw [← hq] at B E
  have hb := Lib.hid (Below.refl w.heap.size w)
  have HT := Lib.hid hT
  clear hT hvs hvt hbs hg hgb hgz e1 hq
  go_enter Tryd.func5, Tryd.ntmps5
  go_wp2_with (first
    | (go_at_call_of 8 (Value.string s); refine (us.out _).mono ?_; rintro e w1 ⟨rfl, hb1⟩; replace HT := Lib.hid (tabs_below HT.out hb1.below); replace hb := Lib.hid (below_then hb.out hb.out.size hb1.below); clear hb1)
    | (go_at_call_of 8 (Value.string t); refine (ut.out _).mono ?_; rintro e w2 ⟨rfl, hb1⟩; replace HT := Lib.hid (tabs_below HT.out hb1.below); replace hb := Lib.hid (below_then hb.out hb.out.size hb1.below); clear hb1)
    | (go_at_call_of 14 (Value.string s); refine (G.out _).mono ?_; rintro e w3 ⟨rfl, hb1⟩; replace HT := Lib.hid (tabs_below HT.out hb1); replace hb := Lib.hid (below_then hb.out hb.out.size hb1); clear hb1)
    | (go_at_call_of 13 (Value.string s); refine (A.out _ HT.out).mono ?_; rintro e w4 ⟨rfl, hb1⟩; replace HT := Lib.hid (tabs_below HT.out hb1); replace hb := Lib.hid (below_then hb.out hb.out.size hb1); clear hb1)
    | (go_at_call_of 13 (Value.string t); refine (B.out _ HT.out).mono ?_; rintro e w5 ⟨rfl, hb1⟩; replace HT := Lib.hid (tabs_below HT.out hb1); replace hb := Lib.hid (below_then hb.out hb.out.size hb1); clear hb1))
  go_ret
  refine ⟨?_, hb.out⟩
  rw [E.out]
  cases q <;> rfl
end Go.Proofs.YtjpbjbcdobibbaaDoor.J
