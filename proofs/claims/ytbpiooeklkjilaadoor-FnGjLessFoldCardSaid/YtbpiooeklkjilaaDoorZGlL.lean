/- The law FnGjLessFold. -/
import Derived.Test.YtbpiooeklkjilaaDoorZGlG
import Derived.Test.YtbpiooeklkjilaaDoorZC2u
set_option linter.unusedVariables false
set_option linter.unusedSimpArgs false
namespace Go.Proofs.YtbpiooeklkjilaaDoor.Gl
open Go.RowKit Go.Proofs.YtbpiooeklkjilaaDoorW.PrintWords Go.Proofs.YtbpiooeklkjilaaDoorW.PrintLast Go.Proofs.YtbpiooeklkjilaaDoorW.PrintMore Go.Proofs.YtbpiooeklkjilaaDoor.Aid Go.Proofs.YtbpiooeklkjilaaDoor.J Go.Proofs.YtbpiooeklkjilaaDoor.LessPure

theorem low_lex (a b : ByteArray) : Op.bytesLess (strOfNums ((bytesOf a).map fold)).toList (strOfNums ((bytesOf b).map fold)).toList = lex (small (strOfNums (bytesOf a))) (small (strOfNums (bytesOf b))) := by
  have hb : ∀ s : ByteArray, ∀ c ∈ (bytesOf s).map fold, 0 ≤ c ∧ c < 256 := fun s c hc => by
    obtain ⟨d, hd, rfl⟩ := List.mem_map.1 hc
    have := bytesOf_range s d hd
    exact fold_byte (by omega)
  have e0 : ∀ X : ByteArray, (X.toList.map fun c => (c.toNat : Int)) = bytesOf X := fun X => by simp [bytesOf, ByteArray.toList_eq]
  have e : ∀ s : ByteArray, ((strOfNums ((bytesOf s).map fold)).toList.map fun c => (c.toNat : Int)) = (bytesOf s).map fold := fun s => (e0 _).trans (bytes_of_str _ (hb s))
  rw [bytesLess_lex, e, e, str_of_bytes, str_of_bytes]
  rfl
set_option maxHeartbeats 8000000 in
set_option maxRecDepth 100000 in
theorem law_any (a b : ByteArray) (w : World) (ha : a.size ≤ 140737488351232) (hb : b.size ≤ 140737488351232) :
    Calls Tryd.prog 3 #[.string a, .string b] w fun e w' => e = .returned (.bool true) ∧ Below w.heap.size w w' := by
  by_cases h1 : a.size > 2147483647
  · have d1 : decide (2147483647 < (a.size : Int)) = true := decide_eq_true (by omega)
    go_enter Tryd.func3, Tryd.ntmps3
    go_wp2
    go_ret
    exact ⟨rfl, Below.refl _ _⟩
  have d1 : decide (2147483647 < (a.size : Int)) = false := decide_eq_false (by omega)
  by_cases h2 : b.size > 2147483647
  · have d2 : decide (2147483647 < (b.size : Int)) = true := decide_eq_true (by omega)
    go_enter Tryd.func3, Tryd.ntmps3
    go_wp2
    go_ret
    exact ⟨rfl, Below.refl _ _⟩
  have d2 : decide (2147483647 < (b.size : Int)) = false := decide_eq_false (by omega)
  by_cases h3 : 4096 < a.size + b.size
  · have d3 : decide (4096 < (a.size : Int) + (b.size : Int)) = true := decide_eq_true (by omega)
    have d3' : decide (4096 < a.size + b.size) = true := decide_eq_true (by omega)
    go_enter Tryd.func3, Tryd.ntmps3
    go_wp2
    go_ret
    exact ⟨rfl, Below.refl _ _⟩
  have d3 : decide (4096 < (a.size : Int) + (b.size : Int)) = false := decide_eq_false (by omega)
  have HU := Lib.hid (fun W => UTF8_any a W (by omega))
  have HV := Lib.hid (fun W => UTF8_any b W (by omega))
  generalize valid (bytesOf a) = ua at HU
  generalize valid (bytesOf b) = ub at HV
  have HQ := Lib.hid (fun W => quote_any a (by omega) W)
  have HR := Lib.hid (fun W => quote_any b (by omega) W)
  have HS := Lib.hid (fun W => small_any a (by omega) W)
  have HT := Lib.hid (fun W => small_any b (by omega) W)
  have ql : ∀ s : ByteArray, s.size ≤ 4096 → (strOfNums (34 :: (qs (bytesOf s) ++ [34]))).size ≤ 100000 := fun s hs => by
    have := (qd_quote s).size
    have h := (qs_len (bytesOf s)).2
    rw [bytesOf_length] at h
    omega
  have HG := Lib.hid (fun W => gjLess_any _ _ _ _ _ _ (qd_quote a) (qd_quote b) (ql a (by omega)) (ql b (by omega)) W)
  obtain ⟨x, hx⟩ : ∃ x, x = strOfNums (34 :: (qs (bytesOf a) ++ [34])) := ⟨_, rfl⟩
  obtain ⟨y, hy⟩ : ∃ y, y = strOfNums (34 :: (qs (bytesOf b) ++ [34])) := ⟨_, rfl⟩
  have HL := Lib.hid (low_lex a b)
  obtain ⟨u, hu⟩ : ∃ u, u = strOfNums ((bytesOf a).map fold) := ⟨_, rfl⟩
  obtain ⟨v, hv⟩ : ∃ v, v = strOfNums ((bytesOf b).map fold) := ⟨_, rfl⟩
  obtain ⟨r, hr⟩ : ∃ r, r = lex (small (strOfNums (bytesOf a))) (small (strOfNums (bytesOf b))) := ⟨_, rfl⟩
  rw [← hu, ← hv, ← hr] at HL
  rw [← hx] at HQ HG
  rw [← hy] at HR HG
  rw [← hr] at HG
  rw [← hu] at HS
  rw [← hv] at HT
  have hl := HL.out
  clear hx hy hu hv hr ql h1 h2 h3
  cases ua with
  | false =>
    go_enter Tryd.func3, Tryd.ntmps3
    go_wp2_with (go_at_call_of 4 (Value.string a); refine (HU.out _).mono ?_; rintro e w1 ⟨rfl, hd⟩; have HB := Lib.hid hd.below; clear hd)
    go_ret
    exact ⟨rfl, HB.out⟩
  | true =>
    cases ub with
    | false =>
      go_enter Tryd.func3, Tryd.ntmps3
      go_wp2_with (first
        | (go_at_call_of 4 (Value.string a); refine (HU.out _).mono ?_; rintro e w1 ⟨rfl, hd⟩; have HB := Lib.hid hd.below; clear hd)
        | (go_at_call_of 4 (Value.string b); refine (HV.out _).mono ?_; rintro e w2 ⟨rfl, hd⟩; have HB2 := Lib.hid (below_then HB.out HB.out.size hd.below); clear hd))
      go_ret
      exact ⟨rfl, HB2.out⟩
    | true =>
      go_enter Tryd.func3, Tryd.ntmps3
      go_wp2_with (first
        | (go_at_call_of 4 (Value.string a); refine (HU.out _).mono ?_; rintro e w1 ⟨rfl, hd⟩; have HB := Lib.hid hd.below; clear hd)
        | (go_at_call_of 4 (Value.string b); refine (HV.out _).mono ?_; rintro e w2 ⟨rfl, hd⟩; have HB2 := Lib.hid (below_then HB.out HB.out.size hd.below); clear hd)
        | (go_at_call_of 6 (Value.string a); refine (HQ.out _).mono ?_; rintro e w3 ⟨rfl, hd⟩; have HB3 := Lib.hid (below_then HB2.out HB2.out.size hd); clear hd)
        | (go_at_call_of 6 (Value.string b); refine (HR.out _).mono ?_; rintro e w4 ⟨rfl, hd⟩; have HB4 := Lib.hid (below_then HB3.out HB3.out.size hd); clear hd)
        | (go_at_call 5; refine (HG.out _).mono ?_; rintro e w5 ⟨rfl, hd⟩; have HB5 := Lib.hid (below_then HB4.out HB4.out.size hd); clear hd)
        | (go_at_call_of 7 (Value.string a); refine (HS.out _).mono ?_; rintro e w6 ⟨rfl, hd⟩; have HB6 := Lib.hid (below_then HB5.out HB5.out.size hd); clear hd)
        | (go_at_call_of 7 (Value.string b); refine (HT.out _).mono ?_; rintro e w7 ⟨rfl, hd⟩; have HB7 := Lib.hid (below_then HB6.out HB6.out.size hd); clear hd))
      go_ret
      exact ⟨ret_bool (by simp [hl]), HB7.out⟩
end Go.Proofs.YtbpiooeklkjilaaDoor.Gl
