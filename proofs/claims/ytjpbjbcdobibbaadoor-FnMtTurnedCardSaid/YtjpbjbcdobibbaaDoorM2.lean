/- The walk of match over a pattern that has a backslash ahead of each character. -/
import Derived.Test.YtjpbjbcdobibbaaDoorM1
import Derived.Test.YtjpbjbcdobibbaaDoorQ3
set_option linter.unusedVariables false
set_option linter.unusedSimpArgs false
namespace Go.Proofs.YtjpbjbcdobibbaaDoor.J
open Go.RowKit Go.Proofs.YtjpbjbcdobibbaaDoorW.PrintWords Go.Proofs.YtjpbjbcdobibbaaDoorW.PrintLast Go.Proofs.YtjpbjbcdobibbaaDoorW.PrintMore Go.Proofs.YtjpbjbcdobibbaaDoor.Aid

abbrev gF : Nat := 5
abbrev gA : Nat := 6
theorem tabs_below {w w' : World} (h : Lib.Utf8Tabs gF gA w) (b : Below w.heap.size w w') : Lib.Utf8Tabs gF gA w' := by
  have l1 : gF < w.heap.size := block_lt_of_cell (h.1 0 (by omega))
  have l2 : gA < w.heap.size := block_lt_of_cell (h.2 0 (by omega)).1
  exact ⟨fun c hc => (b.cell (p := ⟨gF, c, none⟩) l1).trans (h.1 c hc), fun i hi => ⟨(b.cell (p := ⟨gA, 2 * i, none⟩) l2).trans (h.2 i hi).1, (b.cell (p := ⟨gA, 2 * i + 1, none⟩) l2).trans (h.2 i hi).2⟩⟩
theorem Decode_any (s : ByteArray) (W : World) {c : Int} {n : Nat} (h : chr (bytesOf s) = some (c, n)) (hT : Lib.Utf8Tabs gF gA W) :
    Calls Tryd.prog 57 #[.string s] W fun e w' => e = .returned (.tuple #[.int .i32 c, .int .i64 (n : Nat)]) ∧ Below W.heap.size W w' := by
  obtain ⟨e1, e2⟩ := decodeGo_chr s h
  have := Tryd.utf8_DecodeRuneInString s W hT
  rwa [e1, e2] at this
theorem slice_fromI (s : ByteArray) (b : Nat) (h1 : b ≤ s.size) (W : World) :
    (Instr.slice 9 (.string s) (some (.int .i64 (b : Int))) none none).run Tryd.prog W = .ok (.string (s.extract b s.size)) W := by
  go_simp
theorem bytes_from (s : ByteArray) (k : Nat) : bytesOf (s.extract k s.size) = (bytesOf s).drop k := by
  rw [bytesOf_extract, List.take_of_length_le]
  rw [List.length_drop, bytesOf_length]; exact Nat.le_refl _

def mres (l m : L) : Int := if l = m then 1 else 0
theorem mres_eq {l m : L} (h : l = m) : mres l m = 1 := if_pos h
theorem mres_ne {l m : L} (h : ¬ l = m) : mres l m = 0 := if_neg h
def MtI (w W : World) (l m : L) (kq : Nat) (v0 v1 : Value) : Prop :=
  ∃ (sm sp : ByteArray) (l' : L), v0 = .string sm ∧ v1 = .string sp ∧ bytesOf sp = gd l' ∧ sp.size = kq ∧ sm.size ≤ 4096 ∧ sp.size ≤ 10000 ∧ valid l' = true ∧ valid (bytesOf sm) = true ∧ (∀ x ∈ l', 0 ≤ x ∧ x ≤ 255) ∧ (l' = bytesOf sm ↔ l = m) ∧ Below w.heap.size w W

set_option maxHeartbeats 8000000 in
set_option maxRecDepth 100000 in
theorem match_guard (s p : ByteArray) (l : L) (w : World) (hs : s.size ≤ 4096) (hp : bytesOf p = gd l) (hpl : p.size ≤ 10000) (hlb : ∀ x ∈ l, 0 ≤ x ∧ x ≤ 255) (hv : valid l = true) (hv2 : valid (bytesOf s) = true) (hT : Lib.Utf8Tabs gF gA w) :
    Calls Tryd.prog 56 #[.string s, .string p, .int .i64 0, .pointer none, .int .i64 (-1), .bool false] w fun e w' => e = .returned (.int .i64 (mres l (bytesOf s))) ∧ Below w.heap.size w w' := by
  have HT := Lib.hid hT
  have H0 := Lib.hid (show MtI w w l (bytesOf s) p.size (.string s) (.string p) from ⟨s, p, l, rfl, rfl, hp, rfl, hs, hpl, hv, hv2, hlb, Iff.rfl, Below.refl _ _⟩)
  clear hp hv hv2 hT hlb
  go_enter Tryd.func56, Tryd.ntmps56
  go_wp2
  go_loopg [0, 1] p.size (fun kq v0 v1 w' => Hid (MtI w w' l (bytesOf s) kq v0 v1))
  case atStart => exact H0
  case round =>
    obtain ⟨sm, sp, l', rfl, rfl, hsp, rfl, hsm, hspl, hvl, hvm, hlb, hiff, hB⟩ := hrel.out
    clear hrel H0
    have HB := Lib.hid hB
    have HIF := Lib.hid hiff
    have HTr := Lib.hid (tabs_below HT.out hB)
    have hspz := bytesOf_length sp
    have hsmz := bytesOf_length sm
    clear hB hiff
    rcases valid_cases hvl with hl0 | ⟨c, n, hch, hvn⟩
    · rw [hl0] at hsp HIF
      have z0 : sp.size = 0 := by rw [← hspz, hsp]; rfl
      have hd0 : decide (0 < sp.size) = false := decide_eq_false (by omega)
      have hn0 : ¬ 0 < sp.size := by omega
      by_cases hm0 : sm.size = 0
      · have e : Hid (mres l (bytesOf s) = 1) := Lib.hid (mres_eq (HIF.out.1 (by have := List.eq_nil_of_length_eq_zero (hsmz.trans hm0); rw [this])))
        have hd1 : ((sm.size : Int) == 0) = true := beq_iff_eq.mpr (by omega)
        have hd2 : (sm.size == 0) = true := beq_iff_eq.mpr hm0
        clear hsp hspz hsmz hvl hvm hl0 hm0 z0
        go_wp2
        go_ret
        exact ⟨by rw [e.out]; rfl, HB.out⟩
      · have e : Hid (mres l (bytesOf s) = 0) := Lib.hid (mres_ne (fun h => by have := HIF.out.2 h; rw [← this] at hsmz; simp at hsmz; omega))
        have hd1 : ((sm.size : Int) == 0) = false := beq_eq_false_iff_ne.mpr (by omega)
        have hd2 : (sm.size == 0) = false := beq_eq_false_iff_ne.mpr hm0
        clear hsp hspz hsmz hvl hvm hl0 hm0 z0
        go_wp2
        go_ret
        exact ⟨by rw [e.out]; rfl, HB.out⟩
    · have hs' := chr_some hch
      rw [gd_chr hch] at hsp
      have hl' : l'.length = l'.length := rfl
      have hspl2 : sp.size = 1 + (n + (gd (l'.drop n)).length) := by rw [← hspz, hsp, List.length_cons, List.length_append, List.length_take, Nat.min_eq_left hs'.2.2.1]; omega
      have hlt : 0 < sp.size := by omega
      have hx : ((sp[0]'hlt).toNat : Int) = 92 := by rw [from_at0 sp 0 hlt]; unfold from_; rw [List.drop_zero, hsp]; rfl
      have hd0 : decide (0 < sp.size) = true := decide_eq_true hlt
      by_cases hm0 : sm.size = 0
      · have e : Hid (mres l (bytesOf s) = 0) := Lib.hid (mres_ne (fun h => by have := HIF.out.2 h; rw [← this] at hsmz; omega))
        have hd1 : decide (0 < sm.size) = false := decide_eq_false (by omega)
        have hn1 : ¬ 0 < sm.size := by omega
        clear hm0 hsp hspz hsmz hvl hvm hs' hspl2 hvn hl' hch
        go_wp2
        go_ret
        exact ⟨by rw [e.out]; rfl, HB.out⟩
      · have hltm : 0 < sm.size := by omega
        have hd1 : decide (0 < sm.size) = true := decide_eq_true hltm
        obtain ⟨d, k, hchm, hvm2⟩ : ∃ d k, chr (bytesOf sm) = some (d, k) ∧ valid ((bytesOf sm).drop k) = true := by
          rcases valid_cases hvm with h | h
          · rw [h] at hsmz; simp at hsmz; omega
          · exact h
        have hsm' := chr_some hchm
        have hm0b : (bytesOf sm).getD 0 0 = ((sm[0]'hltm).toNat : Int) := by rw [from_at0 sm 0 hltm]; rfl
        rw [hm0b] at hsm'
        have hbyt : ∀ x ∈ bytesOf sm, 0 ≤ x ∧ x ≤ 255 := fun x hx => by have := bytesOf_range sm x hx; omega
        have ks1 : ∀ W : World, (Instr.slice 9 (.string sp) (some (.int .i64 1)) none none).run Tryd.prog W = .ok (.string (sp.extract 1 sp.size)) W := slice_fromI sp 1 (by omega)
        obtain ⟨sp1, hsp1⟩ : ∃ sp1, sp1 = sp.extract 1 sp.size := ⟨_, rfl⟩
        rw [← hsp1] at ks1
        have hb1 : bytesOf sp1 = l'.take n ++ gd (l'.drop n) := by rw [hsp1, bytes_from, hsp]; rfl
        have hz1 : sp1.size + 1 = sp.size := by rw [hsp1, ByteArray.size_extract]; omega
        have HD : Hid (∀ W, Lib.Utf8Tabs gF gA W → Calls Tryd.prog 57 #[.string sp1] W fun e w' => e = .returned (.tuple #[.int .i32 c, .int .i64 (n : Nat)]) ∧ Below W.heap.size W w') := Lib.hid (fun W h => Decode_any sp1 W (by rw [hb1]; exact chr_take hch) h)
        have HDm : Hid (∀ W, Lib.Utf8Tabs gF gA W → Calls Tryd.prog 57 #[.string sm] W fun e w' => e = .returned (.tuple #[.int .i32 d, .int .i64 (k : Nat)]) ∧ Below W.heap.size W w') := Lib.hid (fun W h => Decode_any sm W hchm h)
        have ks2 : ∀ W : World, (Instr.slice 9 (.string sm) (some (.int .i64 (k : Int))) none none).run Tryd.prog W = .ok (.string (sm.extract k sm.size)) W := slice_fromI sm k (by omega)
        have ks3 : ∀ W : World, (Instr.slice 9 (.string sp1) (some (.int .i64 (n : Int))) none none).run Tryd.prog W = .ok (.string (sp1.extract n sp1.size)) W := slice_fromI sp1 n (by omega)
        have hn0 : ((n : Int) == 0) = false := beq_eq_false_iff_ne.mpr (by omega)
        have hk0 : ((k : Int) == 0) = false := beq_eq_false_iff_ne.mpr (by omega)
        have finne : Hid (d ≠ c → mres l (bytesOf s) = 0) := Lib.hid (fun hne => mres_ne (fun h => by
          have := HIF.out.2 h
          rw [this] at hch
          rw [hchm] at hch
          simp only [Option.some.injEq, Prod.mk.injEq] at hch
          exact hne hch.1))
        have fineq : Hid (d = c → ∀ W, Below w.heap.size w W → MtI w W l (bytesOf s) (sp1.extract n sp1.size).size (.string (sm.extract k sm.size)) (.string (sp1.extract n sp1.size))) := Lib.hid (fun hdc W hb => by
          subst hdc
          obtain ⟨rfl, htk⟩ := chr_inj hlb hbyt hch hchm
          have hm1 : bytesOf (sm.extract n sm.size) = (bytesOf sm).drop n := bytes_from sm n
          refine ⟨sm.extract n sm.size, sp1.extract n sp1.size, l'.drop n, rfl, rfl, ?_, rfl, ?_, ?_, hvn, by rw [hm1]; exact hvm2, fun x hx => hlb x (List.mem_of_mem_drop hx), ?_, hb⟩
          · rw [bytes_from, hb1, List.drop_left' (by rw [List.length_take]; omega)]
          · rw [ByteArray.size_extract]; omega
          · rw [ByteArray.size_extract]; omega
          · rw [hm1, ← HIF.out]
            constructor
            · intro h
              rw [← List.take_append_drop n l', ← List.take_append_drop n (bytesOf sm), h, htk]
            · intro h; rw [h])
        have hms : (sp1.extract n sp1.size).size < sp.size := by rw [ByteArray.size_extract]; omega
        have hub : ((sm[0]'hltm).toNat : Int) ≤ 255 := by have := (sm[0]'hltm).toNat_lt; omega
        rcases hsm'.2.2.2.1 with ⟨a1, rfl, rfl⟩ | ⟨a1, a2, a3⟩
        · have ba : decide (((sm[0]'hltm).toNat : Int) > 127) = false := decide_eq_false (by omega)
          have ks2' : ∀ W : World, (Instr.slice 9 (.string sm) (some (.int .i64 1)) none none).run Tryd.prog W = .ok (.string (sm.extract 1 sm.size)) W := slice_fromI sm 1 (by omega)
          by_cases hdc : ((sm[0]'hltm).toNat : Int) = c
          · have fin := Lib.hid (fineq.out hdc)
            have bc : (((sm[0]'hltm).toNat : Int) != c) = false := bne_eq_false_iff_eq.mpr hdc
            clear hsp hspz hsmz hvl hvm hs' hspl2 hvn hl' hch hchm hvm2 hsm' hm0b hbyt hsp1 hb1 hz1 hlb hm0 ks2 hk0 finne fineq hdc
            go_wp2_with ((go_at_call_of 57 (Value.string sp1); refine (HD.out _ HTr.out).mono ?_; rintro e w2 ⟨rfl, hb2⟩; replace hb := Lib.hid (below_then HB.out HB.out.size hb2); clear hb2))
            go_roundg (sp1.extract n sp1.size).size
            case rel => exact Lib.hid (fin.out _ hb.out)
            case measure => exact hms
          · have e := Lib.hid (finne.out hdc)
            have bc : (((sm[0]'hltm).toNat : Int) != c) = true := bne_iff_ne.mpr hdc
            clear hsp hspz hsmz hvl hvm hs' hspl2 hvn hl' hch hchm hvm2 hsm' hm0b hbyt hsp1 hb1 hz1 hlb hm0 ks2 hk0 finne fineq hdc
            go_wp2_with ((go_at_call_of 57 (Value.string sp1); refine (HD.out _ HTr.out).mono ?_; rintro e w2 ⟨rfl, hb2⟩; replace hb := Lib.hid (below_then HB.out HB.out.size hb2); clear hb2))
            go_ret
            exact ⟨by rw [e.out]; rfl, hb.out⟩
        · have ba : decide (((sm[0]'hltm).toNat : Int) > 127) = true := decide_eq_true (by omega)
          by_cases hdc : d = c
          · have fin := Lib.hid (fineq.out hdc)
            have bc : (d != c) = false := bne_eq_false_iff_eq.mpr hdc
            clear hsp hspz hsmz hvl hvm hs' hspl2 hvn hl' hch hchm hvm2 hsm' hm0b hbyt hsp1 hb1 hz1 hlb hm0 finne fineq hdc a2 a3
            go_wp2_with (first | (go_at_call_of 57 (Value.string sm); refine (HDm.out _ HTr.out).mono ?_; rintro e w1 ⟨rfl, hb1⟩; have HT1 := Lib.hid (tabs_below HTr.out hb1); replace HB := Lib.hid (below_then HB.out HB.out.size hb1); clear hb1) | (go_at_call_of 57 (Value.string sp1); refine (HD.out _ HT1.out).mono ?_; rintro e w2 ⟨rfl, hb2⟩; replace hb := Lib.hid (below_then HB.out HB.out.size hb2); clear hb2))
            go_roundg (sp1.extract n sp1.size).size
            case rel => exact Lib.hid (fin.out _ hb.out)
            case measure => exact hms
          · have e := Lib.hid (finne.out hdc)
            have bc : (d != c) = true := bne_iff_ne.mpr hdc
            clear hsp hspz hsmz hvl hvm hs' hspl2 hvn hl' hch hchm hvm2 hsm' hm0b hbyt hsp1 hb1 hz1 hlb hm0 finne fineq hdc a2 a3
            go_wp2_with (first | (go_at_call_of 57 (Value.string sm); refine (HDm.out _ HTr.out).mono ?_; rintro e w1 ⟨rfl, hb1⟩; have HT1 := Lib.hid (tabs_below HTr.out hb1); replace HB := Lib.hid (below_then HB.out HB.out.size hb1); clear hb1) | (go_at_call_of 57 (Value.string sp1); refine (HD.out _ HT1.out).mono ?_; rintro e w2 ⟨rfl, hb2⟩; replace hb := Lib.hid (below_then HB.out HB.out.size hb2); clear hb2))
            go_ret
            exact ⟨by rw [e.out]; rfl, hb.out⟩
end Go.Proofs.YtjpbjbcdobibbaaDoor.J
