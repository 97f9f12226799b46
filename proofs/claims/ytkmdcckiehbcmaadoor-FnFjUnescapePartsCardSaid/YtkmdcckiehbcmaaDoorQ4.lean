/- The walk of the reference's Unescape. -/
import Derived.Test.YtkmdcckiehbcmaaDoorQ3
set_option linter.unusedVariables false
set_option linter.unusedSimpArgs false
namespace Go.Proofs.YtkmdcckiehbcmaaDoor.J
open Go.RowKit Go.Proofs.YtkmdcckiehbcmaaDoorW.PrintWords Go.Proofs.YtkmdcckiehbcmaaDoorW.PrintLast Go.Proofs.YtkmdcckiehbcmaaDoorW.PrintMore Go.Proofs.YtkmdcckiehbcmaaDoor.Aid

theorem rd_new (W : World) (s : ByteArray) (a : Nat) (ha : a ≤ s.size) : Rd (W.alloc (.cells #[.string s, .int .i64 (a : Int)] tRd)) W.heap.size s a (from_ s a) := ⟨heap_alloc_new W _, ha, rfl⟩
def quote1 (s : ByteArray) : ByteArray := ({ data := #[34] } ++ s) ++ { data := #[34] }
theorem quote1_bytes (s : ByteArray) : bytesOf (quote1 s) = 34 :: (bytesOf s ++ [34]) := by
  unfold quote1
  rw [bytesOf_append, bytesOf_append]
  simp [bytesOf]
theorem quote1_size (s : ByteArray) : (quote1 s).size = s.size + 2 := by
  rw [← bytesOf_length, quote1_bytes]; simp [bytesOf_length]
theorem quote1_inside (s : ByteArray) : ((bytesOf (quote1 s)).drop 1).take ((quote1 s).size - 2) = bytesOf s := by
  rw [quote1_bytes, quote1_size]; simp [← bytesOf_length]
def UEscR (r : Option L) : Value := match r with | some q => .tuple #[.string (strOfNums q), .bool true] | none => .tuple #[.string ByteArray.empty, .bool false]

set_option maxHeartbeats 8000000 in
set_option maxRecDepth 100000 in
theorem Unescape_any (s : ByteArray) (w : World) (hs : s.size ≤ 2147483647) :
    Calls Tryd.prog 17 #[.string s] w fun e w' => e = .returned (UEscR (unesc (bytesOf s))) ∧ Below w.heap.size w w' := by
  go_enter Tryd.func17, Tryd.ntmps17
  go_wp2
  go_loopg [4] s.size (fun kq v4 w' => Hid (∃ a : Nat, v4 = .int .i64 ((a : Nat) : Int) ∧ a + kq = s.size ∧ wellE (from_ s a) = wellE (bytesOf s) ∧ Below w.heap.size w w'))
  case atStart => exact Lib.hid ⟨0, rfl, by omega, rfl, Below.refl _ _⟩
  case round =>
    obtain ⟨a, rfl, hak, hwl, hB⟩ := hrel.out
    clear hrel
    have HB := Lib.hid hB
    have HW := Lib.hid hwl
    have HK := Lib.hid hak
    clear hB
    rcases Nat.lt_or_ge a s.size with hlt | hge
    · have hcons := from_cons s a hlt
      by_cases hc : ((s[a]'hlt).toNat : Int) = 92
      · rw [hc] at hcons
        have b1 : (((s[a]'hlt).toNat : Int) != 92) = false := by rw [hc]; rfl
        have H := rd_new wr s (a + 1) (by omega)
        rw [show (((a + 1 : Nat)) : Int) = (a : Int) + 1 by omega] at H
        replace H := Lib.hid H
        have HBn := Lib.hid (below_then HB.out HB.out.size (below_alloc (Below.refl _ _) (.cells #[.string s, .int .i64 ((a : Int) + 1)] tRd)))
        have hBs := HB.out.size
        have hln := from_len s (a + 1)
        clear hc hak
        go_wp2_with fail
        refine (escape_any wr.heap.size s (a + 1) _ _ (by omega) H.out).mono ?_
        rintro e w2 ⟨b, t, hr, hbut, rfl, hu⟩
        have HB2 := Lib.hid (HBn.out.trans (hbut.to_below hBs (by simp; omega)))
        cases he : esc (from_ s (a + 1)) with
        | none =>
          have hfin : Hid (UEscR (unesc (bytesOf s)) = .tuple #[.string ByteArray.empty, .bool false]) := Lib.hid (by rw [unesc_of (by rw [← hwl, hcons]; exact wellE_no he)]; rfl)
          clear hwl hcons hr hbut hu he H HBn hln
          go_wp2
          go_ret2
          exact ⟨by rw [hfin.out]; rfl, HB2.out⟩
        | some u =>
          obtain rfl := hu u he
          have c1 := hr.cell1
          have hw2 : Hid (wellE (from_ s b) = wellE (bytesOf s)) := Lib.hid (by rw [← hwl, hcons, wellE_yes he, ← hr.rest]; rfl)
          have hlt2 := esc_lt he
          have hlen := hr.len
          have hb1 : 1 ≤ b := by omega
          have hbl : b ≤ s.size := by omega
          have hm : s.size - b < s.size - a := by omega
          clear hwl hcons hr hbut hu he H HBn hln hlt2 hlen
          go_wp2
          go_roundg (s.size - b)
          case rel => exact Lib.hid ⟨b, by go_num, by omega, hw2.out, HB2.out⟩
          case measure => have := HK.out; omega
      · have b1 : (((s[a]'hlt).toNat : Int) != 92) = true := bne_iff_ne.mpr hc
        have hw2 : Hid (wellE (from_ s (a + 1)) = wellE (bytesOf s)) := Lib.hid (by rw [← hwl, hcons, wellE_plain _ hc])
        clear hc hcons hwl hak
        go_wp2
        go_roundg (s.size - (a + 1))
        case rel => exact Lib.hid ⟨a + 1, by go_num, by omega, hw2.out, HB.out⟩
        case measure => have := HK.out; omega
    · obtain rfl : a = s.size := by omega
      have hwt : wellE (bytesOf s) = true := by rw [← hwl, from_end, wellE_nil]
      have hU : Hid (∀ W, Calls Tryd.prog 37 #[.string (quote1 s)] W fun e w' => e = .returned (.string (strOfNums (unq (bytesOf s)))) ∧ Below W.heap.size W w') := Lib.hid (fun W => by
        have := Unquote_any (quote1 s) W (by rw [quote1_size]; omega) (by rw [quote1_size]; omega) (by rw [quote1_inside]; exact hwt)
        rwa [quote1_inside] at this)
      have hfin : Hid (UEscR (unesc (bytesOf s)) = .tuple #[.string (strOfNums (unq (bytesOf s))), .bool true]) := Lib.hid (by unfold unesc; rw [if_pos hwt]; rfl)
      clear hwl hak hwt
      go_wp2_with (go_at_call 37; refine (hU.out _).mono ?_; rintro e w' ⟨rfl, hb⟩; replace HB := Lib.hid (below_then HB.out HB.out.size hb); clear hb)
      go_ret2
      exact ⟨by rw [hfin.out]; rfl, HB.out⟩
end Go.Proofs.YtkmdcckiehbcmaaDoor.J
