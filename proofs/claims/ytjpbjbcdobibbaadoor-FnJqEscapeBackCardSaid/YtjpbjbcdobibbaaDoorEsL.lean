/- The law FnJqEscapeBack. -/
import Derived.Test.YtjpbjbcdobibbaaDoorEsA
set_option linter.unusedVariables false
set_option linter.unusedSimpArgs false
namespace Go.Proofs.YtjpbjbcdobibbaaDoor.J
open Go.RowKit Go.Proofs.YtjpbjbcdobibbaaDoorW.PrintWords Go.Proofs.YtjpbjbcdobibbaaDoorW.PrintLast Go.Proofs.YtjpbjbcdobibbaaDoorW.PrintMore Go.Proofs.YtjpbjbcdobibbaaDoor.Aid

set_option maxHeartbeats 4000000 in
set_option maxRecDepth 100000 in
theorem ParseString_any (w0 w : World) (pt : TypeId) (pv : Value) (b o c : Nat) (l q : L) (hG : Glob w0 pt pv) (hB : Below w0.heap.size w0 w) (hbw : b < w.heap.size)
    (hb : ∀ x ∈ l, byt x) (hlm : l.length ≤ 4294967296) (hlc : l.length ≤ c) (hi : In w b o l) (hq : pu l = some q) :
    Calls Tryd.prog 33 #[.slice (some ⟨b, o, none⟩) l.length c] w fun e w' => e = .returned (.tuple #[.string (strOfNums q), .nilIface]) ∧ Below w0.heap.size w0 w' := by
  obtain ⟨cur, hcur⟩ : ∃ cur, cur = List.replicate 64 (Value.int .u8 0) := ⟨_, rfl⟩
  have hB2 : Below w0.heap.size w0 (w.alloc (.cells cur.toArray 84)) := hB.alloc hB.size _
  have K := Unesc_any w0 (w.alloc (.cells cur.toArray 84)) pt pv b o c w.heap.size 64 64 l cur hG hB2 hB.size (by omega) (by simp; omega) hb hlm hlc (hi.alloc _) ⟨84, heap_alloc_new w _⟩ (by rw [hcur]; simp) (Nat.le_refl _)
  rw [hq] at K
  subst hcur
  replace K := Lib.hid K
  clear hG hB hb hi hB2 hq
  go_enter Tryd.func33, Tryd.ntmps33
  go_wp2_with (go_at_call 26; refine K.out.mono ?_; rintro e w2 ⟨hb2, b1, o1, c1, rfl, hI1, hq1⟩; replace hb2 := Lib.hid hb2; have ks := in_string (c := c1) hI1; clear hI1)
  go_ret2
  exact ⟨rfl, hb2.out⟩

set_option maxHeartbeats 4000000 in
set_option maxRecDepth 100000 in
theorem JpParseString_any (w0 w : World) (pt : TypeId) (pv : Value) (s : ByteArray) (q : L) (hG : Glob w0 pt pv) (hB : Below w0.heap.size w0 w) (hs : s.size ≤ 1000000) (hq : pu (bytesOf s) = some q) :
    Calls Tryd.prog 21 #[.string s] w fun e w' => e = .returned (.tuple #[.string (strOfNums q), .bool true]) ∧ Below w0.heap.size w0 w' := by
  have kb := print_bytes (P := Tryd.prog) 9 56 5 Tryd.underlying9 Tryd.underlying56 Tryd.underlying5 s w
  have hcap : s.size ≤ grownCap w s.size 0 5 := grownCap_ge ..
  have hlen := bytesOf_length s
  obtain ⟨w1, hw1⟩ : ∃ w1, w1 = Lib.bytesWorld w 5 s := ⟨_, rfl⟩
  have hsz1 : w1.heap.size = w.heap.size + 1 := by rw [hw1]; exact Lib.bytesWorld_size ..
  have hI1 : In w1 w.heap.size 0 (bytesOf s) := by rw [hw1]; exact bytes_in w s
  have hB1 : Below w0.heap.size w0 w1 := by rw [hw1]; exact bytes_below hB hB.size _ _
  have K := ParseString_any w0 w1 pt pv w.heap.size 0 (grownCap w s.size 0 5) (bytesOf s) q hG hB1 (by omega) (fun x hx => by have := bytesOf_range s x hx; exact ⟨this.1, by omega⟩) (by omega) (by omega) hI1 hq
  rw [hlen] at K
  rw [← hw1] at kb
  replace K := Lib.hid K
  clear hw1 hI1 hB1 hlen hsz1 hG hB hq
  go_enter Tryd.func21, Tryd.ntmps21
  go_wp2_with (go_at_call 33; refine K.out.mono ?_; rintro e w2 ⟨rfl, hb2⟩; replace hb2 := Lib.hid hb2)
  go_ret2
  exact ⟨rfl, hb2.out⟩

set_option maxHeartbeats 4000000 in
set_option maxRecDepth 100000 in
theorem JqEscape_any (s : ByteArray) (w : World) (hs : s.size ≤ 16384) :
    Calls Tryd.prog 20 #[.string s] w fun e w' => e = .returned (.string (strOfNums (34 :: (eos (bytesOf s) ++ [34])))) ∧ Below w.heap.size w w' := by
  obtain ⟨xs, hxs⟩ : ∃ xs, xs = 34 :: (eos (bytesOf s) ++ [34]) := ⟨_, rfl⟩
  have K : Hid (Calls Tryd.prog 32 #[.string s] w fun e w' => ∃ v, e = .returned v ∧ OutT w w' v xs) := Lib.hid (by rw [hxs]; exact Escape_any s w hs)
  rw [← hxs]
  clear hxs
  go_enter Tryd.func20, Tryd.ntmps20
  go_wp2_with fail
  refine K.out.mono ?_
  rintro e w1 ⟨v, rfl, ho⟩
  obtain ⟨g, cap, rfl, hI⟩ := ho.reads
  have HB := Lib.hid ho.1
  have ks := in_string (c := cap) hI
  clear ho hI
  go_wp2
  go_ret
  exact ⟨rfl, HB.out⟩

/-- The text that is written. -/
theorem esc_text (s t : ByteArray) (hs : s.size ≤ 16384) (ht : t = strOfNums (34 :: (eos (bytesOf s) ++ [34]))) :
    bytesOf t = 34 :: (eos (bytesOf s) ++ [34]) ∧ t.size = (eos (bytesOf s)).length + 2 ∧ (eos (bytesOf s)).length ≤ 98304 := by
  have h1 : bytesOf t = 34 :: (eos (bytesOf s) ++ [34]) := by
    rw [ht]
    refine bytes_of_str _ ?_
    intro x hx
    rcases List.mem_cons.1 hx with rfl | hx
    · decide
    · rcases List.mem_append.1 hx with hx | hx
      · exact eos_byt (fun y hy => by have := bytesOf_range s y hy; omega) x hx
      · simp at hx; omega
  refine ⟨h1, ?_, ?_⟩
  · rw [← bytesOf_length, h1]; simp
  · have := (eos_len (bytesOf s)).2
    rw [bytesOf_length] at this
    omega

set_option maxHeartbeats 4000000 in
set_option maxRecDepth 100000 in
theorem lawJqEscapeBack_any (s : ByteArray) (w : World) (pt : TypeId) (pv : Value) (hG : Glob w pt pv) (hs : s.size ≤ 140737488351232) :
    Calls Tryd.prog 7 #[.string s] w fun e w' => e = .returned (.bool true) ∧ Below w.heap.size w w' := by
  by_cases c1 : 2147483647 < (s.size : Int)
  · clear hG
    go_enter Tryd.func7, Tryd.ntmps7
    go_wp2
    go_ret
    exact ⟨rfl, Below.refl _ _⟩
  by_cases c2 : 16384 < (s.size : Int)
  · clear hG
    go_enter Tryd.func7, Tryd.ntmps7
    go_wp2
    go_ret
    exact ⟨rfl, Below.refl _ _⟩
  obtain ⟨t, ht⟩ : ∃ t, t = strOfNums (34 :: (eos (bytesOf s) ++ [34])) := ⟨_, rfl⟩
  obtain ⟨h1, h2, h3⟩ := esc_text s t (by omega) ht
  have K1 := Lib.hid (JqEscape_any s w (by omega))
  rw [← ht] at K1
  obtain ⟨t1, ht1⟩ : ∃ t1, t1 = t.extract 1 (t.size - 1) := ⟨_, rfl⟩
  have hb1 : bytesOf t1 = eos (bytesOf s) := by
    rw [ht1, bytesOf_extract, h1, h2]
    simp
  have hz1 : t1.size = (eos (bytesOf s)).length := by rw [← bytesOf_length, hb1]
  have K2 : Hid (∀ W, Below w.heap.size w W → Calls Tryd.prog 21 #[.string t1] W fun e w' => e = .returned (.tuple #[.string s, .bool true]) ∧ Below w.heap.size w w') := Lib.hid (fun W hB => by
    have := JpParseString_any w W pt pv t1 (bytesOf s) hG hB (by omega) (by rw [hb1]; exact pu_eos (fun x hx => by have := bytesOf_range s x hx; omega))
    rwa [str_of_bytes] at this)
  have ksl := slice_in t t1 (by omega) ht1
  have hd : decide ((t.size : Int) < 2) = false := decide_eq_false (by omega)
  have e0 : bt t 0 = 34 := by
    have := bytesOf_getD t 0
    rw [h1] at this
    exact this.symm
  have e1 : bt t ((t.size - 1 : Nat) : Int) = 34 := by
    have := bytesOf_getD t (t.size - 1)
    rw [h1, h2, show (eos (bytesOf s)).length + 2 - 1 = (eos (bytesOf s)).length + 1 by omega, List.getD_cons_succ] at this
    rw [h2, show (eos (bytesOf s)).length + 2 - 1 = (eos (bytesOf s)).length + 1 by omega, ← this]
    simp [List.getD_eq_getElem?_getD]
  have hlt0 : 0 < t.size := by omega
  have hlt1 : t.size - 1 < t.size := by omega
  have x0 : (((t[0]'hlt0).toNat : Int) != 34) = false := by
    have := bt_at t 0 (by simpa using hlt0)
    rw [e0] at this
    have e : ((t[0]'hlt0).toNat : Int) = 34 := by simpa using this
    rw [e]; rfl
  have x1 : (((t[t.size - 1]'hlt1).toNat : Int) != 34) = false := by
    have := bt_at t ((t.size - 1 : Nat) : Int) (by rw [Int.toNat_natCast]; exact hlt1)
    rw [e1] at this
    simp only [Int.toNat_natCast] at this
    rw [this]; rfl
  have htm : t.size ≤ 2147483647 := by omega
  clear hG ht h1 h3 ht1 hb1 hz1 e0 e1
  have hsz2 : 2 ≤ t.size := by omega

  replace h2 := Lib.hid h2
  go_enter Tryd.func7, Tryd.ntmps7
  go_wp2_with (first | (go_at_call 20; refine K1.out.mono ?_; rintro e w1 ⟨rfl, hb⟩; replace hb := Lib.hid hb) | (go_at_call 21; refine (K2.out _ hb.out).mono ?_; rintro e w2 ⟨rfl, hb2⟩; replace hb := Lib.hid hb2; clear hb2))
  go_ret
  exact ⟨by simp, hb.out⟩
end Go.Proofs.YtjpbjbcdobibbaaDoor.J
