/- The walks of Unescape, of impl.JpUnescape. -/
import Derived.Test.YtjpbjbcdobibbaaDoorUnD
import Derived.Test.YtjpbjbcdobibbaaDoorQ4
set_option linter.unusedVariables false
set_option linter.unusedSimpArgs false
namespace Go.Proofs.YtjpbjbcdobibbaaDoor.J
open Go.RowKit Go.Proofs.YtjpbjbcdobibbaaDoorW.PrintWords Go.Proofs.YtjpbjbcdobibbaaDoorW.PrintLast Go.Proofs.YtjpbjbcdobibbaaDoorW.PrintMore Go.Proofs.YtjpbjbcdobibbaaDoor.Aid Go.Proofs.YtjpbjbcdobibbaaDoor.PFnJpUnescape

abbrev gCfg : Nat := 0
abbrev gEsc : Nat := 2
abbrev gTab : Nat := 3
/-- What the package's variables hold. -/
structure Glob (w : World) (pt : TypeId) (pv : Value) : Prop where
  c0 : w.cell? ⟨gCfg, 0, none⟩ = some (.bool false)
  c1 : w.cell? ⟨gCfg, 1, none⟩ = some (.bool false)
  c2 : w.cell? ⟨gCfg, 2, none⟩ = some (.int .i64 0)
  e : w.cell? ⟨gEsc, 0, none⟩ = some (.iface pt pv)
  t : Tab w
theorem Glob.lt0 {w : World} {pt : TypeId} {pv : Value} (h : Glob w pt pv) : gCfg < w.heap.size := block_lt_of_cell h.c0
theorem Glob.lt1 {w : World} {pt : TypeId} {pv : Value} (h : Glob w pt pv) : gEsc < w.heap.size := block_lt_of_cell h.e
theorem Glob.lt2 {w : World} {pt : TypeId} {pv : Value} (h : Glob w pt pv) : gTab < w.heap.size := block_lt_of_cell (h.t 34 (by decide))
theorem Glob.below {w w' : World} {pt : TypeId} {pv : Value} (h : Glob w pt pv) (b : Below w.heap.size w w') : Glob w' pt pv :=
  ⟨(b.cell (p := ⟨gCfg, 0, none⟩) h.lt0).trans h.c0, (b.cell (p := ⟨gCfg, 1, none⟩) h.lt0).trans h.c1, (b.cell (p := ⟨gCfg, 2, none⟩) h.lt0).trans h.c2, (b.cell (p := ⟨gEsc, 0, none⟩) h.lt1).trans h.e,
    fun c hc => (b.cell (p := ⟨gTab, c.toNat, none⟩) h.lt2).trans (h.t c hc)⟩

set_option maxHeartbeats 4000000 in
set_option maxRecDepth 100000 in
theorem Unesc_any (w0 w : World) (pt : TypeId) (pv : Value) (b o c g m cO : Nat) (l : L) (cur : List Value) (hG : Glob w0 pt pv) (hB : Below w0.heap.size w0 w) (hBg : w0.heap.size ≤ g) (hbg : b ≠ g) (hbw : b < w.heap.size)
    (hb : ∀ x ∈ l, byt x) (hlm : l.length ≤ 4294967296) (hlc : l.length ≤ c) (hi : In w b o l) (hR : Row w g cur) (hcur : cO = cur.length) (hmc : m ≤ cO) :
    Calls Tryd.prog 26 #[.slice (some ⟨b, o, none⟩) l.length c, .slice (some ⟨g, 0, none⟩) m cO] w (UPost w0.heap.size w0 (pu l) (.iface pt pv)) := by
  have K := Lib.hid (unescConf_any w0.heap.size w0 w b o c g m cO l cur _ hB hB.size hBg hbg hbw hG.lt2 hG.lt1 hb hlm hlc hi hR hcur hmc hG.t hG.e)
  have c0 := (hB.cell (p := ⟨gCfg, 0, none⟩) hG.lt0).trans hG.c0
  have c1 := (hB.cell (p := ⟨gCfg, 1, none⟩) hG.lt0).trans hG.c1
  have c2 := (hB.cell (p := ⟨gCfg, 2, none⟩) hG.lt0).trans hG.c2
  clear hG hb hi hR hcur
  obtain ⟨r, hr⟩ : ∃ r, r = pu l := ⟨_, rfl⟩
  rw [← hr] at K ⊢
  clear hr
  cases r with
  | none =>
    go_enter Tryd.func26, Tryd.ntmps26
    go_wp2_with (go_at_call 39; refine K.out.mono ?_; rintro e w1 ⟨hb1, rfl⟩; replace hb1 := Lib.hid hb1)
    go_ret2
    exact ⟨hb1.out, rfl⟩
  | some q =>
    go_enter Tryd.func26, Tryd.ntmps26
    go_wp2_with (go_at_call 39; refine K.out.mono ?_; rintro e w1 ⟨hb1, b1, o1, c1', rfl, hI1, hq1⟩; replace hb1 := Lib.hid hb1; replace hI1 := Lib.hid hI1)
    go_ret2
    exact ⟨hb1.out, b1, o1, c1', rfl, hI1.out, hq1⟩

theorem in_string {w : World} {b o c : Nat} {q : L} (h : In w b o q) : (convert 56 9 (.slice (some ⟨b, o, none⟩) q.length c)).run Tryd.prog w = .ok (.string (strOfNums q)) w :=
  run_convert_bytes_arg (P := Tryd.prog) w 56 5 Tryd.underlying56 Tryd.underlying5 b o q.length c q rfl (fun i hi => by
    rw [h i hi]) 9 Tryd.underlying9
theorem bytes_in (W : World) (s : ByteArray) : In (Lib.bytesWorld W 5 s) W.heap.size 0 (bytesOf s) := by
  intro j hj
  rw [bytesOf_length] at hj
  rw [Nat.zero_add]
  exact bytes_cells W 5 s j hj

set_option maxHeartbeats 4000000 in
set_option maxRecDepth 100000 in
theorem JpUnescape_any (w : World) (pt : TypeId) (pv : Value) (s : ByteArray) (room : Int) (hG : Glob w pt pv) (hs : s.size ≤ 65536) (h0 : 0 ≤ room) (h1 : room ≤ 131072) :
    Calls Tryd.prog 11 #[.string s, .int .i64 room] w fun e w' => e = .returned (UEscR (unesc (bytesOf s))) ∧ Below w.heap.size w w' := by
  have kb := print_bytes (P := Tryd.prog) 9 56 5 Tryd.underlying9 Tryd.underlying56 Tryd.underlying5 s
  have hbB : Hid (∀ W : World, Below w.heap.size w W → Below w.heap.size w (Lib.bytesWorld W 5 s)) := Lib.hid (fun W h => bytes_below h h.size _ _)
  obtain ⟨n, hn⟩ : ∃ n : Nat, room % 65536 = (n : Int) := ⟨(room % 65536).toNat, by omega⟩
  have hn' : n < 65536 := by omega
  have hcap : s.size ≤ grownCap w s.size 0 5 := grownCap_ge ..
  have hlen := bytesOf_length s
  have kmk := print_make_int (P := Tryd.prog) tBs tB (.int .u8 0) 1 Tryd.underlying56 infoB rfl (by decide) (n : Int) (by omega) (by rw [Int.toNat_natCast]; omega)
  rw [Int.toNat_natCast] at kmk
  have kmk' : ∀ W : World, (Instr.makeSlice tBs (.int .i64 (max room 0 % 65536)) (.int .i64 (max room 0 % 65536))).run Tryd.prog W = .ok (.slice (some ⟨W.heap.size, 0, none⟩) n n) (W.alloc (.cells (madeCells #[.int .u8 0] n) tB)) := by
    intro W
    rw [show max room 0 % 65536 = (n : Int) by omega]
    exact kmk W
  obtain ⟨w1, hw1⟩ : ∃ w1, w1 = Lib.bytesWorld w 5 s := ⟨_, rfl⟩
  have hsz1 : w1.heap.size = w.heap.size + 1 := by rw [hw1]; exact Lib.bytesWorld_size ..
  have hI1 : In w1 w.heap.size 0 (bytesOf s) := by rw [hw1]; exact bytes_in w s
  have hB1 : Below w.heap.size w w1 := by rw [hw1]; exact bytes_below (Below.refl _ _) (Nat.le_refl _) _ _
  have hB2 : Below w.heap.size w (w1.alloc (.cells (madeCells #[.int .u8 0] n) tB)) := below_then hB1 hB1.size (below_alloc (Below.refl _ _) _)
  have K := Unesc_any w (w1.alloc (.cells (madeCells #[.int .u8 0] n) tB)) pt pv w.heap.size 0 (grownCap w s.size 0 5) w1.heap.size n n (bytesOf s) (List.replicate n (.int .u8 0)) hG hB2 (by omega) (by omega) (by simp; omega) (fun x hx => by have := bytesOf_range s x hx; exact ⟨this.1, by omega⟩) (by omega) (by omega)
    (hI1.alloc _) ⟨tB, by rw [made_arr]; exact heap_alloc_new w1 _⟩ (by simp) (Nat.le_refl _)
  rw [hlen, pu_eq] at K
  have kbw := kb w
  rw [← hw1] at kbw
  replace K := Lib.hid K
  replace hn := Lib.hid hn
  have hszH := Lib.hid hsz1
  clear kb hbB hw1 hI1 hB1 hB2 hlen hsz1 hG kmk
  obtain ⟨r, hr⟩ : ∃ r, r = unesc (bytesOf s) := ⟨_, rfl⟩
  rw [← hr] at K ⊢
  clear hr
  cases r with
  | none =>
    go_enter Tryd.func11, Tryd.ntmps11
    go_wp2_with (go_at_call 26; refine K.out.mono ?_; rintro e w2 ⟨hb2, rfl⟩; replace hb2 := Lib.hid hb2)
    go_ret2
    exact ⟨rfl, hb2.out⟩
  | some q =>
    go_enter Tryd.func11, Tryd.ntmps11
    go_wp2_with (go_at_call 26; refine K.out.mono ?_; rintro e w2 ⟨hb2, b1, o1, c1, rfl, hI1, hq1⟩; replace hb2 := Lib.hid hb2; have ks := in_string (c := c1) hI1; clear hI1)
    go_ret2
    exact ⟨rfl, hb2.out⟩

end Go.Proofs.YtjpbjbcdobibbaaDoor.J
