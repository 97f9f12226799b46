/- Several texts in one. -/
import Derived.Test.YthehnffmbdlopaaDoorZGl
import Derived.Test.YthehnffmbdlopaaDoorZPFnJpGetRestx1
set_option linter.unusedVariables false
set_option linter.unusedSimpArgs false
namespace Go.Proofs.YthehnffmbdlopaaDoor.Jp
open Go.RowKit Go.Proofs.YthehnffmbdlopaaDoorW.PrintWords Go.Proofs.YthehnffmbdlopaaDoorW.PrintLast Go.Proofs.YthehnffmbdlopaaDoorW.PrintMore Go.Proofs.YthehnffmbdlopaaDoor.Aid Go.Proofs.YthehnffmbdlopaaDoor.J

open Go.Proofs.YthehnffmbdlopaaDoor.PFnJpGetRest in
theorem zz_l0 (xs : List ByteArray) (hx : xs.length ≤ 2147483647) : ∀ (m i k : Nat), i + m = xs.length → m + 1 ≤ k → ∃ b, laws_zzFits1.l0 k xs (xs.length : Int) (i : Int) = some b ∧ (b = true → ∀ K ∈ xs.drop i, K.size ≤ 2147483647) := by
  intro m
  induction m with
  | zero =>
    intro i k hi hk
    obtain ⟨k, rfl⟩ : ∃ j, k = j + 1 := ⟨k - 1, by omega⟩
    exact ⟨true, by rw [laws_zzFits1.l0, if_neg (by omega)], fun _ K hK => by rw [List.drop_eq_nil_of_le (by omega)] at hK; cases hK⟩
  | succ m ih =>
    intro i k hi hk
    obtain ⟨k, rfl⟩ : ∃ j, k = j + 1 := ⟨k - 1, by omega⟩
    have hw : wrap64 ((i : Int) + 1) = ((i + 1 : Nat) : Int) := by unfold wrap64; omega
    have hlt : i < xs.length := by omega
    rw [laws_zzFits1.l0, if_pos (by omega), if_pos (by omega), if_pos (by omega), hw]
    by_cases hz : ((rdOf ByteArray.empty xs (i : Int)).size : Int) > 2147483647
    · rw [if_pos hz]; exact ⟨_, rfl, fun h => by cases h⟩
    · rw [if_neg hz]
      obtain ⟨b, hb, hp⟩ := ih (i + 1) k (by omega) (by omega)
      refine ⟨b, hb, fun h K hK => ?_⟩
      rw [List.drop_eq_getElem_cons hlt] at hK
      rcases List.mem_cons.1 hK with rfl | hK
      · have e : rdOf ByteArray.empty xs (i : Int) = xs[i] := by unfold rdOf; rw [Int.toNat_natCast, List.getD_eq_getElem?_getD, List.getElem?_eq_getElem hlt]; rfl
        rw [e] at hz; omega
      · exact hp h K hK
theorem zz_ex (A : Option Addr) (c : Nat) (xs : List ByteArray) (hc : xs.length ≤ c) :
    ∃ b : Bool, (b = true → xs.length ≤ 2147483647 ∧ ∀ K ∈ xs, K.size ≤ 2147483647) ∧ ∀ w, Kd.string.C w A xs.length xs → Calls Tryd.prog 8 #[.slice A xs.length c] w fun e w' => e = .returned (.bool b) ∧ Below w.heap.size w w' := by
  obtain ⟨b, hb, hp⟩ : ∃ b, PFnJpGetRest.laws_zzFits1.f (xs.length + 1) xs = some b ∧ (b = true → xs.length ≤ 2147483647 ∧ ∀ K ∈ xs, K.size ≤ 2147483647) := by
    unfold PFnJpGetRest.laws_zzFits1.f
    by_cases h : (xs.length : Int) > 2147483647
    · rw [if_pos h]; exact ⟨false, rfl, fun h => by cases h⟩
    · rw [if_neg h]
      obtain ⟨b, hb, hp⟩ := zz_l0 xs (by omega) xs.length 0 (xs.length + 1) (by omega) (by omega)
      exact ⟨b, hb, fun h => ⟨by omega, hp h⟩⟩
  refine ⟨b, hp, fun w hC => (PFnJpGetRest.laws_zzFits1.calls _ A c xs b w hC hc hb).mono ?_⟩
  rintro e w' ⟨rfl, hd⟩
  obtain ⟨n, rfl⟩ := hd.out
  exact ⟨rfl, pw_below_drewN (Below.refl _ _) n⟩

structure Tb (w W : World) (val : ByteArray) (ty off : Int) (q : Pl) (A3 : Option Addr) (n3 c3 : Nat) (A4 : Option Addr) (n4 c4 : Nat) : Prop where
  f : W.heap[w.heap.size]? = some (.cells #[.string ⟨#[]⟩, .string val, .int .i64 ty, .int .i64 off] tFo (0, 0))
  p : W.heap[w.heap.size + 1]? = some (.cells #[.int .i64 q.kind, .int .i64 q.b, .int .i64 q.e, .slice A3 n3 c3, .slice A4 n4 c4] tPl (0, 0))
  b : Below w.heap.size w W
theorem Tb.start (w : World) (val : ByteArray) (ty off : Int) (q : Pl) (A3 : Option Addr) (n3 c3 : Nat) (A4 : Option Addr) (n4 c4 : Nat) :
    Tb w ((w.alloc (.cells #[.string ⟨#[]⟩, .string val, .int .i64 ty, .int .i64 off] tFo)).alloc (.cells #[.int .i64 q.kind, .int .i64 q.b, .int .i64 q.e, .slice A3 n3 c3, .slice A4 n4 c4] tPl)) val ty off q A3 n3 c3 A4 n4 c4 where
  f := blk_alloc (blk_new _ _) _
  p := by have := blk_new (w.alloc (.cells #[.string ⟨#[]⟩, .string val, .int .i64 ty, .int .i64 off] tFo)) (.cells #[.int .i64 q.kind, .int .i64 q.b, .int .i64 q.e, .slice A3 n3 c3, .slice A4 n4 c4] tPl); simpa using this
  b := ((Below.refl _ _).alloc (Nat.le_refl _) _).alloc (by simp) _
theorem Tb.below {w W W' : World} {val : ByteArray} {ty off : Int} {q : Pl} {A3 : Option Addr} {n3 c3 : Nat} {A4 : Option Addr} {n4 c4 : Nat} (h : Tb w W val ty off q A3 n3 c3 A4 n4 c4) (k : Below W.heap.size W W') : Tb w W' val ty off q A3 n3 c3 A4 n4 c4 := ⟨blk_below h.f k, blk_below h.p k, below_then h.b h.b.size k⟩
theorem Tb.drew {w W : World} {val : ByteArray} {ty off : Int} {q : Pl} {A3 : Option Addr} {n3 c3 : Nat} {A4 : Option Addr} {n4 c4 : Nat} (h : Tb w W val ty off q A3 n3 c3 A4 n4 c4) : Tb w W.drew val ty off q A3 n3 c3 A4 n4 c4 := ⟨h.f, h.p, h.b.drew⟩
theorem Tb.cells {w W : World} {val : ByteArray} {ty off : Int} {q : Pl} {A3 : Option Addr} {n3 c3 : Nat} {A4 : Option Addr} {n4 c4 : Nat} (h : Tb w W val ty off q A3 n3 c3 A4 n4 c4) :
    (W.cell? ⟨w.heap.size, 1, none⟩ = some (.string val) ∧ W.cell? ⟨w.heap.size, 2, none⟩ = some (.int .i64 ty) ∧ W.cell? ⟨w.heap.size, 3, none⟩ = some (.int .i64 off)) ∧
    (W.cell? ⟨w.heap.size + 1, 0, none⟩ = some (.int .i64 q.kind) ∧ W.cell? ⟨w.heap.size + 1, 1, none⟩ = some (.int .i64 q.b) ∧ W.cell? ⟨w.heap.size + 1, 2, none⟩ = some (.int .i64 q.e) ∧ W.cell? ⟨w.heap.size + 1, 3, none⟩ = some (.slice A3 n3 c3) ∧ W.cell? ⟨w.heap.size + 1, 4, none⟩ = some (.slice A4 n4 c4)) :=
  ⟨⟨(blk_cell h.f 1).trans rfl, (blk_cell h.f 2).trans rfl, (blk_cell h.f 3).trans rfl⟩, (blk_cell h.p 0).trans rfl, (blk_cell h.p 1).trans rfl, (blk_cell h.p 2).trans rfl, (blk_cell h.p 3).trans rfl, (blk_cell h.p 4).trans rfl⟩
set_option maxHeartbeats 8000000 in
set_option maxRecDepth 100000 in
theorem jpTold_any (s : ByteArray) (hs : s.size ≤ 2147483647) (w : World) (q : Pl) (A3 : Option Addr) (n3 c3 : Nat) (A4 : Option Addr) (n4 c4 : Nat) (h0 : 0 ≤ q.b) (h1 : q.b ≤ q.e) (h2 : q.e ≤ s.size) (h4 : q.kind = 4 → q.b + 2 ≤ q.e) :
    Calls Tryd.prog 14 #[.agg #[.string ⟨#[]⟩, .string (strOfNums (bare (jk q.kind) (((bytesOf s).take q.e.toNat).drop q.b.toNat))), .int .i64 (jk q.kind), .int .i64 q.e], .string s, .agg #[.int .i64 q.kind, .int .i64 q.b, .int .i64 q.e, .slice A3 n3 c3, .slice A4 n4 c4]] w fun e w' => e = .returned (.bool true) ∧ Below w.heap.size w w' := by
  have KR := Lib.hid (fun W => Raw_any s hs W q.kind q.b q.e A3 n3 c3 A4 n4 c4 h0 h1 h2 h4)
  obtain ⟨val, hval⟩ : ∃ v, v = strOfNums (bare (jk q.kind) (((bytesOf s).take q.e.toNat).drop q.b.toNat)) := ⟨_, rfl⟩
  rw [← hval] at KR ⊢
  obtain ⟨ty, hty⟩ : ∃ t, t = jk q.kind := ⟨_, rfl⟩
  have KK := Lib.hid (fun W => jpKind_any q.kind W)
  rw [← hty] at KK ⊢
  clear h0 h1 h2 h4 hval hty
  have HT := Lib.hid (Tb.start w val ty q.e q A3 n3 c3 A4 n4 c4)
  go_enter Tryd.func14, Tryd.ntmps14
  go_upto_region 1 with (fail)
  obtain ⟨W1, hW1⟩ : ∃ z, z = (w.alloc (.cells #[.string ⟨#[]⟩, .string val, .int .i64 ty, .int .i64 q.e] tFo)).alloc (.cells #[.int .i64 q.kind, .int .i64 q.b, .int .i64 q.e, .slice A3 n3 c3, .slice A4 n4 c4] tPl) := ⟨_, rfl⟩
  rw [← hW1] at HT
  rw [show (w.alloc (.cells #[.string { data := #[] }, .string val, .int .i64 ty, .int .i64 q.e] 35)).alloc (.cells #[.int .i64 q.kind, .int .i64 q.b, .int .i64 q.e, .slice A3 n3 c3, .slice A4 n4 c4] 27) = W1 from hW1.symm]
  clear hW1
  obtain ⟨⟨f1, f2, f3⟩, p0, p1, p2, p3, p4⟩ := HT.out.cells
  have HTd := Lib.hid HT.out.drew
  go_region_with ((first | (go_at_call 29; refine (KK.out _).mono ?_; rintro e w2 ⟨rfl, rfl⟩) | (go_at_call 30; refine (KR.out _).mono ?_; rintro e w2 ⟨rfl, hb2⟩; have HT2 := Lib.hid (HTd.out.below hb2); clear hb2; obtain ⟨⟨f1, f2, f3⟩, p0, p1, p2, p3, p4⟩ := HT2.out.cells)))
  all_goals
    go_wp2_with fail
    go_ret
    exact ⟨rfl, HT2.out.b⟩
end Go.Proofs.YthehnffmbdlopaaDoor.Jp
