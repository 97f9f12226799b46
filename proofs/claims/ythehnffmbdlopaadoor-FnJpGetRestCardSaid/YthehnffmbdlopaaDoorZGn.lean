/- Several texts in one. -/
import Derived.Test.YthehnffmbdlopaaDoorZGm
import Derived.Test.YthehnffmbdlopaaDoorProg
import Derived.Test.YthehnffmbdlopaaDoorZWWords
import Derived.Deep.Strs
import Derived.SizedLaws
import Derived.KernelRfl
set_option linter.unusedVariables false
set_option linter.unusedSimpArgs false
namespace Go.Proofs.YthehnffmbdlopaaDoor.Jp
open Go.RowKit Go.Proofs.YthehnffmbdlopaaDoorW.PrintWords Go.Proofs.YthehnffmbdlopaaDoorW.PrintLast Go.Proofs.YthehnffmbdlopaaDoorW.PrintMore Go.Proofs.YthehnffmbdlopaaDoor.Aid Go.Proofs.YthehnffmbdlopaaDoor.J

/-- jpFound, with whether it found something told apart. -/
theorem found_fit {w w' : World} {s : ByteArray} {keys : List ByteArray} {e : Ending} (h : FdP w s keys e w') : Below w.heap.size w w' ∧ ∃ (q : Pl) (A3 : Option Addr) (n3 c3 : Nat) (A4 : Option Addr) (n4 c4 : Nat) (ok : Bool), e = .returned (.tuple #[.agg #[.int .i64 q.kind, .int .i64 q.b, .int .i64 q.e, .slice A3 n3 c3, .slice A4 n4 c4], .bool ok]) ∧
    (ok = true → s.size ≤ 65536 ∧ ∃ p, text (bytesOf s) = some p ∧ ((∀ K ∈ keys, nameK K = true) → seek s p keys = some q)) := by
  obtain ⟨hb, h | ⟨q, A3, n3, c3, A4, n4, c4, he, h1, h2⟩⟩ := h
  · exact ⟨hb, zPl, none, 0, 0, none, 0, 0, false, h, fun h => by cases h⟩
  · exact ⟨hb, q, A3, n3, c3, A4, n4, c4, true, he, fun _ => ⟨h1, h2⟩⟩
/-- The box of the place that was found. -/
structure Lb (w W : World) (g : Nat) (q : Pl) (A3 : Option Addr) (n3 c3 : Nat) (A4 : Option Addr) (n4 c4 : Nat) : Prop where
  p : W.heap[g]? = some (.cells #[.int .i64 q.kind, .int .i64 q.b, .int .i64 q.e, .slice A3 n3 c3, .slice A4 n4 c4] tPl (0, 0))
  b : Below w.heap.size w W
theorem Lb.below {w W W' : World} {g : Nat} {q : Pl} {A3 : Option Addr} {n3 c3 : Nat} {A4 : Option Addr} {n4 c4 : Nat} (h : Lb w W g q A3 n3 c3 A4 n4 c4) (k : Below W.heap.size W W') : Lb w W' g q A3 n3 c3 A4 n4 c4 := ⟨blk_below h.p k, below_then h.b h.b.size k⟩
theorem Lb.cells {w W : World} {g : Nat} {q : Pl} {A3 : Option Addr} {n3 c3 : Nat} {A4 : Option Addr} {n4 c4 : Nat} (h : Lb w W g q A3 n3 c3 A4 n4 c4) :
    W.cell? ⟨g, 0, none⟩ = some (.int .i64 q.kind) ∧ W.cell? ⟨g, 1, none⟩ = some (.int .i64 q.b) ∧ W.cell? ⟨g, 2, none⟩ = some (.int .i64 q.e) ∧ W.cell? ⟨g, 3, none⟩ = some (.slice A3 n3 c3) ∧ W.cell? ⟨g, 4, none⟩ = some (.slice A4 n4 c4) :=
  ⟨(blk_cell h.p 0).trans rfl, (blk_cell h.p 1).trans rfl, (blk_cell h.p 2).trans rfl, (blk_cell h.p 3).trans rfl, (blk_cell h.p 4).trans rfl⟩

set_option maxHeartbeats 8000000 in
set_option maxRecDepth 100000 in
theorem lawRest_any (s tl : ByteArray) (A : Option Addr) (c : Nat) (keys : List ByteArray) (w : World) (T : Int → TypeId) (E : Int → Value) (eT : TypeId) (eV : Value) (hG : Gl w T E eT eV) (h : s.size ≤ 140737488351232) (ht : tl.size ≤ 140737488351232) (hC : Kd.C Kd.string w A keys.length keys) (hc : keys.length ≤ c) :
    Calls Tryd.prog 4 #[.string s, .string tl, .slice A keys.length c] w fun e w' => e = .returned (.bool true) ∧ Below w.heap.size w w' := by
  by_cases h1 : 2147483647 < s.size
  · have d1 : decide ((2147483647 : Int) < (s.size : Int)) = true := decide_eq_true (by omega)
    have d2 : decide (2147483647 < s.size) = true := decide_eq_true h1
    clear h h1 hG hC ht
    go_enter Tryd.func4, Tryd.ntmps4
    go_wp2
    go_ret
    exact ⟨rfl, Below.refl _ _⟩
  have d1 : decide ((2147483647 : Int) < (s.size : Int)) = false := decide_eq_false (by omega)
  have d2 : decide (2147483647 < s.size) = false := decide_eq_false h1
  by_cases h2 : 2147483647 < tl.size
  · have d3 : decide ((2147483647 : Int) < (tl.size : Int)) = true := decide_eq_true (by omega)
    have d4 : decide (2147483647 < tl.size) = true := decide_eq_true h2
    clear h h1 h2 hG hC ht
    go_enter Tryd.func4, Tryd.ntmps4
    go_wp2
    go_ret
    exact ⟨rfl, Below.refl _ _⟩
  have d3 : decide ((2147483647 : Int) < (tl.size : Int)) = false := decide_eq_false (by omega)
  have d4 : decide (2147483647 < tl.size) = false := decide_eq_false h2
  obtain ⟨bz, hbz, hcz⟩ := zz_ex A c keys hc
  have KZ := Lib.hid (hcz w hC)
  cases bz with
  | false =>
    clear h h1 h2 hG hC ht hbz hcz
    go_enter Tryd.func4, Tryd.ntmps4
    go_wp2_with (go_at_call 8; refine KZ.out.mono ?_; rintro e w2 ⟨rfl, hb2⟩; replace hb2 := Lib.hid hb2)
    go_ret
    exact ⟨rfl, hb2.out⟩
  | true =>
    obtain ⟨hk1, hk2⟩ := hbz rfl
    have HC := Lib.hid hC
    have HG := Lib.hid hG
    have HK2 := Lib.hid hk2
    have KF := Lib.hid (fun (W : World) (hb : Below w.heap.size w W) => (jpFound_any s (by omega) keys hk2 hk1 W A c (Kd.C_below hC hb) hc).mono (R' := fun e w' => Below W.heap.size W w' ∧ ∃ (q : Pl) (A3 : Option Addr) (n3 c3 : Nat) (A4 : Option Addr) (n4 c4 : Nat) (ok : Bool), e = .returned (.tuple #[.agg #[.int .i64 q.kind, .int .i64 q.b, .int .i64 q.e, .slice A3 n3 c3, .slice A4 n4 c4], .bool ok]) ∧
      (ok = true → s.size ≤ 65536 ∧ ∃ p, text (bytesOf s) = some p ∧ ((∀ K ∈ keys, nameK K = true) → seek s p keys = some q))) (fun e w' h => found_fit h))
    clear h ht hG hC hbz hcz hk2
    go_enter Tryd.func4, Tryd.ntmps4
    go_upto_region 4 with (first | (go_at_call 8; refine KZ.out.mono ?_; rintro e w2 ⟨rfl, hb2⟩; replace hb2 := Lib.hid hb2) | (go_at_call 9; refine (KF.out _ hb2.out).mono ?_; rintro e w3 ⟨hb3, q, A3, n3, c3, A4, n4, c4, ok, rfl, hok⟩; have HOK := Lib.hid hok; have HL := Lib.hid (show Lb w (w3.alloc (.cells #[.int .i64 q.kind, .int .i64 q.b, .int .i64 q.e, .slice A3 n3 c3, .slice A4 n4 c4] tPl)) w3.heap.size q A3 n3 c3 A4 n4 c4 from ⟨blk_new _ _, below_then (below_then hb2.out hb2.out.size hb3) (below_then hb2.out hb2.out.size hb3).size (below_alloc (Below.refl _ _) _)⟩); clear hb3 hok))
    obtain ⟨g, hg⟩ : ∃ g, g = w3.heap.size := ⟨_, rfl⟩
    obtain ⟨W3, hW3⟩ : ∃ z, z = w3.alloc (.cells #[.int .i64 q.kind, .int .i64 q.b, .int .i64 q.e, .slice A3 n3 c3, .slice A4 n4 c4] tPl) := ⟨_, rfl⟩
    rw [← hW3, ← hg] at HL
    rw [← hW3, ← hg]
    clear hW3 hg
    cases ok with
    | false =>
      go_wp2
      go_ret
      exact ⟨rfl, HL.out.b⟩
    | true =>
      by_cases h5 : 65536 < tl.size
      · have d5 : decide ((65536 : Int) < (tl.size : Int)) = true := decide_eq_true (by omega)
        have d6 : decide (65536 < tl.size) = true := decide_eq_true h5
        clear h5 h1 h2
        go_wp2
        go_ret
        exact ⟨rfl, HL.out.b⟩
      have d5 : decide ((65536 : Int) < (tl.size : Int)) = false := decide_eq_false (by omega)
      have d6 : decide (65536 < tl.size) = false := decide_eq_false h5
      obtain ⟨hs6, p, htx, hsk⟩ := HOK.out rfl
      have HSK := Lib.hid hsk
      have HTX := Lib.hid htx
      clear hsk htx HOK KF KZ hb2
      go_upto_block 0 with (fail)
      go_cut [10, 41] (fun v10 v41 W => Hid ((∀ K ∈ keys, nameK K = true) ∧ W = W3))
      case first =>
        go_wp2_with fail
        go_loop [41] (fun v => Hid (∃ i : Nat, v = .int .i64 (i : Int) ∧ i ≤ keys.length ∧ ∀ K ∈ keys.take i, nameK K = true)) (fun v => keys.length - (intOf v).toNat)
        case atStart => exact Lib.hid ⟨0, rfl, Nat.zero_le _, fun K hK => by cases hK⟩
        case round =>
          obtain ⟨i, rfl, hle, hno⟩ := hrel.out
          have HN := Lib.hid hno
          clear hrel hno
          rcases Nat.lt_or_ge i keys.length with hlt | hge
          · have hdd : decide ((i : Int) < (keys.length : Int)) = true := decide_eq_true (by omega)
            obtain ⟨ad, hAd, hck2⟩ := at_keys (Kd.C_below HC.out HL.out.b) i hlt
            obtain ⟨K, hKe⟩ : ∃ K, K = keys.getD i ⟨#[]⟩ := ⟨_, rfl⟩
            have hKt : keys.take (i + 1) = keys.take i ++ [K] := by
              rw [List.take_add, List.drop_eq_getElem_cons hlt, hKe, List.getD_eq_getElem?_getD, List.getElem?_eq_getElem hlt]; rfl
            rw [← hKe] at hck2
            have HKT := Lib.hid hKt
            subst hAd
            clear hKe hKt
            by_cases hz : K.size = 0
            · have e0 : K.toList = [] := (toList_nil K).2 hz
              have e1 : (K.toList == []) = true := by rw [e0]; rfl
              have hb0 : bytesOf K = [] := List.eq_nil_of_length_eq_zero (by rw [bytesOf_length]; exact hz)
              have HNK : Hid (nameK K = true) := Lib.hid (by unfold nameK; rw [hb0]; rfl)
              clear hz hb0
              go_wp2
              go_round
              case rel => exact Lib.hid ⟨i + 1, by go_num, hlt, fun x hx => by rw [HKT.out, List.mem_append] at hx; rcases hx with hx | hx; exact HN.out x hx; rw [List.mem_singleton.1 hx]; exact HNK.out⟩
              case measure => simp [intOf]; omega
            · have e0 : ¬ K.toList = [] := fun e => hz ((toList_nil K).1 e)
              have e1 : (K.toList == []) = false := beq_eq_false_iff_ne.mpr e0
              have k1 : ∀ W : World, (Instr.index 9 (.string K) (.int .i64 0)).run Tryd.prog W = .ok (.int .u8 (bt K 0)) W := fun W => ix K 0 (by omega) (by omega) W
              have hnm : nameK K = !(bt K 0 == 91) := by
                unfold nameK
                rw [List.head?_eq_getElem?, bytesOf_get? K 0 (by omega)]
                by_cases h91 : bt K 0 = 91
                · have : bt K ((0 : Nat) : Int) = 91 := h91
                  rw [h91, this]; rfl
                · have : bt K ((0 : Nat) : Int) ≠ 91 := h91
                  rw [beq_eq_false_iff_ne.mpr h91]
                  rw [bne_iff_ne.mpr (fun e => this (Option.some.inj e))]; rfl
              have HNM := Lib.hid hnm
              clear hnm
              by_cases h91 : bt K 0 = 91
              · have y1 : (bt K 0 == 91) = true := beq_iff_eq.mpr h91
                clear h91 hz HNM
                generalize bt K 0 = y at y1 k1
                go_wp2
                go_ret
                exact ⟨rfl, HL.out.b⟩
              · have y1 : (bt K 0 == 91) = false := beq_eq_false_iff_ne.mpr h91
                have HNK : Hid (nameK K = true) := Lib.hid (by rw [HNM.out, y1]; rfl)
                clear h91 hz HNM
                generalize bt K 0 = y at y1 k1
                go_wp2
                go_round
                case rel => exact Lib.hid ⟨i + 1, by go_num, hlt, fun x hx => by rw [HKT.out, List.mem_append] at hx; rcases hx with hx | hx; exact HN.out x hx; rw [List.mem_singleton.1 hx]; exact HNK.out⟩
                case measure => simp [intOf]; omega
          · have hdd : decide ((i : Int) < (keys.length : Int)) = false := decide_eq_false (by omega)
            have hd2 : decide (i < keys.length) = false := decide_eq_false (by omega)
            have HA : Hid (∀ K ∈ keys, nameK K = true) := Lib.hid (fun K hK => HN.out K (by rw [List.take_of_length_le hge]; exact hK))
            clear hge
            go_wp2
            go_meet
            case rel => exact Lib.hid ⟨HA.out, rfl⟩
      case rest =>
        obtain ⟨hnm, hwc⟩ := hcut.out
        subst hwc
        have hq := HSK.out hnm
        obtain ⟨⟨q0, q1, q2⟩, q4, hjg⟩ := jget_rest (tl := 44 :: bytesOf tl) hnm HTX.out hq (.inr ⟨44, _, rfl, by decide⟩)
        obtain ⟨en, hen⟩ : ∃ en : Nat, q.e = (en : Int) := ⟨q.e.toNat, by omega⟩
        have hbs : bytesOf (s.extract 0 en ++ { data := #[44] } ++ tl) = (bytesOf s).take q.e.toNat ++ 44 :: bytesOf tl := by
          have e44 : bytesOf ({ data := #[44] } : ByteArray) = [44] := by decide
          rw [bytesOf_append, bytesOf_append, bytesOf_extract, e44, List.drop_zero, Nat.sub_zero, hen, Int.toNat_natCast, List.append_assoc, List.singleton_append]
        rw [← hbs] at hjg
        have hen2 : q.e.toNat = en := by omega
        have hsz2 : (s.extract 0 en ++ { data := #[44] } ++ tl).size ≤ 2147483647 := by
          have h9 := congrArg List.length hbs
          rw [bytesOf_length, List.length_append, List.length_take, List.length_cons, bytesOf_length, bytesOf_length] at h9
          omega
        obtain ⟨s2, hs2⟩ : ∃ z, z = s.extract 0 en ++ { data := #[44] } ++ tl := ⟨_, rfl⟩
        rw [← hs2] at hjg hsz2
        have KJ0 := JpGet_yes s2 hsz2 wc A keys c T E eT eV (HG.out.below HL.out.b) (Kd.C_below HC.out HL.out.b) hc hk1 hjg
        rw [hs2] at KJ0
        have KJ := Lib.hid KJ0
        clear KJ0 hs2 hjg hsz2
        have hs31 : s.size ≤ 2147483647 := by clear hbs; omega
        have KT := Lib.hid (fun W => jpTold_any s hs31 W q A3 n3 c3 A4 n4 c4 q0 q1 q2 q4)
        obtain ⟨x0, x1, x2, x3, x4⟩ := HL.out.cells
        rw [hen] at x2
        rw [hen2] at KJ
        rw [hen, Int.toNat_natCast] at KT
        have hen3 : en ≤ s.size := by clear hbs; omega
        have ks := fun W => sl_to s en hen3 W
        obtain ⟨vs, hvs⟩ : ∃ vs, vs = strOfNums (bare (jk q.kind) (((bytesOf s).take en).drop q.b.toNat)) := ⟨_, rfl⟩
        rw [← hvs] at KJ KT
        have HEN := Lib.hid hen
        clear hcut hnm hq q0 q1 q2 q4 hbs hen hen2 hvs hs31
        go_upto_region 13 with (go_at_call 13; refine KJ.out.mono ?_; rintro e w4 ⟨hb4, rfl⟩; have HL4 := Lib.hid (HL.out.below hb4); clear hb4)
        have HL5 := Lib.hid (HL4.out.below (below_alloc (Below.refl _ _) (.cells #[.string ⟨#[]⟩, .string vs, .int .i64 (jk q.kind), .int .i64 (en : Int)] tFo)))
        have HF5 : Hid ((w4.alloc (.cells #[.string ⟨#[]⟩, .string vs, .int .i64 (jk q.kind), .int .i64 (en : Int)] tFo)).heap[w4.heap.size]? = some (.cells #[.string ⟨#[]⟩, .string vs, .int .i64 (jk q.kind), .int .i64 (en : Int)] tFo (0, 0))) := Lib.hid (blk_new _ _)
        clear x0 x1 x2 x3 x4
        obtain ⟨x0, x1, x2, x3, x4⟩ := HL5.out.cells
        rw [HEN.out] at x2
        have y0 := blk_cell HF5.out 0
        have y1 := blk_cell HF5.out 1
        have y2 := blk_cell HF5.out 2
        have y3 := blk_cell HF5.out 3
        go_wp2_with (go_at_call 14; refine (KT.out _).mono ?_; rintro e w5 ⟨rfl, hb5⟩; replace hb5 := Lib.hid hb5)
        go_ret
        exact ⟨rfl, below_then HL5.out.b HL5.out.b.size hb5.out⟩
end Go.Proofs.YthehnffmbdlopaaDoor.Jp

set_option linter.unusedVariables false
namespace Go.Proofs.YthehnffmbdlopaaDoor.StrsRow
open Go.ChangeShapes Go.WideShapes Go.RowKit Go.Deep Go.Proofs.YthehnffmbdlopaaDoorW.PrintWords
theorem add_flat (a : Addr) (i : Nat) : a.add i = a.add (i * 1 + 0) := by simp
set_option maxRecDepth 100000 in
theorem open_strs {H : Type} {enc : TypeId × Value → H} {w : World} {base : Nat} {spare : Nat → Bool} {held : Bool} {r : Reach} {b0 : Nat} {v : Value} {d : DataW H} {p : List MemPlace}
    (hv : Value.okWide Tryd.prog w r b0 22 v) (h : DataW.Trod enc Tryd.prog w base spare held 22 v d p) :
    ∃ (A : Option Addr) (cap : Nat) (ss : List ByteArray), v = .slice A ss.length cap ∧ Kd.C Kd.string w A ss.length ss ∧ ss.length ≤ cap := by
  obtain ⟨A, len, cap, rfl⟩ := okWide_slice Tryd.underlying22 hv
  obtain ⟨fuel, hf⟩ := h
  rcases Go.Deep.open_strs Tryd.underlying22 Tryd.underlying9 (by kernel_rfl) hf with ⟨hcs, hx⟩ | ⟨a, len', cap', m, Sx, hcs, _, hl, hm, hmm, hx, hcell⟩
  · have e : Value.slice A len cap = .slice none 0 0 := by simpa [Value.cells] using hcs
    injection e with e1 e2 e3
    subst e1 e2 e3
    exact ⟨none, 0, [], rfl, ⟨rfl, by decide, fun h => by simp at h⟩, Nat.le_refl _⟩
  · have e : Value.slice A len cap = .slice (some a) len' cap' := by simpa [Value.cells] using hcs
    injection e with e1 e2 e3
    subst e1 e2 e3
    have hlm : len ≤ m := by rw [hmm]; split <;> omega
    have hmx : len ≤ 9223372036854775807 := by
      have : maxLen = 9223372036854775807 := by decide
      omega
    have hlen : ((List.range len).map Sx).length = len := by simp
    refine ⟨some a, cap, (List.range len).map Sx, by rw [hlen], ?_, by rw [hlen]; exact hl⟩
    rw [hlen]
    refine ⟨hlen, hmx, fun _ => ⟨a, rfl, fun j q hj => ?_⟩⟩
    have hjl : j < len := by have := (List.getElem?_eq_some_iff.1 hj).1; rwa [hlen] at this
    have hq : q = Sx j := by simpa [List.getElem?_map, List.getElem?_range hjl] using hj.symm
    refine ⟨[.string q], rfl, rfl, fun i u hi => ?_⟩
    obtain rfl : i = 0 := by have := (List.getElem?_eq_some_iff.1 hi).1; simp at this; exact this
    have hu : u = .string q := by simpa using hi.symm
    rw [hu, hq]
    have := (hcell j (by omega)).1
    show w.cell? (a.add (j * 1 + 0)) = _
    rwa [← add_flat]
end Go.Proofs.YthehnffmbdlopaaDoor.StrsRow
