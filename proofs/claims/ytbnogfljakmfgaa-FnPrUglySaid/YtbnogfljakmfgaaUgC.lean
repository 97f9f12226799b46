/- The walk of spec's bareTo: objects. -/
import Derived.Test.YtbnogfljakmfgaaUgB
set_option linter.unusedVariables false
set_option linter.unusedSimpArgs false
namespace Go.Proofs.Ytbnogfljakmfgaa.J
open Go.RowKit Go.Proofs.YtbnogfljakmfgaaW.PrintWords Go.Proofs.YtbnogfljakmfgaaW.PrintLast Go.Proofs.YtbnogfljakmfgaaW.PrintMore Go.Proofs.Ytbnogfljakmfgaa.Aid

set_option maxHeartbeats 8000000 in
set_option maxRecDepth 100000 in
theorem bare_obj_any (s : ByteArray) (b e : Int) (ns : List Sp) (ks : List Pl) (hk : ∀ p ∈ ks, BareC s p) : BareC s ⟨6, b, e, ns, ks⟩ := by
  intro w0 w A3 A4 c3 c4 v out h3 g3 h4 g4 hB hO hlen hok
  rw [okP] at hok
  obtain ⟨_, hnk, hns, hok⟩ := hok
  replace hnk := hnk rfl
  rw [bare_obj] at hlen ⊢
  obtain ⟨goal, hg⟩ : ∃ z, z = out ++ 123 :: (bareKs (bytesOf s) true true ns ks ++ [125]) := ⟨_, rfl⟩
  have hgl : goal.length ≤ 100000 := by rw [hg, List.length_append]; exact hlen
  rw [← hg]
  obtain ⟨wb, hwb⟩ : ∃ z, z = w.alloc (.cells #[.int .i64 6, .int .i64 b, .int .i64 e, .slice A3 ns.length c3, .slice A4 ks.length c4] tPl) := ⟨_, rfl⟩
  have HI := Lib.hid (show BInv w0 wb wb v (123 :: (bareKs (bytesOf s) true true ns ks ++ [125])) goal from ⟨out, by rw [hwb]; exact hO.alloc _, by rw [hwb]; exact hB.alloc hB.size _, NU.refl _, hg.symm⟩)
  have hbx := Lib.hid (show wb.heap[w.heap.size]? = some (.cells #[.int .i64 6, .int .i64 b, .int .i64 e, .slice A3 ns.length c3, .slice A4 ks.length c4] tPl (0, 0)) by rw [hwb]; exact blk_new _ _)
  replace hwb := Lib.hid hwb
  have HK := Lib.hid hk
  have HX := Lib.hid hok
  have G4 := Lib.hid g4
  have G3 := Lib.hid g3
  have HNK := Lib.hid hnk
  have HNS := Lib.hid hns
  have hgl := Lib.hid hgl
  clear hlen hO hB hk hok g3 g4 hg hnk hns
  go_enter Try.func21, Try.ntmps21
  go_wp2_with (at_builtin; rw [← hwb.out]; refine binv_num rfl (.tmp 29) (.tmp 31) rfl v 123 _ goal rfl (by rw [hwb.out]; simp [go_sem]) HI.out hgl.out ?_; intro v1 w1 hI; have c4' : w1.cell? ⟨w.heap.size, 4, none⟩ = some (.slice A4 ks.length c4) := (blk_cell (hI.box hbx.out (by decide)) 4).trans rfl; replace HI := Lib.hid hI; clear hI)
  clear c4'
  go_loopg [0, 36] ks.length (fun kq v0 v36 w' => Hid (∃ k, v36 = .int .i64 (k : Nat) ∧ k + kq = ks.length ∧ BInv w0 wb w' v0 (bareKs (bytesOf s) true (decide (k = 0)) (ns.drop k) (ks.drop k) ++ [125]) goal))
  case atStart => exact Lib.hid ⟨0, rfl, by omega, HI.out⟩
  case round =>
    obtain ⟨k, rfl, hkq, hI⟩ := hrel.out
    clear hrel
    have HI := Lib.hid hI
    clear hI
    rcases Nat.lt_or_ge k ks.length with hkk | hkk
    · have HD := Lib.hid (bareKs_drop (bytesOf s) true ns ks k (decide (k = 0)) hkk)
      go_upto_if 40 with (fail)
      go_cut [0] (fun v0 w' => Hid (BInv w0 wb w' v0 (sl (bytesOf s) (ns.getD k ⟨0, 0⟩).b (ns.getD k ⟨0, 0⟩).e ++ 58 :: (bare (bytesOf s) (ks.getD k ⟨0, 0, 0, [], []⟩) ++ (bareKs (bytesOf s) true false (ns.drop (k + 1)) (ks.drop (k + 1)) ++ [125]))) goal))
      case first =>
        rcases Nat.eq_zero_or_pos k with rfl | hp
        · replace HI := Lib.hid (HI.out.eq (show _ = sl (bytesOf s) (ns.getD 0 ⟨0, 0⟩).b (ns.getD 0 ⟨0, 0⟩).e ++ 58 :: (bare (bytesOf s) (ks.getD 0 ⟨0, 0, 0, [], []⟩) ++ (bareKs (bytesOf s) true false (ns.drop 1) (ks.drop 1) ++ [125])) by rw [HD.out]; simp))
          clear HD
          go_wp2
          go_meet
          case rel => exact HI
        · have hp' : decide ((k : Int) > 0) = true := decide_eq_true (by omega)
          replace HI := Lib.hid (HI.out.eq (show _ = 44 :: (sl (bytesOf s) (ns.getD k ⟨0, 0⟩).b (ns.getD k ⟨0, 0⟩).e ++ 58 :: (bare (bytesOf s) (ks.getD k ⟨0, 0, 0, [], []⟩) ++ (bareKs (bytesOf s) true false (ns.drop (k + 1)) (ks.drop (k + 1)) ++ [125]))) by rw [HD.out]; simp [show k ≠ 0 by omega]))
          clear HD
          go_wp2_with (at_builtin; refine binv_num rfl (.tmp 41) (.tmp 42) rfl u0 44 _ goal rfl (by simp [go_sem]) HI.out hgl.out ?_; intro v2 w2 hI; replace HI := Lib.hid hI; clear hI)
          go_meet
          case rel => exact HI
      case rest =>
        have c0' : wc.cell? ⟨w.heap.size, 0, none⟩ = some (.int .i64 6) := (blk_cell (hcut.out.box hbx.out (by decide)) 0).trans rfl
        have c4' : wc.cell? ⟨w.heap.size, 4, none⟩ = some (.slice A4 ks.length c4) := (blk_cell (hcut.out.box hbx.out (by decide)) 4).trans rfl
        obtain ⟨ad, B3, d3, B4, d4, rfl, e0, e1, e2, e3, e4, q3, p3, q4, p4⟩ := at_Pl G4.out k hkk
        obtain ⟨p, hp⟩ : ∃ z, z = ks.getD k zPl := ⟨_, rfl⟩
        rw [← hp] at e0 e1 e2 e3 e4 q3 p3 q4 p4
        replace e0 := Lib.hid e0
        replace e1 := Lib.hid e1
        replace e2 := Lib.hid e2
        replace e3 := Lib.hid e3
        replace e4 := Lib.hid e4
        have P3 := Lib.hid p3
        have P4 := Lib.hid p4
        replace hp := Lib.hid hp
        replace q3 := Lib.hid q3
        replace q4 := Lib.hid q4
        clear p3 p4 HD HI
        have c3' : wc.cell? ⟨w.heap.size, 3, none⟩ = some (.slice A3 ns.length c3) := (blk_cell (hcut.out.box hbx.out (by decide)) 3).trans rfl
        have hkn : k < ns.length := by rw [HNK.out]; exact hkk
        obtain ⟨an, rfl, n0, n1⟩ := at_Sp G3.out k hkn
        obtain ⟨n, hn⟩ : ∃ z, z = ns.getD k zSp := ⟨_, rfl⟩
        rw [← hn] at n0 n1
        have m0 := Lib.hid n0
        have m1 := Lib.hid n1
        replace n0 := hcut.out.cell n0
        replace n1 := hcut.out.cell n1
        obtain ⟨o0, o1, o2⟩ := HNS.out n (by rw [hn]; exact getD_mem zSp hkn)
        have ks' := slice_str' s n.b n.e o0 o1 o2
        have e1' := Lib.hid (sl_bytes s n.b n.e o0 o1)
        replace hcut := Lib.hid (hcut.out.eq (show _ = bytesOf (s.extract n.b.toNat n.e.toNat) ++ 58 :: (bare (bytesOf s) p ++ (bareKs (bytesOf s) true false (ns.drop (k + 1)) (ks.drop (k + 1)) ++ [125])) by rw [e1'.out, hn, hp.out]; rfl))
        replace hn := Lib.hid hn
        clear o0 o1 o2 e1'
        go_upto_region 13 with (fail)
        go_still_tail 15, (by kernel_rfl)
        clear c0' c3' c4' n0 n1
        change wpList _ _ _ _ _ wc.drew
        obtain ⟨w2, hw2⟩ : ∃ z, z = wc.drew := ⟨_, rfl⟩
        rw [← hw2]
        have HJ := Lib.hid (show BInv w0 wb w2 u0 _ goal by rw [hw2]; exact hcut.out.below (below_drew (Below.refl _ wc)))
        replace hw2 := Lib.hid hw2
        clear hcut
        have c3' : w2.cell? ⟨w.heap.size, 3, none⟩ = some (.slice (some an) ns.length c3) := (blk_cell (HJ.out.box hbx.out (by decide)) 3).trans rfl
        have n0 := HJ.out.cell m0.out
        have n1 := HJ.out.cell m1.out
        go_wp2_with (first
          | (at_builtin; refine binv_str rfl (.tmp 47) (.tmp 61) rfl u0 (s.extract n.b.toNat n.e.toNat) _ goal rfl rfl HJ.out hgl.out ?_; intro v3 w3 hI; replace HJ := Lib.hid hI; clear hI c3' n0 n1)
          | (at_builtin; refine binv_num rfl (.tmp 63) (.tmp 64) rfl v3 58 _ goal rfl (by simp [go_sem]) HJ.out hgl.out ?_; intro v4 w4 hI; have c4' : w4.cell? ⟨w.heap.size, 4, none⟩ = some (.slice (some ad) ks.length c4) := (blk_cell (hI.box hbx.out (by decide)) 4).trans rfl; have f0 := hI.cell e0.out; have f1 := hI.cell e1.out; have f2 := hI.cell e2.out; have f3 := hI.cell e3.out; have f4 := hI.cell e4.out; replace HJ := Lib.hid hI; clear hI))
        clear f0 f1 f2 f3 f4 c4'
        obtain ⟨acc, hO, hB, hN, he⟩ := HJ.out
        have hmem : p ∈ ks := by rw [hp.out]; exact getD_mem zPl hkk
        have he' : (acc ++ bare (bytesOf s) p) ++ (bareKs (bytesOf s) true (decide (k + 1 = 0)) (ns.drop (k + 1)) (ks.drop (k + 1)) ++ [125]) = goal := by
          rw [← he]
          simp
        have hl : acc.length + (bare (bytesOf s) p).length ≤ 100000 := by
          have := hgl.out
          rw [← he'] at this
          simp only [List.length_append] at this
          omega
        have hw : k + 1 ≤ 9223372036854775807 := by have := G4.out.2.1; omega
        refine (HK.out p hmem w0 w4 B3 B4 d3 d4 v4 acc q3.out P3.out q4.out P4.out hB hO hl (okPs_mem HX.out p hmem)).mono ?_
        intro e' w' hp'
        obtain ⟨v', rfl, hI⟩ := binv_call hO hB hN he' hp'
        replace HI := Lib.hid hI
        clear hp' hI he he' hl hmem hO hB hN HJ
        go_wp2
        go_roundg (gk - 1)
        case rel => exact Lib.hid ⟨k + 1, rfl, by omega, HI.out⟩
        case measure => omega
    · replace HI := Lib.hid (HI.out.eq (show _ = [125] by rw [List.drop_eq_nil_of_le hkk, bareKs_nil]; rfl))
      go_wp2_with (at_builtin; refine binv_num rfl (.tmp 75) (.tmp 77) rfl u0 125 _ goal rfl (by simp [go_sem]) HI.out hgl.out ?_; intro v2 w2 hI; replace HI := Lib.hid hI; clear hI)
      go_ret
      exact (hwb.out ▸ HI.out).done
end Go.Proofs.Ytbnogfljakmfgaa.J
