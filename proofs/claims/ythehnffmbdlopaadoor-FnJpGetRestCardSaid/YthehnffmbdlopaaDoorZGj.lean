/- Several texts in one. -/
import Derived.Test.YthehnffmbdlopaaDoorZGg
set_option linter.unusedVariables false
set_option linter.unusedSimpArgs false
namespace Go.Proofs.YthehnffmbdlopaaDoor.Jp
open Go.RowKit Go.Proofs.YthehnffmbdlopaaDoorW.PrintWords Go.Proofs.YthehnffmbdlopaaDoorW.PrintLast Go.Proofs.YthehnffmbdlopaaDoorW.PrintMore Go.Proofs.YthehnffmbdlopaaDoor.Aid Go.Proofs.YthehnffmbdlopaaDoor.PFnJpGetRest Go.Proofs.YthehnffmbdlopaaDoor.J

/-- What is handed back, and the buffer. -/
def UPg (B : Nat) (w0 w : World) (r : Option L) (eV : Value) (g n : Nat) (e : Ending) (w' : World) : Prop := UPost B w0 r eV e w' ∧ (∃ cur, Row w' g cur ∧ cur.length = n) ∧ But g w w'
def ULoop2 (B : Nat) (w0 wa : World) (b g N NC : Nat) (l : L) (kq : Nat) (v1 v9 : Value) (W : World) : Prop :=
  ∃ (o1 c1 oA n1 c2 : Nat) (r E : L) (cur : List Value), v1 = .slice (some ⟨b, o1, none⟩) r.length c1 ∧ v9 = .slice (some ⟨g, oA, none⟩) n1 c2 ∧ r.length = kq ∧ 1 ≤ r.length ∧ r.getD 0 0 = 92 ∧ (∀ x ∈ r, byt x) ∧ r.length ≤ c1 ∧ n1 ≤ c2 ∧
    (0 < n1 → oA = E.length) ∧ E.length + n1 = N ∧ r.length ≤ n1 ∧ (N ≤ cur.length ∧ cur.length = NC) ∧ In W b o1 r ∧ Row W g cur ∧ cur.take E.length = nums .u8 E ∧ pu l = (pu r).map (E ++ ·) ∧ Below B w0 W ∧ But g wa W
set_option maxHeartbeats 8000000 in
set_option maxRecDepth 100000 in
theorem unescConf_any (B : Nat) (w0 w : World) (b o c g m cO : Nat) (l : L) (cur : List Value) (eV : Value) (hB : Below B w0 w) (hBs : B ≤ w.heap.size) (hBg : B ≤ g) (hbg : b ≠ g) (hbw : b < w.heap.size) (h3 : 12 < B) (h2 : 8 < B)
    (hb : ∀ x ∈ l, byt x) (hlm : l.length ≤ 4294967296) (hlc : l.length ≤ c) (hi : In w b o l) (hR : Row w g cur) (hcur : cO = cur.length) (hmc : m ≤ cO) (hT : Tab w0)
    (hE : w0.cell? ⟨8, 0, none⟩ = some eV) :
    Calls Tryd.prog 62 #[cfg0, .slice (some ⟨b, o, none⟩) l.length c, .slice (some ⟨g, 0, none⟩) m cO] w (UPg B w0 w (pu l) eV g cur.length) := by
  have HE := Lib.hid hE
  have HT := Lib.hid hT
  have HI := Lib.hid hi
  have HR := Lib.hid hR
  have HBy := Lib.hid hb
  have HB := Lib.hid hB
  have HIX : Hid (∀ W, In W b o l → Calls Tryd.prog 73 #[.slice (some ⟨b, o, none⟩) l.length c, .int .u8 92] W fun e w' => e = .returned (.int .i64 (ixB l)) ∧ w' = W) := Lib.hid (fun W h => IndexByte_any b o c l W hb h)
  have hgw : g < w.heap.size := hR.lt
  by_cases hr0 : rs l = []
  · have e1 : ixB l = -1 := by unfold ixB; rw [if_pos hr0]
    have e2 : pu l = some l := by rw [pu_pl, hr0, pu_nil]; have := pl_rs l; rw [hr0, List.append_nil] at this; simp [this]
    rw [e1] at HIX
    rw [e2]
    have fin : Hid (∀ ob, UPg B w0 w (some l) eV g cur.length (.returned (.tuple #[.slice (some ⟨b, o, none⟩) l.length c, .nilIface])) (w.alloc ob)) := Lib.hid (fun ob => ⟨⟨HB.out.alloc hBs _, b, o, c, rfl, HI.out.alloc _, hlc⟩, ⟨cur, HR.out.alloc _, rfl⟩, (But.refl g w).alloc ob⟩)
    clear hE hT hi hR hb hB hr0 e1 e2
    unfold cfg0
    go_enter Tryd.func62, Tryd.ntmps62
    go_wp2_with (go_at_call 73; refine (HIX.out _ (HI.out.alloc _)).mono ?_; rintro e w' ⟨rfl, rfl⟩)
    go_ret2
    exact fin.out _
  · obtain ⟨q, hq⟩ : ∃ q, q = pl l := ⟨_, rfl⟩
    have e1 : ixB l = (q.length : Int) := by unfold ixB; rw [if_neg hr0, hq]
    rw [e1] at HIX
    have hql : q.length + (rs l).length = l.length := by rw [hq]; exact pl_rs_len l
    have hqle : q.length ≤ l.length := by omega
    have hb1 : ((q.length : Int) == -1) = false := beq_eq_false_iff_ne.mpr (by omega)
    have kto := cut_to b o l.length c q.length (by omega) hlc
    obtain ⟨o1, r, c1, hr, hrl, hrc, kfrom, hIr⟩ := cut_in b o c l q.length (by omega) hlc
    have hr2 : r = rs l := by rw [hr, hq]; exact rs_drop l
    obtain ⟨t, ht⟩ := rs_cons hr0
    have hr92 : r.getD 0 0 = 92 := by rw [hr2, ht]; rfl
    have hr1 : 1 ≤ r.length := by rw [hr2, ht]; simp
    have hrb : ∀ x ∈ r, byt x := fun x hx => hb x (by rw [hr] at hx; exact List.mem_of_mem_drop hx)
    have hpu : pu l = (pu r).map (q ++ ·) := by rw [hr2, hq]; exact pu_pl l
    have hIq : Hid (∀ W, In W b o l → In W b o q) := Lib.hid (fun W h => by have := h.take q.length (by omega); rwa [hq, pl_take, ← hq] at this)
    have kmk : ∀ W : World, (Instr.makeSlice tBs (.int .i64 (l.length : Int)) (.int .i64 (l.length : Int))).run Tryd.prog W = .ok (.slice (some ⟨W.heap.size, 0, none⟩) l.length l.length) (W.alloc (.cells (madeCells #[.int .u8 0] l.length) tB)) := by
      intro W
      have := print_make_int (P := Tryd.prog) tBs tB (.int .u8 0) 1 Tryd.underlying57 infoB rfl (by decide) (l.length : Int) (by omega) (by rw [Int.toNat_natCast]; omega) W
      rwa [Int.toNat_natCast] at this
    replace hq := Lib.hid hq
    replace hr := Lib.hid hr
    replace hr2 := Lib.hid hr2
    replace hr92 := Lib.hid hr92
    replace hrb := Lib.hid hrb
    replace hpu := Lib.hid hpu
    replace hIr := Lib.hid hIr
    replace hcur := Lib.hid hcur
    replace hql := Lib.hid hql
    replace hrl := Lib.hid hrl
    clear hE hT hi hR hb hB hr0 e1 ht
    unfold cfg0
    go_enter Tryd.func62, Tryd.ntmps62
    go_upto_if 22 with (go_at_call 73; refine (HIX.out _ (HI.out.alloc _)).mono ?_; rintro e w' ⟨rfl, rfl⟩)
    go_cut [2] (fun v2 w' => Hid (∃ g' cO' cur', v2 = .slice (some ⟨g', 0, none⟩) l.length cO' ∧ Row w' g' cur' ∧ l.length ≤ cO' ∧ l.length ≤ cur'.length ∧ In w' b o l ∧ Below B w0 w' ∧ b ≠ g' ∧ B ≤ g' ∧ b < w'.heap.size ∧ w'.heap[w.heap.size]? = some (.cells #[.bool false, .bool false, .int .i64 0] 84 (0, 0)) ∧ w.heap.size ≠ g' ∧ ((g' = g ∧ cur'.length = cur.length) ∨ (g' ≠ g ∧ g < w'.heap.size ∧ Row w' g cur ∧ w.heap.size ≤ g')) ∧ Below w.heap.size w w'))
    case first =>
      by_cases hcap : cO < l.length
      · have hd : decide ((cO : Int) < (l.length : Int)) = true := decide_eq_true (by omega)
        have hd2 : decide (cO < l.length) = true := decide_eq_true hcap
        have fin : Hid (∀ W, W = w.alloc (.cells #[.bool false, .bool false, .int .i64 0] 84) → ∃ g' cO' cur', Value.slice (some ⟨w.heap.size + 1, 0, none⟩) l.length l.length = .slice (some ⟨g', 0, none⟩) l.length cO' ∧ Row (W.alloc (.cells (madeCells #[.int .u8 0] l.length) tB)) g' cur' ∧ l.length ≤ cO' ∧ l.length ≤ cur'.length ∧ In (W.alloc (.cells (madeCells #[.int .u8 0] l.length) tB)) b o l ∧ Below B w0 (W.alloc (.cells (madeCells #[.int .u8 0] l.length) tB)) ∧ b ≠ g' ∧ B ≤ g' ∧ b < (W.alloc (.cells (madeCells #[.int .u8 0] l.length) tB)).heap.size ∧ (W.alloc (.cells (madeCells #[.int .u8 0] l.length) tB)).heap[w.heap.size]? = some (.cells #[.bool false, .bool false, .int .i64 0] 84 (0, 0)) ∧ w.heap.size ≠ g' ∧ ((g' = g ∧ cur'.length = cur.length) ∨ (g' ≠ g ∧ g < (W.alloc (.cells (madeCells #[.int .u8 0] l.length) tB)).heap.size ∧ Row (W.alloc (.cells (madeCells #[.int .u8 0] l.length) tB)) g cur ∧ w.heap.size ≤ g')) ∧ Below w.heap.size w (W.alloc (.cells (madeCells #[.int .u8 0] l.length) tB))) := Lib.hid (by
          intro W hW
          have hsz : W.heap.size = w.heap.size + 1 := by rw [hW]; simp
          rw [← hsz]
          refine ⟨W.heap.size, l.length, List.replicate l.length (.int .u8 0), rfl, ?_, Nat.le_refl _, by simp, ?_, ?_, by omega, by omega, by simp; omega, ?_, by omega, .inr ⟨by omega, by simp; omega, ?_, by omega⟩, ?_⟩
          · refine ⟨tB, ?_⟩; rw [made_arr]; exact heap_alloc_new W _
          · exact (show In W b o l by rw [hW]; exact HI.out.alloc _).alloc _
          · exact (show Below B w0 W by rw [hW]; exact HB.out.alloc hBs _).alloc (by omega) _
          · refine blk_alloc ?_ _
            rw [hW]; exact heap_alloc_new w _
          · exact (show Row W g cur by rw [hW]; exact HR.out.alloc _).alloc _
          · exact (show Below w.heap.size w W by rw [hW]; exact (Below.refl _ _).alloc (Nat.le_refl _) _).alloc (by omega) _)
        go_wp2
        go_meet
        case rel => exact Lib.hid (fin.out _ rfl)
      · have hd : decide ((cO : Int) < (l.length : Int)) = false := decide_eq_false (by omega)
        have hd2 : decide (cO < l.length) = false := decide_eq_false hcap
        have hle : l.length ≤ cO := by omega
        have fin : Hid (∀ W, W = w.alloc (.cells #[.bool false, .bool false, .int .i64 0] 84) → ∃ g' cO' cur', Value.slice (some ⟨g, 0, none⟩) l.length cO = .slice (some ⟨g', 0, none⟩) l.length cO' ∧ Row W g' cur' ∧ l.length ≤ cO' ∧ l.length ≤ cur'.length ∧ In W b o l ∧ Below B w0 W ∧ b ≠ g' ∧ B ≤ g' ∧ b < W.heap.size ∧ W.heap[w.heap.size]? = some (.cells #[.bool false, .bool false, .int .i64 0] 84 (0, 0)) ∧ w.heap.size ≠ g' ∧ ((g' = g ∧ cur'.length = cur.length) ∨ (g' ≠ g ∧ g < W.heap.size ∧ Row W g cur ∧ w.heap.size ≤ g')) ∧ Below w.heap.size w W) := Lib.hid (by
          intro W hW
          have hsz : W.heap.size = w.heap.size + 1 := by rw [hW]; simp
          refine ⟨g, cO, cur, rfl, ?_, hle, by rw [← hcur.out]; exact hle, ?_, ?_, hbg, hBg, by omega, ?_, by omega, .inl ⟨rfl, rfl⟩, by rw [hW]; exact (Below.refl _ _).alloc (Nat.le_refl _) _⟩
          · rw [hW]; exact HR.out.alloc _
          · rw [hW]; exact HI.out.alloc _
          · rw [hW]; exact HB.out.alloc hBs _
          · rw [hW]; exact heap_alloc_new w _)
        go_wp2
        go_meet
        case rel => exact Lib.hid (fin.out _ rfl)
    case rest =>
      obtain ⟨g', cO', cur', rfl, hR, hle, hcl, hI, hB, hne, hBg', hbw', hbox, hbne, hgr, hbw⟩ := hcut.out
      have HGR := Lib.hid (fun (W : World) (cX : List Value) (k1 : But g' wc W) (k2 : Row W g' cX) (k3 : cX.length = cur'.length) => (show (∃ cg, Row W g cg ∧ cg.length = cur.length) ∧ But g w W from by
        rcases hgr with ⟨rfl, h2⟩ | ⟨h1, h2, h3, h4⟩
        · exact ⟨⟨cX, k2, k3.trans h2⟩, (But.of_below hbw).trans k1⟩
        · refine ⟨⟨cur, by obtain ⟨tt, htt⟩ := h3; exact ⟨tt, (k1.block g h2 (fun e => h1 e.symm)).trans htt⟩, rfl⟩, k1.os.trans hbw.os, k1.tape.trans hbw.tape, k1.output.trans hbw.output, Nat.le_trans hbw.size k1.size, fun i hi hig => ?_⟩
          exact (k1.block i (Nat.lt_of_lt_of_le hi hbw.size) (by omega)).trans (hbw.block i hi)))
      clear hgr hbw
      obtain ⟨NC, hNC⟩ : ∃ n, n = cur'.length := ⟨_, rfl⟩
      rw [← hNC] at HGR
      replace hNC := Lib.hid hNC
      clear hcut kmk
      have R := Lib.hid hR
      have I := Lib.hid hI
      have BB := Lib.hid hB
      have BX := Lib.hid hbox
      clear hR hI hB hbox
      have gq := hql.out
      obtain ⟨oA, n1, c2, hn1, hnc1, hoA, kbuf⟩ := cut_buf g' 0 l.length cO' 0 q.length (by omega) hle (fun _ => rfl)
      replace hn1 := Lib.hid hn1
      replace hoA := Lib.hid hoA
      clear gq
      go_wp2_with ((refine copy_any rfl (.tmp 30) (.tmp 33) rfl g' 0 l.length cO' b o c 0 q cur' (by simp [go_sem]) (by simp [go_sem]) R.out (hIq.out _ I.out) (by omega) (fun _ => rfl) (by omega) ?_); intro w1 hr1' hbt1; replace hr1' := Lib.hid hr1'; replace hbt1 := Lib.hid hbt1)
      have LN := Lib.hid (show (nums .u8 q).length = q.length by simp [nums])
      go_loopg [1, 9] r.length (fun kq v1 v9 w' => Hid (ULoop2 B w0 wc b g' l.length NC l kq v1 v9 w'))
      case atStart =>
        refine Lib.hid ⟨o1, c1, oA, n1, c2, r, q, _, rfl, rfl, rfl, hr1, hr92.out, hrb.out, hrc, hnc1, fun h => by rw [hoA.out h, Nat.zero_add], by have := hn1.out; omega, by have := hn1.out; have := hrl.out; omega, ?_, ?_, hr1'.out, ?_, hpu.out, ?_, hbt1.out⟩
        · rw [length_splice _ _ _ (by rw [LN.out]; omega)]; exact ⟨hcl, hNC.out.symm⟩
        · exact (hIr.out _ I.out).but hbt1.out hbw' hne
        · have := take_splice' cur' [] q (by simp [nums]) (by simp; omega)
          simpa using this
        · exact Below.but BB.out hbt1.out hBg' (by have := R.out.lt; omega)
      case round =>
        obtain ⟨o2, c3, oB, n2, c4, r2, E, cur2, rfl, rfl, rfl, hr21, hr29, hr2b, hr2c, hn2c, hoB, hEn, hrn, ⟨hcl2, hnc2⟩, hI2, hR2, hE2, hpu2, hB2, hbt2⟩ := hrel.out
        have HN2 := Lib.hid hnc2
        clear hnc2
        clear hrel
        obtain rfl := hoB (by omega)
        have hbx2 := Lib.hid ((hbt2.block w.heap.size (blk_lt BX.out) hbne).trans BX.out)
        have kb0 := (blk_cell hbx2.out 0).trans rfl
        have kb1 := (blk_cell hbx2.out 1).trans rfl
        have kb2 := (blk_cell hbx2.out 2).trans rfl
        have hT2 : Tab _ := fun x hx => (hB2.cell (p := ⟨12, x.toNat, none⟩) h3).trans (HT.out x hx)
        have hbw2 : b < _ := Nat.lt_of_lt_of_le hbw' hbt2.size
        have HUE := Lib.hid (ue_any b o2 c3 g' E.length n2 c4 r2 cur2 _ hr2b hr21 hr29 (by omega) hr2c hI2 hR2 (by omega) hrn hT2)
        clear hT2
        obtain ⟨ru, hwr⟩ : ∃ z, z = ue r2 := ⟨_, rfl⟩
        rw [← hwr] at HUE
        unfold cfg0 at HUE
        have hBr : B ≤ wr.heap.size := by have := R.out.lt; have := hbt2.size; omega
        cases ru with
        | none =>
          have hfin : pu l = none := by
            rw [hpu2]
            obtain ⟨t2, rfl⟩ : ∃ t2, r2 = 92 :: t2 := by
              cases r2 with
              | nil => simp at hr21
              | cons x t2 => exact ⟨t2, by rw [show x = 92 from hr29]⟩
            rw [pu_no hwr.symm]; rfl
          have fin : Hid (∀ w3 n, But g' wc w3 → Row w3 g' cur2 → UPg B w0 w (pu l) eV g cur.length (.returned (.tuple #[.slice none 0 0, eV])) (w3.drewN n)) := Lib.hid (fun w3 n h3 h3r => by rw [hfin]; exact ⟨⟨pw_below_drewN (Below.but BB.out h3 hBg' (by have := R.out.lt; omega)) n, rfl⟩, HGR.out _ cur2 (h3.drewN n) h3r HN2.out⟩)
          have HB2 := Lib.hid hbt2
          have HBB := Lib.hid hB2
          clear hwr hfin hpu2 hE2 hR2 hI2 hr2b hr29 hbt2 hB2 hEn
          go_wp2_with (go_at_call 74; refine HUE.out.mono ?_; rintro e w3 ⟨hb3, hR3e, rfl⟩; replace hR3e := Lib.hid hR3e; have cE := ((Below.but HBB.out hb3 hBg' hBr).cell (p := ⟨8, 0, none⟩) h2).trans HE.out; replace hb3 := Lib.hid (HB2.out.trans hb3))
          go_quiet (fail)
          go_wp2
          go_ret2
          exact fin.out _ _ hb3.out hR3e.out
        | some x =>
          obtain ⟨k, oo⟩ := x
          have hpos := ue_pos hwr.symm
          obtain ⟨t2, ht2⟩ : ∃ t2, r2 = 92 :: t2 := by
            cases r2 with
            | nil => simp at hr21
            | cons x t2 => exact ⟨t2, by rw [show x = 92 from hr29]⟩
          have hpr : pu r2 = (pu (r2.drop k)).map (oo ++ ·) := by rw [ht2] at hwr ⊢; exact pu_yes hwr.symm
          obtain ⟨o4, r3, c5, hr3, hr3l, hr3c, kin, hIn3⟩ := cut_in b o2 c3 r2 k (by omega) hr2c
          obtain ⟨o5, n5, c6, hn5, hn5c, ho5, kbf⟩ := cut_buf g' E.length n2 c4 E.length oo.length (by omega) hn2c (fun _ => rfl)
          have hr3b : ∀ x ∈ r3, byt x := fun x hx => hr2b x (by rw [hr3] at hx; exact List.mem_of_mem_drop hx)
          have hpu3 : pu l = (pu r3).map ((E ++ oo) ++ ·) := by
            rw [hpu2, hpr, ← hr3, Option.map_map]
            congr 1; funext z; simp
          have hkne : ((k : Int) == -1) = false := beq_eq_false_iff_ne.mpr (by omega)
          have HU3 : Hid (Calls Tryd.prog 74 #[.agg #[.bool false, .bool false, .int .i64 0], .slice (some ⟨b, o2, none⟩) r2.length c3, .slice (some ⟨g', E.length, none⟩) n2 c4] wr fun e w' => e = .returned (.tuple #[.int .i64 (k : Nat), .int .i64 oo.length]) ∧ Row w' g' (splice cur2 E.length (nums .u8 oo)) ∧ But g' wr w') :=
            Lib.hid (HUE.out.mono fun e w' h => ⟨h.2.2, h.2.1, h.1⟩)
          have HIX3 : Hid (∀ W, In W b o4 r3 → Calls Tryd.prog 73 #[.slice (some ⟨b, o4, none⟩) r3.length c5, .int .u8 92] W fun e w' => e = .returned (.int .i64 (ixB r3)) ∧ w' = W) := Lib.hid (fun W h => IndexByte_any b o4 c5 r3 W hr3b h)
          have hcut3 : Hid (∀ w3, But g' wr w3 → In w3 b o4 r3) := Lib.hid (fun w3 h3 => hIn3 _ (hI2.but h3 hbw2 hne))
          have hE3 : (splice cur2 E.length (nums .u8 oo)).take (E ++ oo).length = nums .u8 (E ++ oo) := take_splice' cur2 E oo hE2 (by omega)
          have hl3 : (splice cur2 E.length (nums .u8 oo)).length = cur2.length := length_splice _ _ _ (by simp [nums]; omega)
          obtain ⟨E3, hE3d⟩ : ∃ E3, E3 = E ++ oo := ⟨_, rfl⟩
          have hE3l : E3.length = E.length + oo.length := by rw [hE3d, List.length_append]
          rw [← hE3d] at hE3 hpu3
          obtain ⟨cur3, hcur3⟩ : ∃ z, z = splice cur2 E.length (nums .u8 oo) := ⟨_, rfl⟩
          rw [← hcur3] at hE3 hl3 HU3
          have HNC3 := Lib.hid (hl3.trans HN2.out)
          have HB2 := Lib.hid hbt2
          have HBB := Lib.hid hB2
          replace hE3 := Lib.hid hE3
          replace hpu3 := Lib.hid hpu3
          replace ho5 := Lib.hid ho5
          have HN := Lib.hid (show E3.length + n5 = l.length by omega)
          have hrn5 : r3.length ≤ n5 := by omega
          have hcl3 : l.length ≤ cur3.length := by omega
          have hkq3 : r3.length < r2.length := by omega
          have hoff5 := Lib.hid (show 0 < n5 → o5 = E3.length from fun h => by rw [ho5.out h, hE3l])
          have hI3 := Lib.hid hIn3
          clear hwr hpu2 hE2 hR2 hI2 hr2b hr29 hbt2 hB2 hEn hpr hl3 hcur3 hE3d hE3l hr3 hn5 hpos ht2 hIn3 hr3l
          by_cases hrs : rs r3 = []
          · have e3 : ixB r3 = -1 := by unfold ixB; rw [if_pos hrs]
            rw [e3] at HIX3
            have hpr3 : pu r3 = some r3 := by rw [pu_pl, hrs, pu_nil]; have := pl_rs r3; rw [hrs, List.append_nil] at this; simp [this]
            obtain ⟨o6, n6, c7, hn6, hn6c, _, kbf2⟩ := cut_buf g' o5 n5 c6 E3.length r3.length hrn5 hn5c hoff5.out
            obtain ⟨qf, hqf⟩ : ∃ z, z = E3 ++ r3 := ⟨_, rfl⟩
            have hqfl : qf.length + n6 = l.length := by have := HN.out; rw [hqf, List.length_append]; omega
            have kfin : ∀ W : World, (Instr.slice tBs (.slice (some ⟨g', 0, none⟩) l.length cO') none (some (.int .i64 ((l.length : Int) - (n6 : Int)))) none).run Tryd.prog W = .ok (.slice (some ⟨g', 0, none⟩) qf.length cO') W := by
              intro W
              rw [show (l.length : Int) - (n6 : Int) = (qf.length : Int) by omega]
              exact cut_to g' 0 l.length cO' qf.length (by omega) hle W
            have hsome : pu l = some qf := by rw [hpu3.out, hpr3, hqf]; rfl
            have fin : Hid (∀ w3 w4, But g' wr w3 → Row w4 g' (splice cur3 E3.length (nums .u8 r3)) → But g' w3 w4 → UPg B w0 w (pu l) eV g cur.length (.returned (.tuple #[.slice (some ⟨g', 0, none⟩) qf.length cO', .nilIface])) w4) := Lib.hid (fun w3 w4 h3 hR4 h4 => by rw [hsome]; exact ⟨⟨Below.but (Below.but HBB.out h3 hBg' hBr) h4 hBg' (by have := h3.size; omega), g', 0, cO', rfl, In.of_row hR4 (by rw [hqf]; exact take_splice' cur3 E3 r3 hE3.out (by have := HN.out; omega)), by omega⟩, HGR.out _ _ (HB2.out.trans (h3.trans h4)) hR4 ((length_splice _ _ _ (by have := HN.out; simp [nums]; omega)).trans HNC3.out)⟩)
            have hcl4 : E3.length + n5 ≤ cur3.length := by have := HN.out; omega
            have hn6l : n6 ≤ l.length := by omega
            clear e3 hpr3 hsome hqf hrs hqfl hn6
            go_wp2_with (first | (go_at_call 74; refine HU3.out.mono ?_; rintro e w3 ⟨rfl, hR3, hb3⟩; replace hR3 := Lib.hid hR3; replace hb3 := Lib.hid hb3) | (go_at_call 73; refine (HIX3.out _ (hcut3.out _ hb3.out)).mono ?_; rintro e w' ⟨rfl, rfl⟩) | ((refine copy_any rfl (.tmp 61) (.tmp 62) rfl g' o5 n5 c6 b o4 c5 E3.length r3 cur3 (by simp [go_sem]) (by simp [go_sem]) hR3.out (hcut3.out _ hb3.out) hrn5 hoff5.out hcl4 ?_); intro w4 hR4 hb4; replace hR4 := Lib.hid hR4; replace hb4 := Lib.hid hb4))
            go_ret2
            exact fin.out _ _ hb3.out hR4.out hb4.out
          · obtain ⟨q3, hq3⟩ : ∃ q3, q3 = pl r3 := ⟨_, rfl⟩
            have e3 : ixB r3 = (q3.length : Int) := by unfold ixB; rw [if_neg hrs, hq3]
            rw [e3] at HIX3
            have hql3 : q3.length + (rs r3).length = r3.length := by rw [hq3]; exact pl_rs_len r3
            have hb13 : ((q3.length : Int) == -1) = false := beq_eq_false_iff_ne.mpr (by omega)
            have kto3 := cut_to b o4 r3.length c5 q3.length (by omega) hr3c
            obtain ⟨o7, r4, c8, hr4, hr4l, hr4c, kin4, hIn4⟩ := cut_in b o4 c5 r3 q3.length (by omega) hr3c
            obtain ⟨o6, n6, c7, hn6, hn6c, ho6, kbf2⟩ := cut_buf g' o5 n5 c6 E3.length q3.length (by omega) hn5c hoff5.out
            have hr42 : r4 = rs r3 := by rw [hr4, hq3]; exact rs_drop r3
            obtain ⟨t4, ht4⟩ := rs_cons hrs
            have hq3I : Hid (∀ W, In W b o4 r3 → In W b o4 q3) := Lib.hid (fun W h => by have := h.take q3.length (by omega); rwa [hq3, pl_take, ← hq3] at this)
            have fin : Hid (∀ w3 w4, But g' wr w3 → Row w4 g' (splice cur3 E3.length (nums .u8 q3)) → But g' w3 w4 → ULoop2 B w0 wc b g' l.length NC l r4.length (.slice (some ⟨b, o7, none⟩) r4.length c8) (.slice (some ⟨g', o6, none⟩) n6 c7) w4) := Lib.hid (fun w3 w4 h3 hR4 h4 => by
              have hN := HN.out
              refine ⟨o7, c8, o6, n6, c7, r4, E3 ++ q3, _, rfl, rfl, rfl, by rw [hr42, ht4]; simp, by rw [hr42, ht4]; rfl, fun x hx => hr3b x (by rw [hr4] at hx; exact List.mem_of_mem_drop hx), hr4c, hn6c, fun h => by rw [List.length_append]; exact ho6 h, by rw [List.length_append]; omega, by omega, ?_, hIn4 _ ((hcut3.out _ h3).but h4 (Nat.lt_of_lt_of_le hbw2 h3.size) hne), hR4, take_splice' cur3 E3 q3 hE3.out (by omega), ?_, Below.but (Below.but HBB.out h3 hBg' hBr) h4 hBg' (by have := h3.size; omega), HB2.out.trans (h3.trans h4)⟩
              · rw [length_splice _ _ _ (by simp [nums]; omega)]; exact ⟨hcl3, HNC3.out⟩
              · rw [hpu3.out, pu_pl r3, ← hr42, ← hq3, Option.map_map]
                congr 1; funext z; simp)
            have hcl4 : E3.length + n5 ≤ cur3.length := by have := HN.out; omega
            have hq3n : q3.length ≤ n5 := by omega
            have hq3r : q3.length ≤ r3.length := by omega
            have hms : r4.length < r2.length := by omega
            clear e3 hrs hql3 hq3 hr4 hr42 ht4 hr4l hn6 ho6 hIn4 hr3b
            go_wp2_with (first | (go_at_call 74; refine HU3.out.mono ?_; rintro e w3 ⟨rfl, hR3, hb3⟩; replace hR3 := Lib.hid hR3; replace hb3 := Lib.hid hb3) | (go_at_call 73; refine (HIX3.out _ (hcut3.out _ hb3.out)).mono ?_; rintro e w' ⟨rfl, rfl⟩) | ((refine copy_any rfl (.tmp 68) (.tmp 71) rfl g' o5 n5 c6 b o4 c5 E3.length q3 cur3 (by simp [go_sem]) (by simp [go_sem]) hR3.out (hq3I.out _ (hcut3.out _ hb3.out)) hq3n hoff5.out hcl4 ?_); intro w4 hR4 hb4; replace hR4 := Lib.hid hR4; replace hb4 := Lib.hid hb4))
            go_roundg r4.length
            case rel => exact Lib.hid (fin.out _ _ hb3.out hR4.out hb4.out)
            case measure => exact hms
end Go.Proofs.YthehnffmbdlopaaDoor.Jp
