/- Several texts in one. -/
import Derived.Test.YthehnffmbdlopaaDoorZGk
import Derived.Lib.LaidU8
import Derived.Deep.Strs
import Derived.Test.YthehnffmbdlopaaDoorZGf
set_option linter.unusedVariables false
set_option linter.unusedSimpArgs false
namespace Go.Proofs.YthehnffmbdlopaaDoor.Jp
open Go.RowKit Go.Proofs.YthehnffmbdlopaaDoorW.PrintWords Go.Proofs.YthehnffmbdlopaaDoorW.PrintLast Go.Proofs.YthehnffmbdlopaaDoorW.PrintMore Go.Proofs.YthehnffmbdlopaaDoor.Aid Go.Proofs.YthehnffmbdlopaaDoor.J

/-- Which error an end without a value is. -/
def ek6 (k : Int) : Int := if k = 0 then 6 else k
/-- What internalGet hands back. -/
def IP (w0 : World) (T : Int → TypeId) (E : Int → Value) : JG → Ending → World → Prop
  | .yes v ty bg en, e, w' => Below w0.heap.size w0 w' ∧ ∃ b o c, e = .returned (.tuple #[.slice (some ⟨b, o, none⟩) v.length c, .int .i64 ty, .int .i64 (bg : Nat), .int .i64 (en : Nat), .nilIface]) ∧ In w' b o v
  | .no, e, w' => Below w0.heap.size w0 w' ∧ e = .returned (.tuple #[.slice none 0 0, .int .i64 0, .int .i64 (-1), .int .i64 (-1), .iface (T 5) (E 5)])
  | .bad ty ek, e, w' => Below w0.heap.size w0 w' ∧ ∃ k1 k2 : Int, e = .returned (.tuple #[.slice none 0 0, .int .i64 ty, .int .i64 k1, .int .i64 k2, .iface (T (ek6 ek)) (E (ek6 ek))])
  | .out, _, _ => True
theorem cut_full (b o n c : Nat) (hc : n ≤ c) : ∃ o', (∀ W : World, (Instr.slice tBs (.slice (some ⟨b, o, none⟩) n c) none (some (.int .i64 (n : Int))) (some (.int .i64 (n : Int)))).run Tryd.prog W = .ok (.slice (some ⟨b, o', none⟩) n n) W) ∧ (0 < n → o' = o) := by
  refine ⟨o, fun W => ?_, fun _ => rfl⟩
  obtain ⟨i, hi, _, hsz, _⟩ := info_parts infoB
  have hel : Tryd.prog.elem tBs = tB := by simp [Program.elem, Tryd.underlying57]
  have hu : Tryd.prog.underlying tBs = some (.slice (Tryd.prog.elem tBs)) := by rw [hel]; exact Tryd.underlying57
  rw [run_slice_hm W tBs _ n c hu .i64 .i64 (n : Int) (n : Int) (by omega) (by omega) (by omega), hel]
  simp [sizeOf, typeInfo, hi, hsz, sliced, Result.andThen]
  intro h
  unfold Addr.add
  simp
theorem start_pre {keys : List ByteArray} {l u : L} (h : start keys l = .yes u) : ∃ a, l = a ++ u := by
  unfold start at h
  split at h
  · injection h with h; exact ⟨[], h⟩
  · obtain ⟨a, _, e, _⟩ := sk_loc _ _ _ _ _ _ (Nat.le_refl _) h
    exact ⟨a, e⟩

theorem gt_ek {c : Int} {t : L} {ty ek : Int} (h : gt (c :: t) = .bad ty ek) : ek ≠ 0 := by
  rw [gt] at h
  split at h
  · split at h
    · injection h with _ h; rw [← h]; decide
    · cases h
  split at h
  · split at h
    · injection h with _ h; rw [← h]; decide
    · cases h
  split at h
  · split at h
    · injection h with _ h; rw [← h]; decide
    · cases h
  split at h
  · split at h
    · cases h
    · injection h with _ h; rw [← h]; decide
  split at h
  · split at h
    · cases h
    · injection h with _ h; rw [← h]; decide
  split at h
  · cases h
  · injection h with _ h; rw [← h]; decide
theorem tok_len (l : L) : (tok l).2.length ≤ l.length := by
  have := congrArg List.length (tok_eq l)
  rw [List.length_append] at this; omega
theorem gt_good {c : Int} {t : L} {ty : Int} {r : L} (h : gt (c :: t) = .good ty r) : r.length ≤ (c :: t).length ∧ (ty = 1 → 2 ≤ (c :: t).length - r.length) := by
  have htok := tok_len (c :: t)
  rw [gt] at h
  split at h
  · split at h
    · cases h
    · rename_i x hx
      injection h with h1 h2
      have := Fp.rs_len t false x.1 x.2 hx
      rw [← h2]
      simp only [List.length_cons]
      exact ⟨by omega, fun _ => by omega⟩
  split at h
  · split at h
    · cases h
    · rename_i x hx
      injection h with h1 h2
      have := be_lt' hx
      rw [← h2]
      simp only [List.length_cons] at this ⊢
      exact ⟨by omega, fun e => absurd (h1.trans e) (by decide)⟩
  split at h
  · split at h
    · cases h
    · rename_i x hx
      injection h with h1 h2
      have := be_lt' hx
      rw [← h2]
      simp only [List.length_cons] at this ⊢
      exact ⟨by omega, fun e => absurd (h1.trans e) (by decide)⟩
  split at h
  · split at h
    · injection h with h1 h2
      rw [← h2]
      exact ⟨htok, fun e => absurd (h1.trans e) (by decide)⟩
    · cases h
  split at h
  · split at h
    · injection h with h1 h2
      rw [← h2]
      exact ⟨htok, fun e => absurd (h1.trans e) (by decide)⟩
    · cases h
  split at h
  · injection h with h1 h2
    rw [← h2]
    exact ⟨htok, fun e => absurd (h1.trans e) (by decide)⟩
  · cases h
set_option maxHeartbeats 16000000 in
set_option maxRecDepth 100000 in
theorem iget_any (w : World) (b o c : Nat) (l : L) (A : Option Addr) (keys : List ByteArray) (ck : Nat) (T : Int → TypeId) (E : Int → Value) (eT : TypeId) (eV : Value) (hT : Tab w) (hE : w.cell? ⟨8, 0, none⟩ = some (.iface eT eV)) (hEr : Er w T E)
    (hb : ∀ x ∈ l, byt x) (hi : In w b o l) (hl : l.length ≤ 2147483647) (hlc : l.length ≤ c) (hA : Kd.string.C w A keys.length keys) (hck : keys.length ≤ ck) (hkl : keys.length ≤ 2147483647) (hno : start keys l ≠ .out) :
    Calls Tryd.prog 53 #[cfgV 0 false false, .slice (some ⟨b, o, none⟩) l.length c, .slice A keys.length ck] w (IP w T E (jget keys l)) := by
  have HI := Lib.hid hi
  have HBy := Lib.hid hb
  have HEr := Lib.hid hEr
  obtain ⟨w1, hw1⟩ : ∃ z, z = w.alloc (.cells #[.bool false, .bool false, .int .i64 0] tCfg) := ⟨_, rfl⟩
  have HBX : Hid (Bx w w1 0 false) := Lib.hid ⟨by rw [hw1]; exact Below.refl _ _⟩
  have HSE := Lib.hid (search_any w1 b o c l A keys ck eT eV (tab_below hT HBX.out.below) ((HBX.out.below.cell (p := ⟨8, 0, none⟩) (block_lt_of_cell hE)).trans hE) hb (in_below hi HBX.out.below) hl hlc (Kd.C_below hA HBX.out.below) hck hkl hno)
  have kb0 : w1.cell? ⟨w.heap.size, 0, none⟩ = some (.bool false) := HBX.out.cell 0
  have kb1 : w1.cell? ⟨w.heap.size, 1, none⟩ = some (.bool false) := HBX.out.cell 1
  have kb2 : w1.cell? ⟨w.heap.size, 2, none⟩ = some (.int .i64 0) := HBX.out.cell 2
  have HJ : Hid (jget keys l = match start keys l with
    | .out => .out
    | .no => .no
    | .yes u => match skip u with
      | [] => .bad 0 0
      | c :: t => match gt (c :: t) with
        | .bad ty e => .bad ty e
        | .good ty r => .yes (bare ty ((c :: t).take ((c :: t).length - r.length))) ty (l.length - (c :: t).length) (l.length - r.length)) := Lib.hid rfl
  obtain ⟨goal, hgoal⟩ : ∃ g, g = jget keys l := ⟨_, rfl⟩
  rw [← hgoal] at HJ ⊢
  obtain ⟨st, hst⟩ : ∃ st, st = start keys l := ⟨_, rfl⟩
  rw [← hst] at HJ HSE hno
  have HST := Lib.hid hst
  clear hi hb hT hE hEr hA hgoal hst
  have hw1' := Lib.hid hw1
  clear hw1
  unfold cfgV at HSE ⊢
  go_enter Tryd.func53, Tryd.ntmps53
  go_upto_region 1 with (fail)
  rw [show w.alloc (.cells #[.bool false, .bool false, .int .i64 0] 84) = w1 from hw1'.out.symm]
  clear hw1'
  cases st with
  | out => exact absurd rfl hno
  | no =>
    have HG2 : Hid (goal = .no) := Lib.hid HJ.out
    have hkp : 0 < keys.length := by
      rcases Nat.eq_zero_or_pos keys.length with h | h
      · exfalso
        have h2 : keys = [] := List.eq_nil_of_length_eq_zero h
        have := HST.out
        rw [h2] at this
        unfold start at this
        rw [if_pos rfl] at this
        cases this
      · exact h
    have d1 : decide (0 < keys.length) = true := decide_eq_true hkp
    have d2 : decide ((0 : Int) < (keys.length : Int)) = true := decide_eq_true (by omega)
    clear HJ HST hno
    go_upto_region 3 with (go_at_call 52; refine HSE.out.mono ?_; rintro e w2 ⟨rfl, hb2⟩; replace hb2 := Lib.hid hb2; have ec : w2.cell? ⟨gKey, 0, none⟩ = some (.iface (T 5) (E 5)) := (HEr.out.below (below_then HBX.out.below HBX.out.below.size hb2.out)).k)
    show Code.wp _ _ _ _ _
    go_wp2
    go_quiet (fail)
    go_wp2
    (try simp only [Exit.inBlock, Exit.then]); refine bodyPost_ret (results_tmp5 rfl _ _ _) rfl ?_
    rw [HG2.out]
    exact ⟨pw_below_drewN (below_then HBX.out.below HBX.out.below.size hb2.out) _, rfl⟩
  | yes u =>
    obtain ⟨a, ha⟩ := start_pre HST.out.symm
    have hal := congrArg List.length ha
    rw [List.length_append] at hal
    obtain ⟨k0, hk0⟩ : ∃ k0 : Nat, k0 = a.length := ⟨_, rfl⟩
    have hdk : l.drop k0 = u := by rw [hk0, ha, List.drop_left' rfl]
    have HJ2 : Hid (goal = match skip u with
      | [] => .bad 0 0
      | c :: t => match gt (c :: t) with
        | .bad ty e => .bad ty e
        | .good ty r => .yes (bare ty ((c :: t).take ((c :: t).length - r.length))) ty (l.length - (c :: t).length) (l.length - r.length)) := Lib.hid HJ.out
    have hsI : sI l (.yes u) = (k0 : Int) := by show (l.length : Int) - u.length = _; omega
    rw [hsI] at HSE
    have hk0l : k0 ≤ l.length := by omega
    have hnil : keys = [] → k0 = 0 := fun e => by
      have h1 := HST.out
      rw [e] at h1
      unfold start at h1
      rw [if_pos rfl] at h1
      injection h1 with h1
      have := congrArg List.length h1
      omega
    clear HJ HST hno ha hal hk0 hsI
    obtain ⟨o', r0, c', hr, hrl, hrc, ksl, hIr⟩ := cut_in b o c l k0 hk0l hlc
    have hru : r0 = u := hr.trans hdk
    subst hru
    have HDK := Lib.hid hdk
    clear hr hdk
    obtain ⟨bz, hbz⟩ : ∃ z : Bool, z = decide (0 < keys.length) := ⟨_, rfl⟩
    have d1 : decide (0 < keys.length) = bz := hbz.symm
    have d2 : decide ((0 : Int) < (keys.length : Int)) = bz := by rw [hbz]; congr 1; simp
    have HBZ := Lib.hid hbz
    clear hbz
    go_upto_if 14 with (fail)
    clear d1 d2
    go_cut [8] (fun v8 W => Hid (v8 = .int .i64 (k0 : Int) ∧ Bx w W 0 false))
    case first =>
      cases bz with
      | false =>
        have hkz : keys.length = 0 := by have := of_decide_eq_false HBZ.out.symm; omega
        have hz := hnil (List.eq_nil_of_length_eq_zero hkz)
        subst hz
        clear hkz hnil
        go_wp2
        go_meet
        case rel => exact Lib.hid ⟨rfl, HBX.out⟩
      | true =>
        have x1 : ((k0 : Int) == -1) = false := beq_eq_false_iff_ne.mpr (by omega)
        clear hnil
        go_wp2_with (go_at_call 52; refine HSE.out.mono ?_; rintro e w2 ⟨rfl, hb2⟩; replace hb2 := Lib.hid hb2)
        go_meet
        case rel => exact Lib.hid ⟨rfl, HBX.out.more hb2.out⟩
    case rest =>
      obtain ⟨rfl, hB3⟩ := hcut.out
      have HB3 := Lib.hid hB3
      clear hcut hB3 hnil HSE kb0 kb1 kb2
      have HB3d := Lib.hid HB3.out.drew
      have HId : Hid (In wc.drew b o l) := Lib.hid (in_below HI.out HB3d.out.below)
      have HNT := Lib.hid (nextTok_any wc.drew b o' c' r0 0 false false (hIr _ HId.out) (by omega))
      obtain ⟨q, hq⟩ : ∃ q, nt r0 = q := ⟨_, rfl⟩
      rw [hq] at HNT
      have HQ := Lib.hid hq
      unfold cfgV at HNT
      have kb0 : wc.cell? ⟨w.heap.size, 0, none⟩ = some (.bool false) := HB3.out.cell 0
      have kb1 : wc.cell? ⟨w.heap.size, 1, none⟩ = some (.bool false) := HB3.out.cell 1
      have kb2 : wc.cell? ⟨w.heap.size, 2, none⟩ = some (.int .i64 0) := HB3.out.cell 2
      clear hq
      go_upto_region 5 with (fail)
      go_cut [11] (fun v11 W => Hid (v11 = .int .i64 q ∧ Bx w W 0 false))
      case first =>
        go_region_with ((go_at_call 60; refine HNT.out.mono ?_; rintro e w2 ⟨rfl, hb2⟩; replace hb2 := Lib.hid hb2))
        all_goals
          go_wp2_with fail
          go_meet
          case rel => exact Lib.hid ⟨rfl, HB3d.out.more hb2.out⟩
      case rest =>
        obtain ⟨rfl, hB4⟩ := hcut.out
        have HB4 := Lib.hid hB4
        clear hcut hB4 HNT kb0 kb1 kb2 HB3d HId
        cases hsk1 : skip r0 with
        | nil =>
          have e1 : q = -1 := by rw [← HQ.out, nt_nil hsk1]
          have HG2 : Hid (goal = .bad 0 0) := Lib.hid (by rw [HJ2.out, hsk1])
          have ec : wc.cell? ⟨gJso, 0, none⟩ = some (.iface (T 6) (E 6)) := (HEr.out.below HB4.out.below).j
          subst e1
          clear hsk1
          go_wp2
          go_quiet (fail)
          go_wp2
          (try simp only [Exit.inBlock, Exit.then]); refine bodyPost_ret (results_tmp5 rfl _ _ _) rfl ?_
          rw [HG2.out]
          exact ⟨(HB4.out.drewN _).below, _, _, rfl⟩
        | cons d t =>
          have e1 : q = (r0.length : Int) - (t.length + 1 : Nat) := by rw [← HQ.out, nt_some hsk1]
          have htl := skip_le r0
          rw [hsk1, List.length_cons] at htl
          obtain ⟨k1, hk1⟩ : ∃ k1 : Nat, k1 = k0 + (r0.length - (t.length + 1)) := ⟨_, rfl⟩
          have hd1 : l.drop k1 = d :: t := by rw [hk1, ← List.drop_drop, HDK.out, skip_at hsk1]
          have hk1l : k1 < l.length := by omega
          have hk1t : k1 + (t.length + 1) = l.length := by omega
          have hw1 : IntKind.i64.wrap ((k0 : Int) + q) = (k1 : Int) := by rw [IntWalk.i64_in _ (by omega)]; omega
          have x1 : (q == -1) = false := beq_eq_false_iff_ne.mpr (by omega)
          have HGT := Lib.hid (getType_any wc b o c l k1 0 false T E (HEr.out.below HB4.out.below) HBy.out (in_below HI.out HB4.out.below) hl hlc hk1l)
          rw [hd1] at HGT
          have HJ3 : Hid (goal = match gt (d :: t) with
            | .bad ty e => .bad ty e
            | .good ty r => .yes (bare ty ((d :: t).take ((d :: t).length - r.length))) ty (l.length - (d :: t).length) (l.length - r.length)) := Lib.hid (by rw [HJ2.out, hsk1])
          have HD1 := Lib.hid hd1
          have kb0 : wc.cell? ⟨w.heap.size, 0, none⟩ = some (.bool false) := HB4.out.cell 0
          have kb1 : wc.cell? ⟨w.heap.size, 1, none⟩ = some (.bool false) := HB4.out.cell 1
          have kb2 : wc.cell? ⟨w.heap.size, 2, none⟩ = some (.int .i64 0) := HB4.out.cell 2
          unfold cfgV at HGT
          clear hsk1 e1 hk1 hd1 HJ2
          cases hgt : gt (d :: t) with
          | bad ty ek =>
            rw [hgt] at HGT
            have hek : ek ≠ 0 := gt_ek hgt
            have HG2 : Hid (goal = .bad ty ek) := Lib.hid (by rw [HJ3.out, hgt])
            clear hgt HJ3
            go_wp2_with (go_at_call 68; refine HGT.out.mono ?_; rintro e w2 ⟨hb2, rfl⟩; replace hb2 := Lib.hid hb2)
            (try simp only [Exit.inBlock, Exit.then]); refine bodyPost_ret (results_tmp5 rfl _ _ _) rfl ?_
            rw [HG2.out]
            refine ⟨below_then HB4.out.below HB4.out.below.size hb2.out, (k1 : Int), (k1 : Int), ?_⟩
            unfold ek6
            rw [if_neg hek]; rfl
          | good ty r =>
            rw [hgt] at HGT
            have HG2 : Hid (goal = .yes (bare ty ((d :: t).take ((d :: t).length - r.length))) ty (l.length - (d :: t).length) (l.length - r.length)) := Lib.hid (by rw [HJ3.out, hgt])
            have hgl := gt_good hgt
            have hen : (l.length : Int) - r.length = ((l.length - r.length : Nat) : Int) := by simp only [List.length_cons] at hgl; omega
            obtain ⟨nn, hnn⟩ : ∃ nn, nn = (d :: t).length - r.length := ⟨_, rfl⟩
            obtain ⟨en, hen2⟩ : ∃ en : Nat, en = l.length - r.length := ⟨_, rfl⟩
            have hbg : l.length - (d :: t).length = k1 := by simp only [List.length_cons]; omega
            have HGT2 : Hid (Calls Tryd.prog 68 #[.agg #[.bool false, .bool false, .int .i64 0], .slice (some ⟨b, o, none⟩) l.length c, .int .i64 (k1 : Int)] wc fun e w' => Below wc.heap.size wc w' ∧ ∃ o2 c2, e = .returned (.tuple #[.slice (some ⟨b, o2, none⟩) nn c2, .int .i64 ty, .int .i64 (en : Int), .nilIface]) ∧ nn ≤ c2 ∧ In w' b o2 ((d :: t).take nn)) :=
              Lib.hid (HGT.out.mono (by
                rintro e w' ⟨h1, o2, c2, h2, h3, h4, h5⟩
                rw [HD1.out] at h2 h3 h5
                rw [← hnn] at h2 h3 h5
                rw [hen, ← hen2] at h2
                exact ⟨h1, o2, c2, h2, h3, h5⟩))
            have hnl : ((d :: t).take nn).length = nn := by rw [List.length_take, hnn]; simp only [List.length_cons]; omega
            have HNL := Lib.hid hnl
            have HG3 : Hid (goal = .yes (bare ty ((d :: t).take nn)) ty k1 en) := Lib.hid (by rw [HG2.out, hbg, ← hnn, ← hen2])
            have hn2 : ty = 1 → 2 ≤ nn := fun e => by rw [hnn]; exact hgl.2 e
            have hnb : nn ≤ 2147483647 := by rw [hnn]; simp only [List.length_cons]; omega
            clear hgt HJ3 HG2 HGT hgl hen hnn hen2 hbg hnl
            by_cases ht1 : ty = 1
            · have h2 := hn2 ht1
              have x2 : (ty == 1) = true := beq_iff_eq.mpr ht1
              have HG4 : Hid (goal = .yes ((((d :: t).take nn).drop 1).take (nn - 2)) ty k1 en) := Lib.hid (by rw [HG3.out]; unfold bare; rw [if_pos ht1, HNL.out])
              have hwn : IntKind.i64.wrap ((nn : Int) - 1) = ((nn - 1 : Nat) : Int) := by rw [IntWalk.i64_in _ (by omega)]; omega
              clear ht1 hn2
              go_upto_region 13 with (go_at_call 68; refine HGT2.out.mono ?_; rintro e w2 ⟨hb2, o2, c2, rfl, hc2, hI2⟩; replace hb2 := Lib.hid hb2; replace hI2 := Lib.hid hI2)
              obtain ⟨o3, v, c3, hv, hvl, hvc, ksl2, hIv⟩ := cut_mid b o2 c2 ((d :: t).take nn) 1 (nn - 1) (by omega) (by rw [HNL.out]; omega) (by rw [HNL.out]; exact hc2)
              rw [HNL.out] at ksl2
              obtain ⟨o4, kfull, ho4⟩ := cut_full b o3 v.length c3 hvc
              have HV : Hid (v = (((d :: t).take nn).drop 1).take (nn - 2)) := Lib.hid (by rw [hv, show nn - 1 - 1 = nn - 2 by omega])
              have HO4 := Lib.hid ho4
              have ksl3 : ∀ W : World, (Instr.slice tBs (.slice (some ⟨b, o2, none⟩) nn c2) (some (.int .i64 1)) (some (.int .i64 ((nn - 1 : Nat) : Int))) none).run Tryd.prog W = .ok (.slice (some ⟨b, o3, none⟩) v.length c3) W := fun W => ksl2 W
              clear hv hvl ksl2 ho4
              go_wp2
              (try simp only [Exit.inBlock, Exit.then]); refine bodyPost_ret (results_tmp5 rfl _ _ _) rfl ?_
              rw [HG4.out, ← HV.out]
              refine ⟨below_then HB4.out.below HB4.out.below.size hb2.out, b, o4, _, rfl, ?_⟩
              intro x hx
              rw [HO4.out (by omega)]
              exact hIv _ hI2.out x hx
            · have x2 : (ty == 1) = false := beq_eq_false_iff_ne.mpr ht1
              have HG4 : Hid (goal = .yes ((d :: t).take nn) ty k1 en) := Lib.hid (by rw [HG3.out]; unfold bare; rw [if_neg ht1])
              clear ht1 hn2
              go_upto_region 14 with (go_at_call 68; refine HGT2.out.mono ?_; rintro e w2 ⟨hb2, o2, c2, rfl, hc2, hI2⟩; replace hb2 := Lib.hid hb2; replace hI2 := Lib.hid hI2)
              obtain ⟨o4, kfull, ho4⟩ := cut_full b o2 nn c2 hc2
              have HO4 := Lib.hid ho4
              clear ho4
              go_wp2
              (try simp only [Exit.inBlock, Exit.then]); refine bodyPost_ret (results_tmp5 rfl _ _ _) rfl ?_
              rw [HG4.out]
              refine ⟨below_then HB4.out.below HB4.out.below.size hb2.out, b, o4, _, by rw [HNL.out]; rfl, ?_⟩
              intro x hx
              rw [HO4.out (by rw [HNL.out] at hx; omega)]
              exact hI2.out x hx
end Go.Proofs.YthehnffmbdlopaaDoor.Jp

set_option linter.unusedVariables false
namespace Go.Proofs.YthehnffmbdlopaaDoor.Jp
open Go.RowKit Go.Lib Go.ChangeShapes Go.Deep Go.Proofs.YthehnffmbdlopaaDoor.J

abbrev gCfg : Nat := 10
abbrev gEsc : Nat := 8
abbrev gTab : Nat := 12
/-- What the package's variables hold. -/
structure Gl (w : World) (T : Int → TypeId) (E : Int → Value) (eT : TypeId) (eV : Value) : Prop where
  c0 : w.cell? ⟨gCfg, 0, none⟩ = some (.bool false)
  c1 : w.cell? ⟨gCfg, 1, none⟩ = some (.bool false)
  c2 : w.cell? ⟨gCfg, 2, none⟩ = some (.int .i64 0)
  e : w.cell? ⟨gEsc, 0, none⟩ = some (.iface eT eV)
  t : Tab w
  er : Er w T E
theorem Gl.below {w w' : World} {T : Int → TypeId} {E : Int → Value} {eT : TypeId} {eV : Value} (h : Gl w T E eT eV) (b : Below w.heap.size w w') : Gl w' T E eT eV :=
  ⟨(b.cell (p := ⟨gCfg, 0, none⟩) (block_lt_of_cell h.c0)).trans h.c0, (b.cell (p := ⟨gCfg, 1, none⟩) (block_lt_of_cell h.c1)).trans h.c1, (b.cell (p := ⟨gCfg, 2, none⟩) (block_lt_of_cell h.c2)).trans h.c2, (b.cell (p := ⟨gEsc, 0, none⟩) (block_lt_of_cell h.e)).trans h.e, tab_below h.t b, h.er.below b⟩
def tabZ : List Int := [0, 0, 0, 0, 0, 0, 0, 0, 0, 0, 0, 0, 0, 0, 0, 0, 0, 0, 0, 0, 0, 0, 0, 0, 0, 0, 0, 0, 0, 0, 0, 0, 0, 0, 34, 0, 0, 0, 0, 0, 0, 0, 0, 0, 0, 0, 0, 47, 0, 0, 0, 0, 0, 0, 0, 0, 0, 0, 0, 0, 0, 0, 0, 0, 0, 0, 0, 0, 0, 0, 0, 0, 0, 0, 0, 0, 0, 0, 0, 0, 0, 0, 0, 0, 0, 0, 0, 0, 0, 0, 0, 0, 92, 0, 0, 0, 0, 0, 8, 0, 0, 0, 12, 0, 0, 0, 0, 0, 0, 0, 10, 0, 0, 0, 13, 0, 9]
def tabD {H : Type} : DataW H := Lib.tabData .u8 tabZ
theorem tabZ_at (c : Int) (h : plainEsc c = true) : tabZ.getD c.toNat 0 = short c ∧ c.toNat < tabZ.length := by
  have hc : c = 34 ∨ c = 92 ∨ c = 47 ∨ c = 98 ∨ c = 102 ∨ c = 110 ∨ c = 114 ∨ c = 116 := by unfold plainEsc at h; simpa [or_assoc] using h
  rcases hc with rfl | rfl | rfl | rfl | rfl | rfl | rfl | rfl <;> decide
theorem err_one {W : World} {name : String} {g : Nat} {d : DataW Unit} (hg : Tryd.prog.globalNamed name = some g) (ht : (Tryd.prog.globals[g]?).map (·.type) = some 60) (h : VarReads Tryd.prog W name (.iface "*errors.errorString" d)) : ∃ pt pv, W.cell? ⟨g, 0, none⟩ = some (.iface pt pv) := by
  obtain ⟨g2, t2, cs2, f2, p2, hg2, ht2, hv2, hd2⟩ := h
  obtain rfl := Option.some.inj (hg.symm.trans hg2)
  obtain rfl := Option.some.inj (ht.symm.trans ht2)
  obtain ⟨fuel', u, v, e2, _, _⟩ := iface_of_trod Tryd.underlying60 hd2
  refine ⟨u, v, ?_⟩
  rw [World.var?_cell hg2 hv2 0, ← Array.getElem?_toList, e2]; rfl
theorem gl_of {W : World} {d d1 d2 d3 d4 d5 d6 : DataW Unit}
    (h0 : VarReads Tryd.prog W "pub-tetrapla/pub/jsonparser.DefaultConfig" (.agg [.lit (.bool false), .lit (.bool false), .lit (.int .i64 0)]))
    (h1 : VarReads Tryd.prog W "pub-tetrapla/pub/jsonparser.backslashCharEscapeTable" tabD)
    (h2 : VarReads Tryd.prog W "pub-tetrapla/pub/jsonparser.MalformedStringEscapeError" (.iface "*errors.errorString" d))
    (k1 : VarReads Tryd.prog W "pub-tetrapla/pub/jsonparser.MalformedStringError" (.iface "*errors.errorString" d1))
    (k2 : VarReads Tryd.prog W "pub-tetrapla/pub/jsonparser.MalformedArrayError" (.iface "*errors.errorString" d2))
    (k3 : VarReads Tryd.prog W "pub-tetrapla/pub/jsonparser.MalformedObjectError" (.iface "*errors.errorString" d3))
    (k4 : VarReads Tryd.prog W "pub-tetrapla/pub/jsonparser.UnknownValueTypeError" (.iface "*errors.errorString" d4))
    (k5 : VarReads Tryd.prog W "pub-tetrapla/pub/jsonparser.KeyPathNotFoundError" (.iface "*errors.errorString" d5))
    (k6 : VarReads Tryd.prog W "pub-tetrapla/pub/jsonparser.MalformedJsonError" (.iface "*errors.errorString" d6)) : ∃ T E eT eV, Gl W T E eT eV := by
  obtain ⟨eT, eV, he⟩ := err_one (g := gEsc) (by kernel_rfl) (by kernel_rfl) h2
  obtain ⟨t1, v1, e1⟩ := err_one (g := gStr) (by kernel_rfl) (by kernel_rfl) k1
  obtain ⟨t2, v2, e2⟩ := err_one (g := gArr) (by kernel_rfl) (by kernel_rfl) k2
  obtain ⟨t3, v3, e3⟩ := err_one (g := gObj) (by kernel_rfl) (by kernel_rfl) k3
  obtain ⟨t4, v4, e4⟩ := err_one (g := gUnk) (by kernel_rfl) (by kernel_rfl) k4
  obtain ⟨t5, v5, e5⟩ := err_one (g := gKey) (by kernel_rfl) (by kernel_rfl) k5
  obtain ⟨t6, v6, e6⟩ := err_one (g := gJso) (by kernel_rfl) (by kernel_rfl) k6
  obtain ⟨g0, t0, cs0, f0, p0, hg0, ht0, hv0, hd0⟩ := h0
  obtain ⟨g1, tt1, cs1, f1, p1, hg1, ht1, hv1, hd1⟩ := h1
  obtain rfl := Option.some.inj ((show Tryd.prog.globalNamed "pub-tetrapla/pub/jsonparser.DefaultConfig" = some gCfg by kernel_rfl).symm.trans hg0)
  obtain rfl := Option.some.inj ((show Tryd.prog.globalNamed "pub-tetrapla/pub/jsonparser.backslashCharEscapeTable" = some gTab by kernel_rfl).symm.trans hg1)
  obtain rfl := Option.some.inj ((show (Tryd.prog.globals[gCfg]?).map (·.type) = some 84 by kernel_rfl).symm.trans ht0)
  obtain rfl := Option.some.inj ((show (Tryd.prog.globals[gTab]?).map (·.type) = some 116 by kernel_rfl).symm.trans ht1)
  have k1 : Tryd.prog.cellsOf 5 = 1 := by kernel_rfl
  have k2 : Tryd.prog.cellsOf 116 = 117 := by kernel_rfl
  have ee1 := Lib.cells_of_tab Tryd.underlying116 Tryd.underlying5 k1 k2 hd1
  have kb : Tryd.prog.cellsOf 4 = 1 := by kernel_rfl
  have ki : Tryd.prog.cellsOf 3 = 1 := by kernel_rfl
  have kc : Tryd.prog.cellsOf 84 = 3 := by kernel_rfl
  obtain ⟨y0, y1, y2, n, ex, hl, a0, a1, a2⟩ := trod_struct3 Tryd.underlying84 hd0
  obtain ⟨b0, q0, rfl⟩ := DataW.trod_bool Tryd.underlying4 a0
  obtain ⟨b1, q1, rfl⟩ := DataW.trod_bool Tryd.underlying4 a1
  obtain ⟨b2, q2, rfl, _⟩ := DataW.trod_int Tryd.underlying3 a2
  simp only [Prod.mk.injEq, DataW.agg.injEq, List.cons.injEq, DataW.lit.injEq, Lit.bool.injEq, Lit.int.injEq, and_true, true_and] at ex
  obtain ⟨⟨rfl, rfl, rfl⟩, _⟩ := ex
  rw [kc] at hl
  have i0 := World.var?_cell hg0 hv0 0
  have i1 := World.var?_cell hg0 hv0 1
  have i2 := World.var?_cell hg0 hv0 2
  refine ⟨fun i => if i = 1 then t1 else if i = 2 then t2 else if i = 3 then t3 else if i = 4 then t4 else if i = 5 then t5 else t6, fun i => if i = 1 then v1 else if i = 2 then v2 else if i = 3 then v3 else if i = 4 then v4 else if i = 5 then v5 else v6, eT, eV, ⟨?_, ?_, ?_, he, ?_, ⟨e1, e2, e3, e4, e5, e6⟩⟩⟩
  · rw [i0, ← Array.getElem?_toList]
    have h0 := congrArg (·[0]?) q0
    simpa [kb, List.getElem?_take, List.getElem?_drop] using h0
  · rw [i1, ← Array.getElem?_toList]
    have h0 := congrArg (·[0]?) q1
    simpa [kb, List.getElem?_take, List.getElem?_drop] using h0
  · rw [i2, ← Array.getElem?_toList]
    have h0 := congrArg (·[0]?) q2
    simpa [ki, List.getElem?_take, List.getElem?_drop] using h0
  · intro c hc
    obtain ⟨z1, z2⟩ := tabZ_at c hc
    have := World.var?_cell hg1 hv1 c.toNat
    rw [this, ← Array.getElem?_toList, ee1, ← z1]
    simp [List.getD_eq_getElem?_getD, z2]
end Go.Proofs.YthehnffmbdlopaaDoor.Jp

set_option linter.unusedVariables false
set_option linter.unusedSimpArgs false
namespace Go.Proofs.YthehnffmbdlopaaDoor.Jp
open Go.RowKit Go.Proofs.YthehnffmbdlopaaDoorW.PrintWords Go.Proofs.YthehnffmbdlopaaDoorW.PrintLast Go.Proofs.YthehnffmbdlopaaDoorW.PrintMore Go.Proofs.YthehnffmbdlopaaDoor.Aid Go.Proofs.YthehnffmbdlopaaDoor.J

set_option maxHeartbeats 8000000 in
set_option maxRecDepth 100000 in
theorem internalGet_yes (w : World) (b o c : Nat) (l : L) (A : Option Addr) (keys : List ByteArray) (ck : Nat) (T : Int → TypeId) (E : Int → Value) (eT : TypeId) (eV : Value) (hG : Gl w T E eT eV)
    (hb : ∀ x ∈ l, byt x) (hi : In w b o l) (hl : l.length ≤ 2147483647) (hlc : l.length ≤ c) (hA : Kd.string.C w A keys.length keys) (hck : keys.length ≤ ck) (hkl : keys.length ≤ 2147483647) {v : L} {ty : Int} {bg en : Nat} (hj : jget keys l = .yes v ty bg en) :
    Calls Tryd.prog 45 #[.slice (some ⟨b, o, none⟩) l.length c, .slice A keys.length ck] w fun e w' => Below w.heap.size w w' ∧ ∃ b o c, e = .returned (.tuple #[.slice (some ⟨b, o, none⟩) v.length c, .int .i64 ty, .int .i64 (bg : Nat), .int .i64 (en : Nat), .nilIface]) ∧ In w' b o v := by
  have hno : start keys l ≠ .out := fun e => by unfold jget at hj; rw [e] at hj; cases hj
  have KG := Lib.hid (iget_any w b o c l A keys ck T E eT eV hG.t hG.e hG.er hb hi hl hlc hA hck hkl hno)
  rw [hj] at KG
  have c0 := hG.c0; have c1 := hG.c1; have c2 := hG.c2
  clear hj hno hb hi hA hG
  unfold cfgV at KG
  go_enter Tryd.func45, Tryd.ntmps45
  go_wp2_with (go_at_call 53; refine KG.out.mono ?_; rintro e w2 ⟨hb2, b2, o2, c2, rfl, hI2⟩; replace hb2 := Lib.hid hb2; replace hI2 := Lib.hid hI2)
  (try simp only [Exit.inBlock, Exit.then]); refine bodyPost_ret (results_tmp5 rfl _ _ _) rfl ?_
  exact ⟨hb2.out, b2, o2, c2, rfl, hI2.out⟩
set_option maxHeartbeats 8000000 in
set_option maxRecDepth 100000 in
theorem Get_yes (w : World) (b o c : Nat) (l : L) (A : Option Addr) (keys : List ByteArray) (ck : Nat) (T : Int → TypeId) (E : Int → Value) (eT : TypeId) (eV : Value) (hG : Gl w T E eT eV)
    (hb : ∀ x ∈ l, byt x) (hi : In w b o l) (hl : l.length ≤ 2147483647) (hlc : l.length ≤ c) (hA : Kd.string.C w A keys.length keys) (hck : keys.length ≤ ck) (hkl : keys.length ≤ 2147483647) {v : L} {ty : Int} {bg en : Nat} (hj : jget keys l = .yes v ty bg en) :
    Calls Tryd.prog 28 #[.slice (some ⟨b, o, none⟩) l.length c, .slice A keys.length ck] w fun e w' => Below w.heap.size w w' ∧ ∃ b o c, e = .returned (.tuple #[.slice (some ⟨b, o, none⟩) v.length c, .int .i64 ty, .int .i64 (en : Nat), .nilIface]) ∧ In w' b o v := by
  have KG := Lib.hid (internalGet_yes w b o c l A keys ck T E eT eV hG hb hi hl hlc hA hck hkl hj)
  clear hj hb hi hA hG
  go_enter Tryd.func28, Tryd.ntmps28
  go_wp2_with (go_at_call 45; refine KG.out.mono ?_; rintro e w2 ⟨hb2, b2, o2, c2, rfl, hI2⟩; replace hb2 := Lib.hid hb2; replace hI2 := Lib.hid hI2)
  (try simp only [Exit.inBlock, Exit.then]); refine bodyPost_ret (results_tmp4 rfl _ _ _) rfl ?_
  exact ⟨hb2.out, b2, o2, c2, rfl, hI2.out⟩

abbrev tFo : Nat := 35
set_option maxHeartbeats 8000000 in
set_option maxRecDepth 100000 in
theorem JpGet_yes (s : ByteArray) (hs : s.size ≤ 2147483647) (w : World) (A : Option Addr) (keys : List ByteArray) (ck : Nat) (T : Int → TypeId) (E : Int → Value) (eT : TypeId) (eV : Value) (hG : Gl w T E eT eV)
    (hA : Kd.string.C w A keys.length keys) (hck : keys.length ≤ ck) (hkl : keys.length ≤ 2147483647) {v : L} {ty : Int} {bg en : Nat} (hj : jget keys (bytesOf s) = .yes v ty bg en) :
    Calls Tryd.prog 13 #[.string s, .slice A keys.length ck] w fun e w' => Below w.heap.size w w' ∧ e = .returned (.tuple #[.agg #[.string ⟨#[]⟩, .string (strOfNums v), .int .i64 ty, .int .i64 (en : Nat)], .bool true]) := by
  have hlen := bytesOf_length s
  have kb := print_bytes (P := Tryd.prog) 9 57 5 Tryd.underlying9 Tryd.underlying57 Tryd.underlying5 s
  have KG := Lib.hid (fun (W : World) (hB : Below w.heap.size w W) => (show Calls Tryd.prog 28 #[.slice (some ⟨W.heap.size, 0, none⟩) s.size (grownCap W s.size 0 5), .slice A keys.length ck] (Lib.bytesWorld W 5 s) _ from by
    have hB1 : Below w.heap.size w (Lib.bytesWorld W 5 s) := bytes_below hB hB.size _ _
    have K := Get_yes (Lib.bytesWorld W 5 s) W.heap.size 0 (grownCap W s.size 0 5) (bytesOf s) A keys ck T E eT eV (hG.below hB1) (fun x hx => by have := bytesOf_range s x hx; exact ⟨this.1, by omega⟩) (bytes_at W s) (by omega) (by rw [hlen]; exact grownCap_ge ..) (Kd.C_below hA hB1) hck hkl hj
    rw [hlen] at K
    exact K))
  have HBB : Hid (∀ W, Below w.heap.size w W → Below w.heap.size w (Lib.bytesWorld W 5 s)) := Lib.hid (fun W h => bytes_below h h.size _ _)
  clear hj hG hA hlen
  go_enter Tryd.func13, Tryd.ntmps13
  have HQ : Hid ((w.alloc (.cells #[.string ⟨#[]⟩, .string ⟨#[]⟩, .int .i64 0, .int .i64 0] tFo)).heap[w.heap.size]? = some (.cells #[.string ⟨#[]⟩, .string ⟨#[]⟩, .int .i64 0, .int .i64 0] tFo (0, 0))) := Lib.hid (blk_new _ _)
  have HB0 : Hid (Below w.heap.size w (w.alloc (.cells #[.string ⟨#[]⟩, .string ⟨#[]⟩, .int .i64 0, .int .i64 0] tFo))) := Lib.hid (below_alloc (Below.refl _ _) _)
  have HS1 : Hid (Below (w.alloc (.cells #[.string ⟨#[]⟩, .string ⟨#[]⟩, .int .i64 0, .int .i64 0] tFo)).heap.size (w.alloc (.cells #[.string ⟨#[]⟩, .string ⟨#[]⟩, .int .i64 0, .int .i64 0] tFo)) (Lib.bytesWorld (w.alloc (.cells #[.string ⟨#[]⟩, .string ⟨#[]⟩, .int .i64 0, .int .i64 0] tFo)) 5 s)) := Lib.hid (bytes_below (Below.refl _ _) (Nat.le_refl _) _ _)
  obtain ⟨W1, hW1⟩ : ∃ z, z = w.alloc (.cells #[.string ⟨#[]⟩, .string ⟨#[]⟩, .int .i64 0, .int .i64 0] tFo) := ⟨_, rfl⟩
  rw [← hW1] at HQ HB0 HS1
  have HW1 := Lib.hid hW1
  clear hW1
  go_upto_region 1 with (fail)
  rw [show w.alloc (.cells #[.string { data := #[] }, .string { data := #[] }, .int .i64 0, .int .i64 0] 35) = W1 from HW1.out.symm]
  have KG1 := Lib.hid (KG.out W1 HB0.out)
  clear KG HW1
  go_wp2_with (go_at_call 28; refine KG1.out.mono ?_; rintro e w2 ⟨hb2, b2, o2, c2, rfl, hI2⟩; have HQ2 := Lib.hid (blk_below (blk_below HQ.out HS1.out) hb2); have HB2 := Lib.hid (below_then HB0.out HB0.out.size (below_then HS1.out HS1.out.size hb2)); have kc := in_str (c := c2) hI2; have r0 := blk_cell HQ2.out 0; have r1 := blk_cell HQ2.out 1; have r2 := blk_cell HQ2.out 2; have r3 := blk_cell HQ2.out 3; have g0 := blk_frozen HQ2.out 0; have g1 := blk_frozen HQ2.out 1; have g2 := blk_frozen HQ2.out 2; have g3 := blk_frozen HQ2.out 3; clear hb2 hI2)
  refine bodyPost_ret (v := .tuple #[.agg #[.string ⟨#[]⟩, .string (strOfNums v), .int .i64 ty, .int .i64 (en : Nat)], .bool true]) ?_ rfl ?_
  · simp [results, Tryd.results13, go_sem, r0, r1, r2, r3, g0, g1, g2, g3]
  · refine ⟨HB2.out.trans (But.to_below (g := w.heap.size) ?_ (Nat.le_refl _) HB2.out.size), rfl⟩
    repeat (first | with_reducible exact But.refl _ _ | with_reducible apply But.set)

theorem sl_to (s : ByteArray) (k : Nat) (h1 : k ≤ s.size) (W : World) : (Instr.slice 9 (.string s) none (some (.int .i64 (k : Int))) none).run Tryd.prog W = .ok (.string (s.extract 0 k)) W := by
  have h2 : (k : Int) ≤ (s.size : Int) := by omega
  go_simp
theorem sl_mid (s : ByteArray) (j k : Nat) (h0 : j ≤ k) (h1 : k ≤ s.size) (W : World) : (Instr.slice 9 (.string s) (some (.int .i64 (j : Int))) (some (.int .i64 (k : Int))) none).run Tryd.prog W = .ok (.string (s.extract j k)) W := by
  have h2 : (k : Int) ≤ (s.size : Int) := by omega
  have h3 : (j : Int) ≤ (k : Int) := by omega
  go_simp
set_option maxHeartbeats 4000000 in
set_option maxRecDepth 100000 in
theorem Raw_any (s : ByteArray) (hs : s.size ≤ 2147483647) (w : World) (k b e : Int) (A3 : Option Addr) (n3 c3 : Nat) (A4 : Option Addr) (n4 c4 : Nat) (h0 : 0 ≤ b) (h1 : b ≤ e) (h2 : e ≤ s.size) (h4 : k = 4 → b + 2 ≤ e) :
    Calls Tryd.prog 30 #[.string s, .agg #[.int .i64 k, .int .i64 b, .int .i64 e, .slice A3 n3 c3, .slice A4 n4 c4]] w fun en w' => en = .returned (.string (strOfNums (bare (jk k) (((bytesOf s).take e.toNat).drop b.toNat)))) ∧ Below w.heap.size w w' := by
  have hlen := bytesOf_length s
  have cutS : ∀ i j : Nat, i ≤ j → j ≤ s.size → s.extract i j = strOfNums (((bytesOf s).take j).drop i) := by
    intro i j hij hj
    rw [← str_of_bytes (s.extract i j), bytesOf_extract, List.drop_take]
  have hB : Hid (∀ ob, Below w.heap.size w (w.alloc ob)) := Lib.hid (fun ob => below_alloc (Below.refl _ _) ob)
  obtain ⟨i, hi⟩ : ∃ i : Nat, b = (i : Int) := ⟨b.toNat, by omega⟩
  obtain ⟨j, hj⟩ : ∃ j : Nat, e = (j : Int) := ⟨e.toNat, by omega⟩
  subst hi; subst hj
  rw [Int.toNat_natCast, Int.toNat_natCast]
  by_cases hk : k = 4
  · subst hk
    have h24 := h4 rfl
    have e1 : bare (jk 4) (((bytesOf s).take j).drop i) = ((bytesOf s).take (j - 1)).drop (i + 1) := by
      unfold bare jk
      rw [if_pos rfl, if_pos rfl, List.length_drop, List.length_take, List.drop_drop]
      have : min j (bytesOf s).length = j := by omega
      rw [this, List.drop_take, List.drop_take, List.take_take]
      congr 1
      omega
    obtain ⟨i1, hi1⟩ : ∃ z, z = i + 1 := ⟨_, rfl⟩
    obtain ⟨j1, hj1⟩ : ∃ z, z = j - 1 := ⟨_, rfl⟩
    rw [← hi1, ← hj1] at e1
    have hw1 : IntKind.i64.wrap ((i : Int) + 1) = (i1 : Int) := by rw [IntWalk.i64_in _ (by omega)]; omega
    have hw2 : IntKind.i64.wrap ((j : Int) - 1) = (j1 : Int) := by rw [IntWalk.i64_in _ (by omega)]; omega
    have ks : ∀ W : World, (Instr.slice 9 (.string s) (some (.int .i64 (i1 : Int))) (some (.int .i64 (j1 : Int))) none).run Tryd.prog W = .ok (.string (strOfNums (((bytesOf s).take j1).drop i1))) W := by
      intro W
      rw [← cutS i1 j1 (by omega) (by omega)]
      exact sl_mid s i1 j1 (by omega) (by omega) W
    rw [e1]
    have q1 : (i1 : Int) ≤ (j1 : Int) := by omega
    have q2 : (j1 : Int) ≤ (s.size : Int) := by omega
    clear h4 h24 e1 cutS hlen hi1 hj1
    go_enter Tryd.func30, Tryd.ntmps30
    go_wp2
    go_ret
    exact ⟨rfl, hB.out _⟩
  · have e1 : bare (jk k) (((bytesOf s).take j).drop i) = ((bytesOf s).take j).drop i := by
      unfold bare
      rw [if_neg]
      unfold jk
      rw [if_neg hk]
      split
      · decide
      split
      · decide
      split
      · decide
      split <;> decide
    have x4 : (k == 4) = false := beq_eq_false_iff_ne.mpr hk
    have ks : ∀ W : World, (Instr.slice 9 (.string s) (some (.int .i64 (i : Int))) (some (.int .i64 (j : Int))) none).run Tryd.prog W = .ok (.string (strOfNums (((bytesOf s).take j).drop i))) W := by
      intro W
      rw [← cutS i j (by omega) (by omega)]
      exact sl_mid s i j (by omega) (by omega) W
    rw [e1]
    clear hk h4 e1 cutS hlen
    go_enter Tryd.func30, Tryd.ntmps30
    go_wp2
    go_ret
    exact ⟨rfl, hB.out _⟩
set_option maxHeartbeats 4000000 in
set_option maxRecDepth 100000 in
theorem jpKind_any (k : Int) (w : World) : Calls Tryd.prog 29 #[.int .i64 k] w fun e w' => e = .returned (.int .i64 (jk k)) ∧ w' = w := by
  by_cases h4 : k = 4
  · subst h4; go_enter Tryd.func29, Tryd.ntmps29; go_wp2; go_ret; exact ⟨rfl, rfl⟩
  have x4 : (k == 4) = false := beq_eq_false_iff_ne.mpr h4
  by_cases h3 : k = 3
  · subst h3; go_enter Tryd.func29, Tryd.ntmps29; go_wp2; go_ret; exact ⟨rfl, rfl⟩
  have x3 : (k == 3) = false := beq_eq_false_iff_ne.mpr h3
  by_cases h6 : k = 6
  · subst h6; go_enter Tryd.func29, Tryd.ntmps29; go_wp2; go_ret; exact ⟨rfl, rfl⟩
  have x6 : (k == 6) = false := beq_eq_false_iff_ne.mpr h6
  by_cases h5 : k = 5
  · subst h5; go_enter Tryd.func29, Tryd.ntmps29; go_wp2; go_ret; exact ⟨rfl, rfl⟩
  have x5 : (k == 5) = false := beq_eq_false_iff_ne.mpr h5
  by_cases h2 : k = 2
  · subst h2; go_enter Tryd.func29, Tryd.ntmps29; go_wp2; go_ret; exact ⟨rfl, rfl⟩
  have x2 : (k == 2) = false := beq_eq_false_iff_ne.mpr h2
  by_cases h1 : k = 1
  · subst h1; go_enter Tryd.func29, Tryd.ntmps29; go_wp2; go_ret; exact ⟨rfl, rfl⟩
  have x1 : (k == 1) = false := beq_eq_false_iff_ne.mpr h1
  have e1 : jk k = 6 := by unfold jk; rw [if_neg h4, if_neg h3, if_neg h6, if_neg h5, if_neg (by omega)]
  rw [e1]
  clear h4 h3 h6 h5 h2 h1 e1
  go_enter Tryd.func29, Tryd.ntmps29
  go_wp2
  go_ret
  exact ⟨rfl, rfl⟩
end Go.Proofs.YthehnffmbdlopaaDoor.Jp
