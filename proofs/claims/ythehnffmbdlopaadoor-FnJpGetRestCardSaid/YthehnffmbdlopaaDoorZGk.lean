/- Several texts in one. -/
import Derived.Test.YthehnffmbdlopaaDoorZGi
import Derived.Test.YthehnffmbdlopaaDoorZGj
set_option linter.unusedVariables false
set_option linter.unusedSimpArgs false
namespace Go.Proofs.YthehnffmbdlopaaDoor.Jp
open Go.RowKit Go.Proofs.YthehnffmbdlopaaDoorW.PrintWords Go.Proofs.YthehnffmbdlopaaDoorW.PrintLast Go.Proofs.YthehnffmbdlopaaDoorW.PrintMore Go.Proofs.YthehnffmbdlopaaDoor.Aid Go.Proofs.YthehnffmbdlopaaDoor.J

theorem at_str {w : World} {A : Option Addr} {n : Nat} {xs : List ByteArray} (h : Kd.string.C w A n xs) (i : Nat) (h1 : i < n) : ∃ ad, A = some ad ∧ w.cell? (ad.add i) = some (.string (xs.getD i ⟨#[]⟩)) := by
  obtain ⟨ad, c, e, hz, hK, hc⟩ := Kd.C_get h (⟨#[]⟩ : ByteArray) (i : Int) (by omega) (by omega)
  refine ⟨ad, e, ?_⟩
  have hK' : c = [.string (xs.getD i ⟨#[]⟩)] := hK
  have := hc 0 _ (by rw [hK']; rfl)
  have hsz : Kd.string.sz = 1 := rfl
  rw [hsz] at this
  simpa using this
/-- What the search hands back. -/
def sI (l : L) : SR → Int
  | .yes u => (l.length : Int) - u.length
  | _ => -1

/-- The blocks of a call of the search: the configuration, the data's slice, the buffer. -/
structure Sx (w W : World) (b o c n : Nat) : Prop where
  x : Bx w W 0 false
  d : W.cell? ⟨w.heap.size + 1, 0, none⟩ = some (.slice (some ⟨b, o, none⟩) n c)
  r : ∃ cur, Row W (w.heap.size + 1 + 1) cur ∧ cur.length = 64
theorem Sx.size {w W : World} {b o c n : Nat} (h : Sx w W b o c n) : w.heap.size + 3 ≤ W.heap.size := by
  obtain ⟨cur, hr, _⟩ := h.r
  have := hr.lt
  omega
theorem Sx.more {w W W' : World} {b o c n : Nat} (h : Sx w W b o c n) (k : Below W.heap.size W W') : Sx w W' b o c n where
  x := h.x.more k
  d := (k.cell (p := ⟨w.heap.size + 1, 0, none⟩) (by have := h.size; show w.heap.size + 1 < _; omega)).trans h.d
  r := by
    obtain ⟨cur, ⟨t, hr⟩, hl⟩ := h.r
    exact ⟨cur, ⟨t, (k.block _ (by have := h.size; omega)).trans hr⟩, hl⟩
theorem Sx.drew {w W : World} {b o c n : Nat} (h : Sx w W b o c n) : Sx w W.drew b o c n := ⟨h.x.drew, h.d, h.r⟩
theorem Sx.below {w W : World} {b o c n : Nat} (h : Sx w W b o c n) : Below w.heap.size w W := h.x.below
theorem Sx.start (w : World) (b o c n : Nat) (cs : Array Value) (t : TypeId) (hs : cs.toList.length = 64) : Sx w (((w.alloc (.cells #[.bool false, .bool false, .int .i64 0] tCfg)).alloc (.cells #[.slice (some ⟨b, o, none⟩) n c] tBs)).alloc (.cells cs t)) b o c n := by
  have e1 : (w.alloc (.cells #[.bool false, .bool false, .int .i64 0] tCfg)).heap.size = w.heap.size + 1 := by simp
  have e2 : ((w.alloc (.cells #[.bool false, .bool false, .int .i64 0] tCfg)).alloc (.cells #[.slice (some ⟨b, o, none⟩) n c] tBs)).heap.size = w.heap.size + 1 + 1 := by simp
  have b1 : Bx w (w.alloc (.cells #[.bool false, .bool false, .int .i64 0] tCfg)) 0 false := ⟨by exact Below.refl _ _⟩
  have b2 := b1.more (below_alloc (Below.refl _ _) (.cells #[.slice (some ⟨b, o, none⟩) n c] tBs))
  have b3 := b2.more (below_alloc (Below.refl _ _) (.cells cs t))
  refine ⟨b3, ?_, cs.toList, ⟨t, ?_⟩, hs⟩
  · have h1 := blk_new (w.alloc (.cells #[.bool false, .bool false, .int .i64 0] tCfg)) (.cells #[.slice (some ⟨b, o, none⟩) n c] tBs)
    rw [e1] at h1
    exact (blk_cell (blk_alloc h1 (.cells cs t)) 0).trans rfl
  · have h1 := blk_new ((w.alloc (.cells #[.bool false, .bool false, .int .i64 0] tCfg)).alloc (.cells #[.slice (some ⟨b, o, none⟩) n c] tBs)) (.cells cs t)
    rw [e2] at h1
    rw [h1]
/-- Behind the unescaping: the buffer is written. -/
theorem Sx.unesc {w W W' : World} {b o c n : Nat} (h : Sx w W b o c n) (k : Below (w.heap.size + 2) W W') (r : ∃ cur, Row W' (w.heap.size + 1 + 1) cur ∧ cur.length = 64) : Sx w W' b o c n where
  x := ⟨⟨k.os.trans h.x.b.os, k.tape.trans h.x.b.tape, k.output.trans h.x.b.output, Nat.le_trans h.x.b.size k.size, fun i hi => (k.block i (by omega)).trans (h.x.b.block i hi)⟩⟩
  d := (k.cell (p := ⟨w.heap.size + 1, 0, none⟩) (by show w.heap.size + 1 < _; omega)).trans h.d
  r := r
theorem Sx.but {w W W' : World} {b o c n : Nat} (h : Sx w W b o c n) (k : But (w.heap.size + 1 + 1) W W') (r : ∃ cur, Row W' (w.heap.size + 1 + 1) cur ∧ cur.length = 64) : Sx w W' b o c n :=
  h.unesc ⟨k.os, k.tape, k.output, k.size, fun i hi => k.block i (by have := h.size; omega) (by omega)⟩ r
theorem Sx.from3 {w W W' : World} {b o c n : Nat} (h : Sx w W b o c n) (k : Below (w.heap.size + 3) W W') : Sx w W' b o c n where
  x := ⟨⟨k.os.trans h.x.b.os, k.tape.trans h.x.b.tape, k.output.trans h.x.b.output, Nat.le_trans h.x.b.size k.size, fun i hi => (k.block i (by omega)).trans (h.x.b.block i hi)⟩⟩
  d := (k.cell (p := ⟨w.heap.size + 1, 0, none⟩) (by show w.heap.size + 1 < _; omega)).trans h.d
  r := by
    obtain ⟨cur, ⟨t, hr⟩, hl⟩ := h.r
    exact ⟨cur, ⟨t, (k.block _ (by omega)).trans hr⟩, hl⟩
theorem Sx.set {w W : World} {b o c n g : Nat} (h : Sx w W b o c n) (hg : w.heap.size + 3 ≤ g) (i : Nat) (u : Value) : Sx w (W.setCell ⟨g, i, none⟩ u) b o c n := h.from3 ((Below.refl _ _).setCell hg u)
theorem in_far {W : World} {bq oq g : Nat} {q : L} {t : TypeId} (hI : In W bq oq q) (hg : W.heap[g]? = some (.cells #[.slice none 0 0] t (0, 0))) (u : Value) : In (W.setCell ⟨g, 0, none⟩ u) bq oq q := by
  by_cases e : bq = g
  · subst e
    intro j hj
    have h1 := hI j hj
    have h2 := blk_cell hg (oq + j)
    rw [h2] at h1
    exfalso
    cases hz : oq + j with
    | zero => rw [hz] at h1; cases h1
    | succ k => rw [hz] at h1; simp at h1
  · exact hI.block (Below.heap_setCell W ⟨g, 0, none⟩ u bq e)
theorem tab_below {w W : World} (h : Tab w) (b : Below w.heap.size w W) : Tab W := fun c hc => (b.cell (p := ⟨12, c.toNat, none⟩) (block_lt_of_cell (h c hc))).trans (h c hc)
theorem tab_lt {w : World} (h : Tab w) : 12 < w.heap.size := block_lt_of_cell (h 34 (by decide))
theorem kn_plain {v : L} (h : 92 ∉ v) : kn v = some v := by unfold kn; rw [if_neg h]
theorem kn_esc {v : L} (h : 92 ∈ v) : kn v = pu v := by unfold kn; rw [if_pos h]
theorem list_beq (a b : ByteArray) : (a.toList == b.toList) = decide (a = b) := by
  rw [Bool.eq_iff_iff, beq_iff_eq, decide_eq_true_eq]
  constructor
  · intro h
    rw [ByteArray.toList_eq, ByteArray.toList_eq] at h
    cases a; cases b
    congr
    exact Array.toList_inj.1 h
  · rintro rfl; rfl
set_option maxHeartbeats 4000000 in
set_option maxRecDepth 100000 in
theorem equalStr_any (W : World) (g b o c : Nat) (q : L) (s : ByteArray) (hc : W.cell? ⟨g, 0, none⟩ = some (.slice (some ⟨b, o, none⟩) q.length c)) (hi : In W b o q) :
    Calls Tryd.prog 64 #[.pointer (some ⟨g, 0, none⟩), .string s] W fun e w' => e = .returned (.bool (decide (strOfNums q = s))) ∧ w' = W := by
  have kconv := in_str (c := c) hi
  obtain ⟨S, hS⟩ : ∃ S, S = strOfNums q := ⟨_, rfl⟩
  rw [← hS] at kconv ⊢
  have HE := Lib.hid (list_beq S s)
  clear hi hS
  go_enter Tryd.func64, Tryd.ntmps64
  go_wp2
  go_ret
  exact ⟨by rw [← HE.out]; rfl, rfl⟩
theorem ix (s : ByteArray) (i : Int) (h0 : 0 ≤ i) (h1 : i < s.size) (W : World) : (Instr.index 9 (.string s) (.int .i64 i)).run Tryd.prog W = .ok (.int .u8 (bt s i)) W := by
  rw [run_index_string _ _ _ _ _ Tryd.underlying9, dif_pos ⟨h0, h1⟩]
  unfold bt
  rw [dif_pos (by omega)]
theorem nt_nil {l : L} (h : skip l = []) : nt l = -1 := by unfold nt; rw [if_pos h]
theorem nt_some {l u : L} {d : Int} (h : skip l = d :: u) : nt l = (l.length : Int) - (u.length + 1 : Nat) := by unfold nt; rw [h, if_neg (by simp)]; simp
theorem skip_at {l u : L} {d : Int} (h : skip l = d :: u) : l.drop (l.length - (u.length + 1)) = d :: u := by
  obtain ⟨b, e, _⟩ := skip_loc h
  have hl := congrArg List.length e
  rw [List.length_append, List.length_cons] at hl
  have : l.length - (u.length + 1) = b.length := by omega
  rw [this, e, List.drop_left' rfl]
def stop2 (d : Int) : Prop := ¬ d ≤ 32 ∧ ¬ (92 < d ∧ d ≠ 123 ∧ d ≠ 125)

set_option maxHeartbeats 16000000 in
set_option maxRecDepth 100000 in
theorem search_any (w : World) (b o c : Nat) (l : L) (A : Option Addr) (keys : List ByteArray) (ck : Nat) (eT : TypeId) (eV : Value) (hT : Tab w) (hE : w.cell? ⟨8, 0, none⟩ = some (.iface eT eV))
    (hb : ∀ x ∈ l, byt x) (hi : In w b o l) (hl : l.length ≤ 2147483647) (hlc : l.length ≤ c) (hA : Kd.string.C w A keys.length keys) (hck : keys.length ≤ ck) (hkl : keys.length ≤ 2147483647) (hno : start keys l ≠ .out) :
    Calls Tryd.prog 52 #[cfgV 0 false false, .slice (some ⟨b, o, none⟩) l.length c, .slice A keys.length ck] w fun e w' => e = .returned (.int .i64 (sI l (start keys l))) ∧ Below w.heap.size w w' := by
  have HI := Lib.hid hi
  have HBy := Lib.hid hb
  have HT := Lib.hid hT
  have HE := Lib.hid hE
  have HA := Lib.hid hA
  clear hi hb hT hE hA
  unfold cfgV
  by_cases hk0 : keys.length = 0
  · have : keys = [] := List.eq_nil_of_length_eq_zero hk0
    subst this
    have HG : Hid (sI l (start [] l) = 0) := Lib.hid (by unfold start sI; simp)
    clear hno
    go_enter Tryd.func52, Tryd.ntmps52
    go_wp2
    go_ret
    exact ⟨by rw [HG.out]; rfl, (((Below.refl _ _).alloc (Nat.le_refl _) _).alloc (by simp) _)⟩
  have hkp : (keys.length == 0) = false := beq_eq_false_iff_ne.mpr hk0
  have hkp2 : ((keys.length : Int) == 0) = false := beq_eq_false_iff_ne.mpr (by omega)
  have est : start keys l = sk keys 0 0 true l := by unfold start; rw [if_neg (fun e => hk0 (by rw [e]; rfl))]
  rw [est] at hno ⊢
  obtain ⟨goal, hgoal⟩ : ∃ g, g = sk keys 0 0 true l := ⟨_, rfl⟩
  rw [← hgoal] at hno ⊢
  have HG := Lib.hid hgoal
  have HNO := Lib.hid hno
  clear est hno hgoal
  go_enter Tryd.func52, Tryd.ntmps52
  go_upto_block 0 with (fail)
  go_wp2_with fail
  go_loopg [7, 8, 9, 12] (l.length + 1) (fun kq v7 v8 v9 v12 W => Hid (∃ (i : Nat) (lv kl : Int) (lm : Bool), v7 = .int .i64 kl ∧ v8 = .int .i64 lv ∧ v9 = .int .i64 (i : Int) ∧ v12 = .bool lm ∧ i + kq = l.length + 1 ∧ i ≤ l.length ∧ (-(i : Int) ≤ lv ∧ lv ≤ (i : Int)) ∧ (-(i : Int) ≤ kl ∧ kl < (keys.length : Int)) ∧ sk keys lv kl lm (l.drop i) = goal ∧ Sx w W b o c l.length))
  case atStart => exact Lib.hid ⟨0, 0, 0, true, rfl, rfl, rfl, rfl, by omega, by omega, ⟨by omega, by omega⟩, ⟨by omega, by omega⟩, by rw [HG.out]; rfl, Sx.start _ _ _ _ _ _ _ rfl⟩
  case round =>
    obtain ⟨i, lv, kl, lm, rfl, rfl, rfl, rfl, hk, hil, ⟨hv1, hv2⟩, ⟨hu1, hu2⟩, hsk, hsx⟩ := hrel.out
    have HSK := Lib.hid hsk
    have HSX := Lib.hid hsx
    have HK := Lib.hid hk
    clear hrel hsk hsx hk
    have cd : wr.cell? ⟨w.heap.size + 1, 0, none⟩ = some (.slice (some ⟨b, o, none⟩) l.length c) := HSX.out.d
    rcases Nat.lt_or_ge i l.length with hlt | hge
    · have hdd : decide ((i : Int) < (l.length : Int)) = true := decide_eq_true (by omega)
      have HIr : Hid (In wr b o l) := Lib.hid (in_below HI.out HSX.out.below)
      go_upto_block 2 with (fail)
      go_cut [9, 14] from 44 to 66 (fun v9 v14 W => Hid (∃ i' : Nat, v9 = .int .i64 (i' : Int) ∧ i ≤ i' ∧ i' ≤ l.length ∧ sk keys lv kl lm (l.drop i') = goal ∧ (i' < l.length → stop2 (l.getD i' 0)) ∧ W = wr))
      case first =>
        as_aux_lemma =>
        clear hdd
        go_wp2_with fail
        go_loop [9, 14] (fun v9 v14 => Hid (∃ i' : Nat, v9 = .int .i64 (i' : Int) ∧ i ≤ i' ∧ i' ≤ l.length ∧ sk keys lv kl lm (l.drop i') = goal)) (fun v9 _ => l.length - (intOf v9).toNat)
        case atStart => exact Lib.hid ⟨i, rfl, Nat.le_refl _, hil, HSK.out⟩
        case round =>
          obtain ⟨i2, rfl, h2a, h2b, h2c⟩ := hrel.out
          have H2 := Lib.hid h2c
          clear hrel h2c hlt
          rcases Nat.lt_or_ge i2 l.length with hlt | hge
          · have hdd : decide ((i2 : Int) < (l.length : Int)) = true := decide_eq_true (by omega)
            have hcell := in_at HIr.out hlt
            have HD := Lib.hid (drop_cons hlt)
            obtain ⟨d, hd⟩ : ∃ d, d = l.getD i2 0 := ⟨_, rfl⟩
            rw [← hd] at hcell HD
            have HDd := Lib.hid hd
            clear hd
            have hwi : IntKind.i64.wrap ((i2 : Int) + 1) = (i2 : Int) + 1 := IntWalk.i64_in _ (by omega)
            by_cases h32 : d ≤ 32
            · have g1 : decide (d ≤ 32) = true := decide_eq_true h32
              have HN : Hid (sk keys lv kl lm (l.drop (i2 + 1)) = goal) := Lib.hid (by rw [← H2.out, HD.out, sk_else _ _ _ _ _ (by omega) (by omega) (by omega) (by omega) (by omega)])
              as_aux_lemma =>
              clear h32
              go_wp2
              go_round
              case rel => exact Lib.hid ⟨i2 + 1, by go_num, by omega, by omega, HN.out⟩
              case measure => simp [intOf]; omega
            · have g1 : decide (d ≤ 32) = false := decide_eq_false h32
              by_cases h92 : 92 < d ∧ d ≠ 123 ∧ d ≠ 125
              · obtain ⟨h92, hop, hcl⟩ := h92
                have g2 : decide (92 < d) = true := decide_eq_true h92
                have g3 : (d == 123) = false := beq_eq_false_iff_ne.mpr hop
                have g4 : (d == 125) = false := beq_eq_false_iff_ne.mpr hcl
                have g5 := ne_of g3
                have g6 := ne_of g4
                have HN : Hid (sk keys lv kl lm (l.drop (i2 + 1)) = goal) := Lib.hid (by rw [← H2.out, HD.out, sk_else _ _ _ _ _ (by omega) (by omega) (by omega) (by omega) (by omega)])
                as_aux_lemma =>
                clear h32 h92 hop hcl
                go_wp2
                go_round
                case rel => exact Lib.hid ⟨i2 + 1, by go_num, by omega, by omega, HN.out⟩
                case measure => simp [intOf]; omega
              · have HST : Hid (stop2 (l.getD i2 0)) := Lib.hid (by rw [← HDd.out]; exact ⟨h32, h92⟩)
                by_cases a1 : 92 < d
                · have a2 : d = 123 ∨ d = 125 := by omega
                  rcases a2 with rfl | rfl
                  all_goals
                    as_aux_lemma =>
                    clear h32 h92 a1 g1
                    go_wp2
                    go_meet
                    case rel => exact Lib.hid ⟨i2, rfl, h2a, h2b, H2.out, fun _ => HST.out, rfl⟩
                · have g2 : decide (92 < d) = false := decide_eq_false a1
                  as_aux_lemma =>
                  clear h32 h92 a1
                  go_wp2
                  go_meet
                  case rel => exact Lib.hid ⟨i2, rfl, h2a, h2b, H2.out, fun _ => HST.out, rfl⟩
          · have hdd : decide ((i2 : Int) < (l.length : Int)) = false := decide_eq_false (by omega)
            have hd2 : decide (i2 < l.length) = false := decide_eq_false (by omega)
            go_wp2
            go_meet
            case rel => exact Lib.hid ⟨i2, rfl, h2a, h2b, H2.out, fun h => absurd h (by omega), rfl⟩
      case rest =>
        obtain ⟨j, rfl, h2a, h2b, h2c, h2d, hwc⟩ := hcut.out
        have H2 := Lib.hid h2c
        have HST := Lib.hid h2d
        subst hwc
        clear hcut h2c h2d hlt hdd
        have cd : wc.cell? ⟨w.heap.size + 1, 0, none⟩ = some (.slice (some ⟨b, o, none⟩) l.length c) := HSX.out.d
        rcases Nat.lt_or_ge j l.length with hlt | hge
        · have hdd : decide ((l.length : Int) ≤ (j : Int)) = false := decide_eq_false (by omega)
          have hd2 : decide (l.length ≤ j) = false := decide_eq_false (by omega)
          have hcell := in_at HIr.out hlt
          have hbw : b < w.heap.size := block_lt_of_cell (in_at HI.out hlt)
          have HD := Lib.hid (drop_cons hlt)
          obtain ⟨d, hd⟩ : ∃ d, d = l.getD j 0 := ⟨_, rfl⟩
          rw [← hd] at hcell HD
          clear hd
          have hwi : IntKind.i64.wrap ((j : Int) + 1) = (j : Int) + 1 := IntWalk.i64_in _ (by omega)
          have kb0 : wc.cell? ⟨w.heap.size, 0, none⟩ = some (.bool false) := HSX.out.x.cell 0
          have kb1 : wc.cell? ⟨w.heap.size, 1, none⟩ = some (.bool false) := HSX.out.x.cell 1
          have kb2 : wc.cell? ⟨w.heap.size, 2, none⟩ = some (.int .i64 0) := HSX.out.x.cell 2
          have HSXd := Lib.hid HSX.out.drew
          have HId : Hid (In wc.drew b o l) := Lib.hid (in_below HI.out HSXd.out.below)
          have HMe : Hid (∀ (p : Nat) (lv' kl' : Int) (lm' : Bool) (W : World), j < p → p ≤ l.length → -(p : Int) ≤ lv' → lv' ≤ (p : Int) → -(p : Int) ≤ kl' → kl' < (keys.length : Int) → sk keys lv' kl' lm' (l.drop p) = goal → Sx w W b o c l.length →
              Hid (∃ (i : Nat) (lv kl : Int) (lm : Bool), Value.int .i64 kl' = .int .i64 kl ∧ Value.int .i64 lv' = .int .i64 lv ∧ Value.int .i64 (p : Int) = .int .i64 (i : Int) ∧ Value.bool lm' = .bool lm ∧ i + (l.length + 1 - p) = l.length + 1 ∧ i ≤ l.length ∧ (-(i : Int) ≤ lv ∧ lv ≤ (i : Int)) ∧ (-(i : Int) ≤ kl ∧ kl < (keys.length : Int)) ∧ sk keys lv kl lm (l.drop i) = goal ∧ Sx w W b o c l.length)) :=
            Lib.hid (fun p lv' kl' lm' W z0 z1 z2 z3 z4 z5 z6 z7 => Lib.hid ⟨p, lv', kl', lm', rfl, rfl, rfl, rfl, by omega, z1, ⟨z2, z3⟩, ⟨z4, z5⟩, z6, z7⟩)
          by_cases h34 : d = 34
          · subst h34
            obtain ⟨o', r, c', hr, hrl, hrc, ksl, hIr⟩ := cut_in b o c l (j + 1) (by omega) hlc
            have ksl' : ∀ W : World, (Instr.slice tBs (.slice (some ⟨b, o, none⟩) l.length c) (some (.int .i64 ((j : Int) + 1))) none none).run Tryd.prog W = .ok (.slice (some ⟨b, o', none⟩) r.length c') W := by
              intro W; have := ksl W; rwa [show (((j + 1 : Nat)) : Int) = (j : Int) + 1 by omega] at this
            clear ksl
            have hrb : ∀ x ∈ r, byt x := fun x hx => HBy.out x (by rw [hr] at hx; exact List.mem_of_mem_drop hx)
            have HSE := Lib.hid (strEnd_any wc.drew b o' c' r 0 false false hrb (hIr _ HId.out) (by omega) hrc)
            obtain ⟨q1, q2, hq⟩ : ∃ q1 q2, se r = (q1, q2) := ⟨_, _, rfl⟩
            rw [hq] at HSE
            have HQ := Lib.hid hq
            have HR := Lib.hid hr
            have HRb := Lib.hid hrb
            have HSK2 : Hid ((match Fp.rs false r with | none => SR.no | some x => sk1 keys lv kl lm x.1 (skip x.2)) = goal) := Lib.hid (by have := H2.out; rw [HD.out, sk_str, ← hr] at this; exact this)
            unfold cfgV at HSE
            clear hr hrb hq
            go_upto_region 25 with (fail)
            go_cut [17, 18] from 91 to 99 (fun v17 v18 W => Hid (v17 = .int .i64 q1 ∧ v18 = .bool q2 ∧ Sx w W b o c l.length))
            case first =>
              as_aux_lemma =>
              go_region_with ((go_at_call 61; refine HSE.out.mono ?_; rintro e w2 ⟨rfl, hb2⟩; replace hb2 := Lib.hid hb2))
              all_goals
                go_wp2_with fail
                go_meet
                case rel => exact Lib.hid ⟨rfl, rfl, HSXd.out.more hb2.out⟩
            case rest =>
              obtain ⟨rfl, rfl, hB3⟩ := hcut.out
              have HB3 := Lib.hid hB3
              clear hcut hB3 HSE kb0 kb1 kb2 hcell cd
              cases hrs : Fp.rs false r with
              | none =>
                have e1 : q1 = -1 := by have := HQ.out; rw [se_none hrs] at this; injection this with h1 _; exact h1.symm
                have HG2 : Hid (goal = .no) := Lib.hid (by rw [← HSK2.out, hrs])
                subst e1
                as_aux_lemma =>
                clear hrs
                go_wp2
                go_ret
                exact ⟨by rw [HG2.out]; rfl, HB3.out.below⟩
              | some x =>
                obtain ⟨a, r1⟩ := x
                have e1 : q1 = (a.length : Int) + 1 := by have := HQ.out; rw [se_some hrs] at this; injection this with h1 _; exact h1.symm
                have e2 : q2 = decide (92 ∈ a) := by have := HQ.out; rw [se_some hrs] at this; injection this with _ h1; exact h1.symm
                have hla := Fp.rs_len r false a r1 hrs
                have hra := (rs_loc hrs).1
                obtain ⟨e, he⟩ : ∃ e : Nat, e = j + 1 + (a.length + 1) := ⟨_, rfl⟩
                obtain ⟨f, hf⟩ : ∃ f : Nat, f = j + 1 + a.length := ⟨_, rfl⟩
                have hde : l.drop e = r1 := by rw [he, ← List.drop_drop, ← HR.out, rs_drop hrs]
                have HSK3 : Hid (sk1 keys lv kl lm a (skip r1) = goal) := Lib.hid (by have := HSK2.out; rw [hrs] at this; exact this)
                obtain ⟨oe, re, ce, hre, hrel2, hrec, kse, hIe⟩ := cut_in b o c l e (by omega) hlc
                have hre1 : re = r1 := hre.trans hde
                have hw1 : IntKind.i64.wrap ((j : Int) + 1 + q1) = (e : Int) := by rw [IntWalk.i64_in _ (by omega)]; omega
                have hw2 : IntKind.i64.wrap ((e : Int) - 1) = (f : Int) := by rw [IntWalk.i64_in _ (by omega)]; omega
                have x1 : (q1 == -1) = false := beq_eq_false_iff_ne.mpr (by omega)
                have HSX3d := Lib.hid HB3.out.drew
                have HI3d : Hid (In wc.drew b o l) := Lib.hid (in_below HI.out HSX3d.out.below)
                have HNT := Lib.hid (nextTok_any wc.drew b oe ce re 0 false false (hIe _ HI3d.out) (by omega))
                obtain ⟨q, hq⟩ : ∃ q, nt re = q := ⟨_, rfl⟩
                rw [hq] at HNT
                have HQN : Hid (nt r1 = q) := Lib.hid (by rw [← hre1]; exact hq)
                unfold cfgV at HNT
                have kb0 : wc.cell? ⟨w.heap.size, 0, none⟩ = some (.bool false) := HB3.out.x.cell 0
                have kb1 : wc.cell? ⟨w.heap.size, 1, none⟩ = some (.bool false) := HB3.out.x.cell 1
                have kb2 : wc.cell? ⟨w.heap.size, 2, none⟩ = some (.int .i64 0) := HB3.out.x.cell 2
                have cd : wc.cell? ⟨w.heap.size + 1, 0, none⟩ = some (.slice (some ⟨b, o, none⟩) l.length c) := HB3.out.d
                have HF : Hid (e = j + 1 + (a.length + 1) ∧ f = j + 1 + a.length ∧ e + r1.length = l.length ∧ r = a ++ 34 :: r1 ∧ q2 = decide (92 ∈ a) ∧ l.drop e = r1) := Lib.hid ⟨he, hf, by omega, hra, e2, hde⟩
                have hej : j < e ∧ e ≤ l.length := ⟨by omega, by omega⟩
                clear hrs e1 e2 hre hre1 hq hde hra he hf hwi
                go_upto_region 30 with (fail)
                go_cut [20] from 107 to 111 (fun v20 W => Hid (v20 = .int .i64 q ∧ Sx w W b o c l.length))
                case first =>
                  as_aux_lemma =>
                  go_region_with ((go_at_call 60; refine HNT.out.mono ?_; rintro e w2 ⟨rfl, hb2⟩; replace hb2 := Lib.hid hb2))
                  all_goals
                    go_wp2_with fail
                    go_meet
                    case rel => exact Lib.hid ⟨rfl, HSX3d.out.more hb2.out⟩
                case rest =>
                  obtain ⟨rfl, hB4⟩ := hcut.out
                  have HB4 := Lib.hid hB4
                  clear hcut hB4 HNT kb0 kb1 kb2 cd HSX3d HI3d
                  cases hsk1 : skip r1 with
                  | nil =>
                    have e1 : q = -1 := by rw [← HQN.out, nt_nil hsk1]
                    have HG2 : Hid (goal = .no) := Lib.hid (by rw [← HSK3.out, hsk1]; rfl)
                    subst e1
                    as_aux_lemma =>
                    clear hsk1
                    go_wp2
                    go_ret
                    exact ⟨by rw [HG2.out]; rfl, HB4.out.below⟩
                  | cons dd u =>
                    have e1 : q = (r1.length : Int) - (u.length + 1 : Nat) := by rw [← HQN.out, nt_some hsk1]
                    have hul := skip_le r1
                    rw [hsk1, List.length_cons] at hul
                    have HF2 := HF.out
                    obtain ⟨p, hp⟩ : ∃ p : Nat, p = e + (r1.length - (u.length + 1)) := ⟨_, rfl⟩
                    have hdp : l.drop p = dd :: u := by rw [hp, ← List.drop_drop, HF2.2.2.2.2.2, skip_at hsk1]
                    have hpl : p < l.length := by omega
                    have hpu : p + 1 + u.length = l.length := by omega
                    have HI4 : Hid (In wc b o l) := Lib.hid (in_below HI.out HB4.out.below)
                    have hcp := in_at HI4.out hpl
                    have hgp : l.getD p 0 = dd := by have := drop_cons hpl; rw [hdp] at this; injection this with h1 _; exact h1.symm
                    rw [hgp] at hcp
                    have hup : l.drop (p + 1) = u := by have := drop_cons hpl; rw [hdp] at this; injection this with _ h1; exact h1.symm
                    have cd : wc.cell? ⟨w.heap.size + 1, 0, none⟩ = some (.slice (some ⟨b, o, none⟩) l.length c) := HB4.out.d
                    have hw3 : IntKind.i64.wrap ((e : Int) + q) = (p : Int) := by rw [IntWalk.i64_in _ (by omega)]; omega
                    have x2 : (q == -1) = false := beq_eq_false_iff_ne.mpr (by omega)
                    have hjp : j < p := by omega
                    have HSK4 : Hid (sk1 keys lv kl lm a (dd :: u) = goal) := Lib.hid (by rw [← hsk1]; exact HSK3.out)
                    have HU := Lib.hid (And.intro hup hpu)
                    clear hsk1 e1 hp hdp hgp hup hpu HF2 hul
                    by_cases h58 : dd = 58
                    · subst h58
                      by_cases hlv : lv < 1
                      · have g1 : decide (lv < 1) = true := decide_eq_true hlv
                        have HG2 : Hid (goal = .no) := Lib.hid (by have := HSK4.out; unfold sk1 at this; simp only [if_true, if_pos hlv] at this; exact this.symm)
                        as_aux_lemma =>
                        clear hlv
                        go_wp2
                        go_ret
                        exact ⟨by rw [HG2.out]; rfl, HB4.out.below⟩
                      · have g1 : decide (lv < 1) = false := decide_eq_false hlv
                        have HSK5 : Hid ((match kn a with | none => SR.no | some k => if lv ≤ keys.length then (if strOfNums k = keys.getD (lv - 1).toNat ⟨#[]⟩ then (if kl = lv - 1 then (if kl + 1 = keys.length then .yes u else sk keys lv (kl + 1) true u) else sk keys lv kl true u) else sk keys lv kl false u) else .no) = goal) :=
                          Lib.hid (by have := HSK4.out; unfold sk1 at this; simp only [if_true, if_neg hlv] at this; exact this)
                        have HF3 := HF.out
                        obtain ⟨o2, v, c2, hv, hvl, hvc, ksl2, hIv⟩ := cut_mid b o c l (j + 1) f (by omega) (by omega) hlc
                        have hva : v = a := by rw [hv, ← HR.out, HF3.2.2.2.1, show f - (j + 1) = a.length by omega, List.take_left' rfl]
                        subst hva
                        have ksl3 : ∀ W : World, (Instr.slice tBs (.slice (some ⟨b, o, none⟩) l.length c) (some (.int .i64 ((j : Int) + 1))) (some (.int .i64 (f : Int))) none).run Tryd.prog W = .ok (.slice (some ⟨b, o2, none⟩) v.length c2) W := by
                          intro W; have := ksl2 W; rwa [show (((j + 1 : Nat)) : Int) = (j : Int) + 1 by omega] at this
                        have hvb : ∀ x ∈ v, byt x := fun x hx => HRb.out x (by rw [HF3.2.2.2.1]; exact List.mem_append_left _ hx)
                        have hvl2 : v.length ≤ 4294967296 := by omega
                        have hq2 := HF3.2.2.2.2.1
                        have HQ2 := Lib.hid hq2
                        clear hv hvl ksl2 HF3 HSK4 hq2
                        go_upto_if 129 with (fail)
                        have HK0 : Hid ((wc.alloc (.cells #[.slice none 0 0] tBs)).heap[wc.heap.size]? = some (.cells #[.slice none 0 0] tBs (0, 0))) := Lib.hid (blk_new wc _)
                        have HS0 : Hid (Sx w (wc.alloc (.cells #[.slice none 0 0] tBs)) b o c l.length) := Lib.hid (HB4.out.more (below_alloc (Below.refl _ _) _))
                        obtain ⟨g, hg⟩ : ∃ g, g = wc.heap.size := ⟨_, rfl⟩
                        have hg3 : w.heap.size + 3 ≤ g := by have := HB4.out.size; omega
                        obtain ⟨W5, hW5⟩ : ∃ z, z = wc.alloc (.cells #[.slice none 0 0] tBs) := ⟨_, rfl⟩
                        rw [← hW5, ← hg] at HK0
                        rw [← hW5] at HS0
                        rw [← hW5, ← hg]
                        clear hW5 hg
                        have c5 : W5.cell? ⟨g, 0, none⟩ = some (.slice none 0 0) := (blk_cell HK0.out 0).trans rfl
                        have z5 : W5.frozen? ⟨g, 0, none⟩ = false := blk_frozen HK0.out 0
                        go_cut [23, 24] from 130 to 140 (fun v23 v24 W => Hid (∃ bq oq cq z, W.cell? ⟨g, 0, none⟩ = some (.slice (some ⟨bq, oq, none⟩) z.length cq) ∧ In W bq oq z ∧ kn v = some z ∧ Sx w W b o c l.length))
                        case first =>
                          by_cases hesc : 92 ∈ v
                          · have e2 : q2 = true := by rw [HQ2.out]; exact decide_eq_true hesc
                            subst e2
                            have HKN := Lib.hid (kn_esc hesc)
                            obtain ⟨cur, hRow, hcl⟩ := HS0.out.r
                            have hTw : Tab W5.drew := tab_below HT.out HS0.out.drew.below
                            have hEw : W5.drew.cell? ⟨8, 0, none⟩ = some (.iface eT eV) := (HS0.out.drew.below.cell (p := ⟨8, 0, none⟩) (block_lt_of_cell HE.out)).trans HE.out
                            have HUN := Lib.hid (Jp.unescConf_any w.heap.size W5.drew W5.drew b o2 c2 (w.heap.size + 1 + 1) 64 64 v cur (.iface eT eV) (Below.refl _ _) (by have := HS0.out.size; show w.heap.size ≤ W5.heap.size; omega) (by omega) (by omega) (by have := HS0.out.size; show b < W5.heap.size; omega) (tab_lt HT.out) (block_lt_of_cell HE.out)
                              hvb hvl2 hvc (hIv _ (in_below HI.out HS0.out.drew.below)) hRow hcl.symm (Nat.le_refl _) hTw hEw)
                            have kb0 : W5.cell? ⟨w.heap.size, 0, none⟩ = some (.bool false) := HS0.out.x.cell 0
                            have kb1 : W5.cell? ⟨w.heap.size, 1, none⟩ = some (.bool false) := HS0.out.x.cell 1
                            have kb2 : W5.cell? ⟨w.heap.size, 2, none⟩ = some (.int .i64 0) := HS0.out.x.cell 2
                            have HCL := Lib.hid hcl
                            unfold J.cfg0 at HUN
                            clear hesc hRow hcl hTw hEw
                            obtain ⟨pz, hpz⟩ : ∃ pz, pz = pu v := ⟨_, rfl⟩
                            rw [← hpz] at HUN
                            have hpu := hpz.symm
                            clear hpz
                            cases pz with
                            | none =>
                              have HG2 : Hid (goal = .no) := Lib.hid (by have := HSK5.out; rw [HKN.out, hpu] at this; exact this.symm)
                              clear hpu
                              go_upto_region 41 with (fail)
                              go_cut [23, 24] from 131 to 137 (fun v23 v24 W => Hid (v23 = .slice none 0 0 ∧ v24 = .iface eT eV ∧ Below w.heap.size w W))
                              case first =>
                                as_aux_lemma =>
                                go_region_with ((go_at_call 62; refine HUN.out.mono ?_; rintro e w2 ⟨⟨hb2, rfl⟩, hr2, hbt2⟩; replace hb2 := Lib.hid hb2; replace hr2 := Lib.hid hr2; replace hbt2 := Lib.hid hbt2))
                                all_goals
                                  go_wp2_with fail
                                  go_meet
                                  case rel => exact Lib.hid ⟨rfl, rfl, (HS0.out.drew.but hbt2.out (by obtain ⟨cz, k1, k2⟩ := hr2.out; exact ⟨cz, k1, k2.trans HCL.out⟩)).below⟩
                              case rest =>
                                obtain ⟨rfl, rfl, hb9⟩ := hcut.out
                                have HB9 := Lib.hid hb9
                                as_aux_lemma =>
                                clear hcut hb9 HUN kb0 kb1 kb2 c5 z5
                                go_wp2
                                go_ret
                                exact ⟨by rw [HG2.out]; rfl, HB9.out⟩
                            | some z =>
                              have HKZ : Hid (kn v = some z) := Lib.hid (HKN.out.trans hpu)
                              clear hpu
                              go_upto_region 41 with (fail)
                              go_cut [23, 24] from 131 to 137 (fun v23 v24 W => Hid (∃ bq oq cq, v23 = .slice (some ⟨bq, oq, none⟩) z.length cq ∧ v24 = .nilIface ∧ In W bq oq z ∧ Sx w W b o c l.length ∧ W.heap[g]? = some (.cells #[.slice none 0 0] tBs (0, 0))))
                              case first =>
                                as_aux_lemma =>
                                go_region_with ((go_at_call 62; refine HUN.out.mono ?_; rintro e w2 ⟨⟨hb2, bq, oq, cq, rfl, hIq, hcq⟩, hr2, hbt2⟩; replace hb2 := Lib.hid hb2; replace hIq := Lib.hid hIq; replace hr2 := Lib.hid hr2; replace hbt2 := Lib.hid hbt2))
                                all_goals
                                  go_wp2_with fail
                                  go_meet
                                  case rel => exact Lib.hid ⟨bq, oq, cq, rfl, rfl, hIq.out, HS0.out.drew.but hbt2.out (by obtain ⟨cz, k1, k2⟩ := hr2.out; exact ⟨cz, k1, k2.trans HCL.out⟩), (hbt2.out.block g (blk_lt HK0.out) (by omega)).trans HK0.out⟩
                              case rest =>
                                obtain ⟨bq, oq, cq, rfl, rfl, hIq, hSq, hKq⟩ := hcut.out
                                have HIq := Lib.hid hIq
                                have HSq := Lib.hid hSq
                                have HKq := Lib.hid hKq
                                have c6 : wc.cell? ⟨g, 0, none⟩ = some (.slice none 0 0) := (blk_cell hKq 0).trans rfl
                                have z6 : wc.frozen? ⟨g, 0, none⟩ = false := blk_frozen hKq 0
                                as_aux_lemma =>
                                clear hcut hIq hSq hKq HUN kb0 kb1 kb2 c5 z5
                                go_wp2
                                go_meet
                                case rel => exact Lib.hid ⟨bq, oq, cq, z, (blk_cell (blk_set HKq.out 0 _) 0).trans rfl, in_far HIq.out HKq.out _, HKZ.out, HSq.out.set hg3 0 _⟩
                          · have e2 : q2 = false := by rw [HQ2.out]; exact decide_eq_false hesc
                            subst e2
                            have HKN := Lib.hid (kn_plain hesc)
                            as_aux_lemma =>
                            clear hesc
                            go_wp2
                            go_meet
                            case rel => exact Lib.hid ⟨b, o2, c2, v, (blk_cell (blk_set HK0.out 0 _) 0).trans rfl, hIv _ (in_below HI.out (HS0.out.set hg3 0 _).below), HKN.out, HS0.out.set hg3 0 _⟩
                        case rest =>
                          obtain ⟨bq, oq, cq, z, hcq, hIq, hkz, hSq⟩ := hcut.out
                          have HSq := Lib.hid hSq
                          have HSK6 : Hid ((if lv ≤ keys.length then (if strOfNums z = keys.getD (lv - 1).toNat ⟨#[]⟩ then (if kl = lv - 1 then (if kl + 1 = keys.length then .yes u else sk keys lv (kl + 1) true u) else sk keys lv kl true u) else sk keys lv kl false u) else .no) = goal) :=
                            Lib.hid (by have := HSK5.out; rw [hkz] at this; exact this)
                          have HEQ := Lib.hid (fun s => equalStr_any wc g bq oq cq z s hcq hIq)
                          clear hcut hkz hSq hIq hcq HSK5 c5 z5 HS0 HK0 hvb hvl2
                          by_cases hle : lv ≤ (keys.length : Int)
                          · have g2 : decide (lv ≤ (keys.length : Int)) = true := decide_eq_true hle
                            obtain ⟨n, hn⟩ : ∃ n : Nat, lv = (n : Int) + 1 := ⟨(lv - 1).toNat, by omega⟩
                            have hnk : n < keys.length := by omega
                            obtain ⟨ad, hAd, hck2⟩ := at_str (Kd.C_below HA.out HSq.out.below) n hnk
                            obtain ⟨K, hK⟩ : ∃ K, K = keys.getD n ⟨#[]⟩ := ⟨_, rfl⟩
                            rw [← hK] at hck2
                            have hwl : IntKind.i64.wrap (lv - 1) = (n : Int) := by rw [IntWalk.i64_in _ (by omega)]; omega
                            have hwp : IntKind.i64.wrap ((p : Int) + 1) = (p : Int) + 1 := IntWalk.i64_in _ (by omega)
                            have hlv2 : -((p : Int) + 1) ≤ lv ∧ lv ≤ (p : Int) + 1 := ⟨by omega, by omega⟩
                            have HSK7 : Hid ((if strOfNums z = K then (if kl = (n : Int) then (if kl + 1 = keys.length then .yes u else sk keys lv (kl + 1) true u) else sk keys lv kl true u) else sk keys lv kl false u) = goal) :=
                              Lib.hid (by have := HSK6.out; rw [if_pos hle, show lv - 1 = (n : Int) by omega, Int.toNat_natCast, ← hK] at this; exact this)
                            have HEK := Lib.hid (HEQ.out K)
                            subst hAd
                            clear hK HSK6 HEQ hle hlv g1 hn
                            have HLE : ((p + 1 : Nat) : Int) = (p : Int) + 1 := by omega
                            by_cases hzk : strOfNums z = K
                            · rw [decide_eq_true hzk] at HEK
                              have HSK8 : Hid ((if kl = (n : Int) then (if kl + 1 = keys.length then .yes u else sk keys lv (kl + 1) true u) else sk keys lv kl true u) = goal) := Lib.hid (by have := HSK7.out; rw [if_pos hzk] at this; exact this)
                              clear HSK7
                              by_cases hkn : kl = (n : Int)
                              · have g3 : (kl == (n : Int)) = true := beq_iff_eq.mpr hkn
                                have hwk : IntKind.i64.wrap (kl + 1) = kl + 1 := IntWalk.i64_in _ (by omega)
                                by_cases hlast : kl + 1 = (keys.length : Int)
                                · have g4 : (kl + 1 == (keys.length : Int)) = true := beq_iff_eq.mpr hlast
                                  have HG2 : Hid (goal = .yes u) := Lib.hid (by rw [← HSK8.out, if_pos hkn, if_pos hlast])
                                  as_aux_lemma =>
                                  clear hkn hlast hzk
                                  go_wp2_with (go_at_call 64; refine HEK.out.mono ?_; rintro e w2 ⟨rfl, rfl⟩)
                                  go_ret
                                  exact ⟨by rw [HG2.out]; show Ending.returned (.int .i64 ((p : Int) + 1)) = .returned (.int .i64 ((l.length : Int) - u.length)); congr 2; have := HU.out.2; omega, HSq.out.below⟩
                                · have g4 : (kl + 1 == (keys.length : Int)) = false := beq_eq_false_iff_ne.mpr hlast
                                  have HN : Hid (sk keys lv (kl + 1) true (l.drop (p + 1)) = goal) := Lib.hid (by rw [HU.out.1, ← HSK8.out, if_pos hkn, if_neg hlast])
                                  have hb1 : kl + 1 < (keys.length : Int) := by omega
                                  as_aux_lemma =>
                                  clear hkn hlast hzk
                                  go_wp2_with (go_at_call 64; refine HEK.out.mono ?_; rintro e w2 ⟨rfl, rfl⟩)
                                  go_roundg (l.length + 1 - (p + 1))
                                  case rel => exact HMe.out (p + 1) lv (kl + 1) true _ (by omega) (by omega) (by rw [HLE]; exact hlv2.1) (by rw [HLE]; exact hlv2.2) (by omega) hb1 HN.out HSq.out
                                  case measure => have := HK.out; omega
                              · have g3 : (kl == (n : Int)) = false := beq_eq_false_iff_ne.mpr hkn
                                have HN : Hid (sk keys lv kl true (l.drop (p + 1)) = goal) := Lib.hid (by rw [HU.out.1, ← HSK8.out, if_neg hkn])
                                as_aux_lemma =>
                                clear hkn hzk
                                go_wp2_with (go_at_call 64; refine HEK.out.mono ?_; rintro e w2 ⟨rfl, rfl⟩)
                                go_roundg (l.length + 1 - (p + 1))
                                case rel => exact HMe.out (p + 1) lv kl true _ (by omega) (by omega) (by rw [HLE]; exact hlv2.1) (by rw [HLE]; exact hlv2.2) (by omega) (by omega) HN.out HSq.out
                                case measure => have := HK.out; omega
                            · rw [decide_eq_false hzk] at HEK
                              have HN : Hid (sk keys lv kl false (l.drop (p + 1)) = goal) := Lib.hid (by rw [HU.out.1, ← HSK7.out, if_neg hzk])
                              as_aux_lemma =>
                              clear hzk HSK7
                              go_wp2_with (go_at_call 64; refine HEK.out.mono ?_; rintro e w2 ⟨rfl, rfl⟩)
                              go_roundg (l.length + 1 - (p + 1))
                              case rel => exact HMe.out (p + 1) lv kl false _ (by omega) (by omega) (by rw [HLE]; exact hlv2.1) (by rw [HLE]; exact hlv2.2) (by omega) (by omega) HN.out HSq.out
                              case measure => have := HK.out; omega
                          · have g2 : decide (lv ≤ (keys.length : Int)) = false := decide_eq_false hle
                            have HG2 : Hid (goal = .no) := Lib.hid (by rw [← HSK6.out, if_neg hle])
                            as_aux_lemma =>
                            clear hle hlv
                            go_wp2
                            go_ret
                            exact ⟨by rw [HG2.out]; rfl, HSq.out.below⟩
                    · have x58 : (dd == 58) = false := beq_eq_false_iff_ne.mpr h58
                      have HN : Hid (sk keys lv kl lm (l.drop p) = goal) := Lib.hid (by
                        have h1 : l.drop p = dd :: u := by rw [drop_cons hpl, HU.out.1]; congr 1; exact Option.some.inj (by have := hcp; rw [in_at HI4.out hpl] at this; injection this with this; injection this with _ this; rw [this])
                        rw [h1]; have := HSK4.out; unfold sk1 at this; simp only [if_neg h58] at this; exact this)
                      have hw4 : IntKind.i64.wrap ((p : Int) - 1) = (p : Int) - 1 := IntWalk.i64_in _ (by omega)
                      have hw5 : IntKind.i64.wrap ((p : Int) - 1 + 1) = (p : Int) := by rw [IntWalk.i64_in _ (by omega)]; omega
                      have hw6 : IntKind.i64.wrap (p : Int) = (p : Int) := IntWalk.i64_in _ (by omega)
                      as_aux_lemma =>
                      clear h58
                      go_wp2
                      go_roundg (l.length + 1 - p)
                      case rel => exact HMe.out p lv kl lm _ hjp (by omega) (by omega) (by omega) (by omega) (by omega) HN.out HB4.out
                      case measure => have := HK.out; omega
          · have x34 : (d == 34) = false := beq_eq_false_iff_ne.mpr h34
            by_cases h39 : d = 39
            · subst h39
              have HN : Hid (sk keys lv kl lm (l.drop (j + 1)) = goal) := Lib.hid (by rw [← H2.out, HD.out, sk_else _ _ _ _ _ h34 (by omega) (by omega) (by omega) (by omega)])
              as_aux_lemma =>
              clear h34
              go_wp2
              go_roundg (l.length + 1 - (j + 1))
              case rel => exact HMe.out (j + 1) lv kl lm _ (by omega) (by omega) (by omega) (by omega) (by omega) (by omega) HN.out HSX.out
              case measure => have := HK.out; omega
            · have x39 : (d == 39) = false := beq_eq_false_iff_ne.mpr h39
              by_cases h123 : d = 123
              · subst h123
                cases lm with
                | true =>
                  have HN : Hid (sk keys (lv + 1) kl true (l.drop (j + 1)) = goal) := Lib.hid (by rw [← H2.out, HD.out, sk_open])
                  have hwl : IntKind.i64.wrap (lv + 1) = lv + 1 := IntWalk.i64_in _ (by omega)
                  as_aux_lemma =>
                  clear h34 h39
                  go_wp2
                  go_roundg (l.length + 1 - (j + 1))
                  case rel => exact HMe.out (j + 1) (lv + 1) kl true _ (by omega) (by omega) (by omega) (by omega) (by omega) (by omega) HN.out HSX.out
                  case measure => have := HK.out; omega
                | false =>
                  obtain ⟨o', r, c', hr, hrl, hrc, ksl, hIr⟩ := cut_in b o c l j (by omega) hlc
                  have hrb : ∀ x ∈ r, byt x := fun x hx => HBy.out x (by rw [hr] at hx; exact List.mem_of_mem_drop hx)
                  have HSE := Lib.hid (blockEnd_any wc.drew b o' c' r 0 false 123 125 (.inl ⟨rfl, rfl⟩) hrb (hIr _ HId.out) (by omega) hrc)
                  have HR : Hid (r = 123 :: l.drop (j + 1)) := Lib.hid (hr.trans HD.out)
                  have HR2 := Lib.hid hr
                  obtain ⟨q, hq⟩ : ∃ q, bE 123 125 r = q := ⟨_, rfl⟩
                  rw [hq] at HSE
                  have HQ := Lib.hid hq
                  unfold cfgV at HSE
                  clear hr hrb hq h34 h39
                  go_upto_region 57 with (fail)
                  go_cut [25] from 168 to 172 (fun v25 W => Hid (v25 = .int .i64 q ∧ Sx w W b o c l.length))
                  case first =>
                    go_region_with ((go_at_call 65; refine HSE.out.mono ?_; rintro e w2 ⟨rfl, hb2⟩; replace hb2 := Lib.hid hb2))
                    all_goals
                      go_wp2_with fail
                      go_meet
                      case rel => exact Lib.hid ⟨rfl, HSXd.out.more hb2.out⟩
                  case rest =>
                    obtain ⟨rfl, hB3⟩ := hcut.out
                    have HB3 := Lib.hid hB3
                    clear hcut hB3 HSE kb0 kb1 kb2 hcell
                    cases hrs : be 123 125 0 r with
                    | none =>
                      have e1 : q = -1 := by rw [← HQ.out, bE_none hrs]
                      have HG2 : Hid (goal = .no) := Lib.hid (by rw [← H2.out, HD.out, sk_over, ← HR.out, hrs])
                      subst e1
                      clear hrs
                      go_wp2
                      go_ret
                      exact ⟨by rw [HG2.out]; rfl, HB3.out.below⟩
                    | some r2 =>
                      have e1 : q = (r.length : Int) - r2.length := by rw [← HQ.out, bE_some hrs]
                      have hla := be_lt' hrs
                      obtain ⟨p, hp⟩ : ∃ p : Nat, p = l.length - r2.length := ⟨_, rfl⟩
                      have hdr : l.drop p = r2 := by
                        obtain ⟨a, z1, _⟩ := be_loc _ _ _ _ (Nat.le_refl _) hrs
                        have z2 : l.drop j = a ++ r2 := by rw [← HR2.out]; exact z1
                        have z3 := congrArg List.length z1
                        rw [List.length_append] at z3
                        rw [show p = j + a.length by omega, ← List.drop_drop, z2, List.drop_left' rfl]
                      have HN : Hid (sk keys lv kl false (l.drop p) = goal) := Lib.hid (by rw [← H2.out, HD.out, sk_over, ← HR.out, hrs, hdr])
                      have hw1 : IntKind.i64.wrap (q - 1) = q - 1 := IntWalk.i64_in _ (by omega)
                      have hw2 : IntKind.i64.wrap ((j : Int) + (q - 1)) = (p : Int) - 1 := by rw [IntWalk.i64_in _ (by omega)]; omega
                      have hw3 : IntKind.i64.wrap ((p : Int) - 1 + 1) = (p : Int) := by rw [IntWalk.i64_in _ (by omega)]; omega
                      have hw4 : IntKind.i64.wrap (p : Int) = (p : Int) := IntWalk.i64_in _ (by omega)
                      have x1 : (q == -1) = false := beq_eq_false_iff_ne.mpr (by omega)
                      have HP : Hid (j < p ∧ p ≤ l.length) := Lib.hid ⟨by omega, by omega⟩
                      as_aux_lemma =>
                      clear hrs e1 hp hdr hwi
                      go_wp2
                      go_roundg (l.length + 1 - p)
                      case rel => exact HMe.out p lv kl false _ HP.out.1 HP.out.2 (by have := HP.out; omega) (by have := HP.out; omega) (by have := HP.out; omega) (by omega) HN.out HB3.out
                      case measure => have := HK.out; have := HP.out; omega
              · have x123 : (d == 123) = false := beq_eq_false_iff_ne.mpr h123
                by_cases h125 : d = 125
                · subst h125
                  have hwl : IntKind.i64.wrap (lv - 1) = lv - 1 := IntWalk.i64_in _ (by omega)
                  have hwk : IntKind.i64.wrap (kl - 1) = kl - 1 := IntWalk.i64_in _ (by omega)
                  have HC : Hid (sk keys (lv - 1) (if lv - 1 = kl then kl - 1 else kl) lm (l.drop (j + 1)) = goal) := Lib.hid (by rw [← H2.out, HD.out, sk_close])
                  by_cases hq : lv - 1 = kl
                  · have x1 : (lv - 1 == kl) = true := beq_iff_eq.mpr hq
                    have HN : Hid (sk keys (lv - 1) (kl - 1) lm (l.drop (j + 1)) = goal) := Lib.hid (by have := HC.out; rwa [if_pos hq] at this)
                    as_aux_lemma =>
                    clear h34 h39 h123 hq
                    go_wp2
                    go_roundg (l.length + 1 - (j + 1))
                    case rel => exact HMe.out (j + 1) (lv - 1) (kl - 1) lm _ (by omega) (by omega) (by omega) (by omega) (by omega) (by omega) HN.out HSX.out
                    case measure => have := HK.out; omega
                  · have x1 : (lv - 1 == kl) = false := beq_eq_false_iff_ne.mpr hq
                    have HN : Hid (sk keys (lv - 1) kl lm (l.drop (j + 1)) = goal) := Lib.hid (by have := HC.out; rwa [if_neg hq] at this)
                    as_aux_lemma =>
                    clear h34 h39 h123 hq
                    go_wp2
                    go_roundg (l.length + 1 - (j + 1))
                    case rel => exact HMe.out (j + 1) (lv - 1) kl lm _ (by omega) (by omega) (by omega) (by omega) (by omega) (by omega) HN.out HSX.out
                    case measure => have := HK.out; omega
                · have x125 : (d == 125) = false := beq_eq_false_iff_ne.mpr h125
                  by_cases h91 : d = 91
                  · subst h91
                    have hnx : ¬ (kl = lv ∧ idx keys lv = true) := fun e => HNO.out (by rw [← H2.out, HD.out, sk_arr, if_pos e])
                    have HARR : Hid ((match be 91 93 0 (91 :: l.drop (j + 1)) with | none => SR.no | some r => sk keys lv kl lm r) = goal) := Lib.hid (by have := H2.out; rw [HD.out, sk_arr, if_neg hnx] at this; exact this)
                    obtain ⟨o', r, c', hr, hrl, hrc, ksl, hIr⟩ := cut_in b o c l j (by omega) hlc
                    have hrb : ∀ x ∈ r, byt x := fun x hx => HBy.out x (by rw [hr] at hx; exact List.mem_of_mem_drop hx)
                    have HSE := Lib.hid (blockEnd_any wc.drew b o' c' r 0 false 91 93 (.inr ⟨rfl, rfl⟩) hrb (hIr _ HId.out) (by omega) hrc)
                    have HR : Hid (r = 91 :: l.drop (j + 1)) := Lib.hid (hr.trans HD.out)
                    have HR2 := Lib.hid hr
                    obtain ⟨q, hq⟩ : ∃ q, bE 91 93 r = q := ⟨_, rfl⟩
                    rw [hq] at HSE
                    have HQ := Lib.hid hq
                    unfold cfgV at HSE
                    clear hr hrb hq h34 h39 h123 h125
                    go_upto_region 67 with (fail)
                    go_cut [210] from 192 to 209 (fun v210 W => Hid (v210 = .bool false ∧ W = wc))
                    case first =>
                      by_cases hkl : kl = lv
                      · have hx : idx keys lv = false := by cases h : idx keys lv with | false => rfl | true => exact absurd ⟨hkl, h⟩ hnx
                        unfold idx at hx
                        rw [Bool.or_eq_false_iff] at hx
                        have hlv0 : 0 ≤ lv := by have := of_decide_eq_false hx.1; omega
                        obtain ⟨n, hn⟩ : ∃ n : Nat, lv = (n : Int) := ⟨lv.toNat, by omega⟩
                        subst hn
                        subst hkl
                        rw [Int.toNat_natCast] at hx
                        have hnk : n < keys.length := by omega
                        obtain ⟨ad, hAd, hck2⟩ := at_str (Kd.C_below HA.out HSX.out.below) n hnk
                        subst hAd
                        obtain ⟨K, hK⟩ : ∃ K, K = keys.getD n ⟨#[]⟩ := ⟨_, rfl⟩
                        rw [← hK] at hck2 hx
                        have xeq : ((n : Int) == (n : Int)) = true := beq_self_eq_true _
                        rcases Nat.eq_zero_or_pos K.size with hz | hz
                        · have z1 : decide (0 < K.size) = false := decide_eq_false (by omega)
                          have z2 : decide ((0 : Int) < (K.size : Int)) = false := decide_eq_false (by omega)
                          as_aux_lemma =>
                          clear hK hx hnx hz
                          go_wp2
                          go_meet
                          case rel => exact Lib.hid ⟨rfl, rfl⟩
                        · have z1 : decide (0 < K.size) = true := decide_eq_true hz
                          have z2 : decide ((0 : Int) < (K.size : Int)) = true := decide_eq_true (by omega)
                          have z3 : (bt K 0 == 91) = false := by
                            have := hx.2
                            rw [List.head?_eq_getElem?, bytesOf_get? K 0 hz] at this
                            rw [beq_eq_false_iff_ne] at this ⊢
                            exact fun e => this (by rw [← e]; rfl)
                          have k1 : ∀ W : World, (Instr.index 9 (.string K) (.int .i64 0)).run Tryd.prog W = .ok (.int .u8 (bt K 0)) W := fun W => ix K 0 (by omega) (by omega) W
                          generalize bt K 0 = y at z3 k1
                          as_aux_lemma =>
                          clear hK hx hnx
                          go_wp2
                          go_meet
                          case rel => exact Lib.hid ⟨rfl, rfl⟩
                      · have xeq : (kl == lv) = false := beq_eq_false_iff_ne.mpr hkl
                        as_aux_lemma =>
                        clear hnx hkl
                        go_wp2
                        go_meet
                        case rel => exact Lib.hid ⟨rfl, rfl⟩
                    case rest =>
                      obtain ⟨rfl, hwc2⟩ := hcut.out
                      subst hwc2
                      clear hcut hnx
                      go_upto_region 85 with (fail)
                      go_cut [34] from 268 to 272 (fun v34 W => Hid (v34 = .int .i64 q ∧ Sx w W b o c l.length))
                      case first =>
                        as_aux_lemma =>
                        go_region_with ((go_at_call 65; refine HSE.out.mono ?_; rintro e w2 ⟨rfl, hb2⟩; replace hb2 := Lib.hid hb2))
                        all_goals
                          go_wp2_with fail
                          go_meet
                          case rel => exact Lib.hid ⟨rfl, HSXd.out.more hb2.out⟩
                      case rest =>
                        obtain ⟨rfl, hB3⟩ := hcut.out
                        have HB3 := Lib.hid hB3
                        clear hcut hB3 HSE kb0 kb1 kb2 hcell
                        cases hrs : be 91 93 0 r with
                        | none =>
                          have e1 : q = -1 := by rw [← HQ.out, bE_none hrs]
                          have HG2 : Hid (goal = .no) := Lib.hid (by rw [← HARR.out, ← HR.out, hrs])
                          subst e1
                          as_aux_lemma =>
                          clear hrs
                          go_wp2
                          go_ret
                          exact ⟨by rw [HG2.out]; rfl, HB3.out.below⟩
                        | some r2 =>
                          have e1 : q = (r.length : Int) - r2.length := by rw [← HQ.out, bE_some hrs]
                          have hla := be_lt' hrs
                          obtain ⟨p, hp⟩ : ∃ p : Nat, p = l.length - r2.length := ⟨_, rfl⟩
                          have hdr : l.drop p = r2 := by
                            obtain ⟨a, z1, _⟩ := be_loc _ _ _ _ (Nat.le_refl _) hrs
                            have z2 : l.drop j = a ++ r2 := by rw [← HR2.out]; exact z1
                            have z3 := congrArg List.length z1
                            rw [List.length_append] at z3
                            rw [show p = j + a.length by omega, ← List.drop_drop, z2, List.drop_left' rfl]
                          have HN : Hid (sk keys lv kl lm (l.drop p) = goal) := Lib.hid (by rw [← HARR.out, ← HR.out, hrs, hdr])
                          have hw1 : IntKind.i64.wrap (q - 1) = q - 1 := IntWalk.i64_in _ (by omega)
                          have hw2 : IntKind.i64.wrap ((j : Int) + (q - 1)) = (p : Int) - 1 := by rw [IntWalk.i64_in _ (by omega)]; omega
                          have hw3 : IntKind.i64.wrap ((p : Int) - 1 + 1) = (p : Int) := by rw [IntWalk.i64_in _ (by omega)]; omega
                          have hw4 : IntKind.i64.wrap (p : Int) = (p : Int) := IntWalk.i64_in _ (by omega)
                          have x1 : (q == -1) = false := beq_eq_false_iff_ne.mpr (by omega)
                          have HP : Hid (j < p ∧ p ≤ l.length) := Lib.hid ⟨by omega, by omega⟩
                          as_aux_lemma =>
                          clear hrs e1 hp hdr hwi
                          go_wp2
                          go_roundg (l.length + 1 - p)
                          case rel => exact HMe.out p lv kl lm _ HP.out.1 HP.out.2 (by have := HP.out; omega) (by have := HP.out; omega) (by have := HP.out; omega) (by omega) HN.out HB3.out
                          case measure => have := HK.out; have := HP.out; omega
                  · have x91 : (d == 91) = false := beq_eq_false_iff_ne.mpr h91
                    by_cases h58 : d = 58
                    · subst h58
                      have HG2 : Hid (goal = .no) := Lib.hid (by rw [← H2.out, HD.out, sk_colon])
                      as_aux_lemma =>
                      clear h34 h39 h123 h125 h91
                      go_wp2
                      go_ret
                      exact ⟨by rw [HG2.out]; rfl, HSX.out.below⟩
                    · have x58 : (d == 58) = false := beq_eq_false_iff_ne.mpr h58
                      have HN : Hid (sk keys lv kl lm (l.drop (j + 1)) = goal) := Lib.hid (by rw [← H2.out, HD.out, sk_else _ _ _ _ _ h34 h123 h125 h91 h58])
                      as_aux_lemma =>
                      clear h34 h39 h123 h125 h91 h58
                      go_wp2
                      go_roundg (l.length + 1 - (j + 1))
                      case rel => exact HMe.out (j + 1) lv kl lm _ (by omega) (by omega) (by omega) (by omega) (by omega) (by omega) HN.out HSX.out
                      case measure => have := HK.out; omega
        · have hdd : decide ((l.length : Int) ≤ (j : Int)) = true := decide_eq_true (by omega)
          have hd2 : decide (l.length ≤ j) = true := decide_eq_true (by omega)
          have HG2 : Hid (goal = .no) := Lib.hid (by rw [← H2.out, List.drop_eq_nil_of_le hge, sk_nil])
          as_aux_lemma =>
          clear hge
          go_wp2
          go_ret
          exact ⟨by rw [HG2.out]; rfl, HSX.out.below⟩
    · have hdd : decide ((i : Int) < (l.length : Int)) = false := decide_eq_false (by omega)
      have hd2 : decide (i < l.length) = false := decide_eq_false (by omega)
      have HG2 : Hid (goal = .no) := Lib.hid (by rw [← HSK.out, List.drop_eq_nil_of_le hge, sk_nil])
      as_aux_lemma =>
      clear hge
      go_wp2
      go_ret
      exact ⟨by rw [HG2.out]; rfl, HSX.out.below⟩
end Go.Proofs.YthehnffmbdlopaaDoor.Jp
