/- Several texts in one. -/
import Derived.Test.YtcaigeikdnoheaaGreatDoorZFp3
set_option linter.unusedVariables false
set_option linter.unusedSimpArgs false
namespace Go.Proofs.YtcaigeikdnoheaaGreatDoor.Fp
open Go.RowKit Go.Proofs.YtcaigeikdnoheaaGreatDoorW.PrintWords Go.Proofs.YtcaigeikdnoheaaGreatDoorW.PrintLast Go.Proofs.YtcaigeikdnoheaaGreatDoorW.PrintMore Go.Proofs.YtcaigeikdnoheaaGreatDoor.Aid Go.Proofs.YtcaigeikdnoheaaGreatDoor.J

def PVc (w0 : World) (A : Nat) (pb : Value) (m : Nat) : Prop := ∀ (s : ByteArray) (k d n : Nat) (W : World) (vs : Value), s.size ≤ m → s.size ≤ 100000 → 2 * s.size + 2 ≤ k → d ≤ 300 → St w0 A W pb vs n → n + s.size ≤ 100000 →
  Calls Tryz.prog 69 #[.pointer (some ⟨A, 1, none⟩), .string s, .int .i64 (d : Int)] W (PvPost w0 A pb W vs n s.size (pv k d (bytesOf s)))
theorem TL.app_nil : ∀ l : TL, l.app .nil = l
  | .nil => rfl
  | .cons t l => by rw [TL.app, TL.app_nil l]
theorem TL.app_one (l : TL) (t : T) : l.app (.cons t .nil) = l.snoc t := by rw [← TL.snoc_app, TL.app_nil]
theorem ArrN.start {w0 W0 W : World} {A n b o : Nat} {pb vs0 vs : Value} (h : Nd w0 A pb W0 vs0 W vs n b o) : ArrN w0 A pb W0 vs0 ((W.setCell ⟨b, o + 4, none⟩ (.int .i64 2)).setCell ⟨b, o + 2, none⟩ (.slice none 0 0)) vs n b o .nil (.slice none 0 0) := by
  have h1 := h.set 4 (by omega) (.int .i64 2)
  have h2 := h1.set 2 (by omega) (.slice none 0 0)
  refine ⟨h2, (Nd.other 4 2 (by omega) _).trans (h.same 4 (by omega) _), h1.same 2 (by omega) _, 0, 0, rfl, fun e => absurd rfl e, ?_⟩
  rw [repL]; trivial
structure ArrI (w0 : World) (A : Nat) (pb : Value) (W0 : World) (vs0 : Value) (n0 len0 : Nat) (goal : Option (TL × L)) (d b o : Nat) (sq : ByteArray) (k n : Nat) (vs v2 : Value) (acc : TL) (Wr : World) : Prop where
  fuel : 2 * sq.size + 3 ≤ k
  nd : ArrN w0 A pb W0 vs0 Wr vs n b o acc v2
  cnt : n + sq.size ≤ n0 + 1 + len0
  goal : goal = (pa k d (bytesOf sq)).map fun x => (acc.app x.1, x.2)
  len : acc.len + sq.size ≤ len0
def ArrJ (w0 : World) (A : Nat) (pb : Value) (W0 : World) (vs0 : Value) (n0 len0 : Nat) (goal : Option (TL × L)) (d b o : Nat) (K : Nat) (v1 : Value) (Wr : World) : Prop :=
  ∃ sq k n vs v2 acc, v1 = .string sq ∧ sq.size = K ∧ ArrI w0 A pb W0 vs0 n0 len0 goal d b o sq k n vs v2 acc Wr
set_option maxHeartbeats 16000000 in
set_option maxRecDepth 100000 in
theorem paFull_any (w0 W : World) (A n k d m : Nat) (pb vs : Value) (s : ByteArray) (c : Int) (q : L) (hv : PVc w0 A pb m) (hs : ws (bytesOf s) = c :: q) (hc : c ≠ 93) (hm : s.size ≤ m) (h1 : s.size ≤ 100000) (hk : 2 * s.size + 3 ≤ k) (hd : d ≤ 300) (h : St w0 A W pb vs n) (hn : n + s.size + 1 ≤ 100000) :
    Calls Tryz.prog 94 #[.pointer (some ⟨A, 1, none⟩), .string s, .int .i64 (d : Int)] W (PvPost w0 A pb W vs n s.size ((pa k d (c :: q)).map fun x => (.arr x.1, x.2))) := by
  have hwl : (c :: q).length ≤ s.size := by rw [← hs, ← bytesOf_length]; exact ws_le _
  have hbs : bytesOf (strOfNums (c :: q)) = c :: q := bs_of (s := s) (by rw [← hs]; exact ws_sb _)
  obtain ⟨s1, hs1⟩ : ∃ s1, s1 = strOfNums (c :: q) := ⟨_, rfl⟩
  rw [← hs1] at hbs
  obtain ⟨hz, k0, k1⟩ := head_facts hbs
  have hzl : s1.size ≤ s.size := by rw [hz]; exact hwl
  have hz0 : ((s1.size : Int) == 0) = false := beq_eq_false_iff_ne.mpr (by omega)
  have e93 : (c == 93) = false := beq_eq_false_iff_ne.mpr hc
  have HW := Lib.hid (fun W => ws_any s W h1)
  rw [hs, ← hs1] at HW
  have HT := Lib.hid h
  have HN2 := Lib.hid (show n ≤ 100000 by omega)
  obtain ⟨goal, hgoal⟩ : ∃ g, g = pa k d (bytesOf s1) := ⟨_, rfl⟩
  rw [← hbs, ← hgoal]
  have HG := Lib.hid hgoal
  have HV := Lib.hid hv
  have HC := Lib.hid (And.intro hk (And.intro hzl (And.intro hm hn)))
  clear hs h hwl hs1 hz hc hgoal hbs hv hk hm hn
  go_enter Tryz.func94, Tryz.ntmps94
  go_upto_region 11 with (first
    | (go_at_call 77; refine (HW.out _).mono ?_; rintro e w1 ⟨rfl, nq, rfl⟩)
    | (go_at_call 81; refine (gv_any (HT.out.below (pw_below_drewN (Below.refl W.heap.size W) nq)) HN2.out).mono ?_; rintro e w2 ⟨b, vs', o, rfl, ho, hg⟩; have HD := Lib.hid (Nd.of_gv (HT.out.below (pw_below_drewN (Below.refl W.heap.size W) nq)) hg ho); have F1 := Lib.hid (HT.out.frb (pw_below_drewN (Below.refl W.heap.size W) nq)); have hf4 := HD.out.frozen 4; obtain ⟨u4, hu4⟩ := HD.out.some_cell 4 (by omega); have G2 := Lib.hid hg.c2; clear ho hg))
  clear hu4 hf4
  have HN3 := Lib.hid (HD.out.set 4 (by omega) (.int .i64 2))
  have hf2 := HN3.out.frozen 2
  have hu2 : (w2.setCell ⟨b, o + 4, none⟩ (.int .i64 2)).cell? ⟨b, o + 2, none⟩ = some (.slice none 0 0) := (Nd.other 2 4 (by omega) _).trans G2.out
  have HA0 := Lib.hid (ArrN.start HD.out)
  go_wp2
  clear hf2 hu2
  generalize World.setCell (World.setCell w2 _ _) _ _ = W5 at HA0 ⊢
  have HW0 := Lib.hid (HT.out.below (pw_below_drewN (Below.refl W.heap.size W) nq))
  obtain ⟨W0, hW0⟩ : ∃ z, z = W.drewN nq := ⟨_, rfl⟩
  have HT0 := Lib.hid (show Tk W W0 by rw [hW0]; exact Tk.below (pw_below_drewN (Below.refl _ _) _))
  rw [← hW0] at F1 HA0 HW0
  have HS : Hid (ArrJ w0 A pb W0 vs n s.size goal d b o s1.size (.string s1) W5) := Lib.hid ⟨s1, k, n + 1, vs', _, .nil, rfl, rfl, by have := HC.out.1; have := HC.out.2.1; omega, HA0.out, by have := HC.out.2.1; omega, by rw [HG.out]; cases pa k d (bytesOf s1) <;> rfl, by have := HC.out.2.1; show 0 + _ ≤ _; omega⟩
  clear HD HN3 G2 HA0 HG hW0 k0 k1 hz0 e93 HW HT HN2
  go_loopg [1] s1.size (fun kq v1 w' => Hid (ArrJ w0 A pb W0 vs n s.size goal d b o kq v1 w'))
  case atStart => exact HS
  case round =>
    obtain ⟨sq, k, nq, vs1, v2, acc, rfl, rfl, hI⟩ := hrel.out
    have HI := Lib.hid hI
    clear hrel HS
    have HTK := Lib.hid (HT0.out.trans (Tk.of_fr HW0.out HI.out.nd.nd.fr HI.out.nd.nd.st))
    have hsz : sq.size ≤ 100000 := by have := HI.out.len; omega
    obtain ⟨k', rfl⟩ : ∃ k', k = k' + 1 := ⟨k - 1, by have := hI.fuel; omega⟩
    have hbw : bytesOf (strOfNums (ws (bytesOf sq))) = ws (bytesOf sq) := bs_of (ws_sb _)
    have hwl := ws_le (bytesOf sq)
    rw [bytesOf_length] at hwl
    obtain ⟨s2, hs2⟩ : ∃ s2, s2 = strOfNums (ws (bytesOf sq)) := ⟨_, rfl⟩
    rw [← hs2] at hbw
    have hz2 : s2.size = (ws (bytesOf sq)).length := by rw [← hbw, bytesOf_length]
    have HW := Lib.hid (fun W => ws_any sq W hsz)
    rw [← hs2] at HW
    have HP : Hid (∀ W1, Drawn0 wr W1 → Calls Tryz.prog 69 #[.pointer (some ⟨A, 1, none⟩), .string s2, .int .i64 (d : Int)] W1 (PvPost w0 A pb W1 vs1 nq s2.size (pv k' d (ws (bytesOf sq))))) := Lib.hid fun W1 hd1 => by
      have := HV.out s2 k' d nq W1 vs1 (by have := hI.len; have := HC.out.2.2.1; omega) (by omega) (by have := hI.fuel; omega) hd (hI.nd.nd.st.below hd1.below) (by have := hI.cnt; have := HC.out.2.2.2; omega)
      rwa [hbw] at this
    have hg := hI.goal
    rw [pa] at hg
    clear hI
    cases hr : pv k' d (ws (bytesOf sq)) with
    | none =>
      rw [hr] at HP hg
      have Hg := Lib.hid (show goal = none from hg)
      clear hg hr hbw hwl hs2 hz2
      go_wp2_with (first
        | (go_at_call 77; refine (HW.out _).mono ?_; rintro e w1 ⟨rfl, hd1⟩; have HD1 := Lib.hid hd1; clear hd1)
        | (go_at_call 69; refine (HP.out _ HD1.out).mono ?_; rintro e w3 ⟨hb, htk, a, N, rfl⟩; have HB := Lib.hid hb; have HTb := Lib.hid ((HTK.out.trans (Tk.below HD1.out.below)).trans htk); clear hb htk)
        | (go_at_call 54; refine (new_any _ _).mono ?_; rintro e w2 ⟨⟨N2, rfl⟩, hb⟩; have HB2 := Lib.hid (below_step HB.out hb); have HTc := Lib.hid (HTb.out.trans (Tk.below hb)); clear hb))
      go_ret3
      exact pv_none (by rw [Hg.out]; rfl) HB2.out HTc.out rfl
    | some x =>
      obtain ⟨t, r⟩ := x
      rw [hr] at HP hg
      replace hg : goal = ((match ws r with | [] => none | c :: q => if c = 44 then (pa k' d q).map fun x => (TL.cons t x.1, x.2) else if c = 93 then some (TL.cons t .nil, q) else none) : Option (TL × L)).map fun x => (acc.app x.1, x.2) := hg
      have hrs : Sb r (bytesOf sq) := ((sbs k').1 _ _ _ _ hr).trans (ws_sb _)
      have hrl := ((sizes k').1 _ _ _ _ hr).2
      have hbr : bytesOf (strOfNums r) = r := bs_of hrs
      have HR := Lib.hid (fun W => ws_any (strOfNums r) W (by rw [sz_of]; omega))
      rw [hbr] at HR
      have hrw := ws_le r
      have hws : Sb (ws r) (bytesOf sq) := (ws_sb r).trans hrs
      have HLn := Lib.hid (show acc.len ≤ 100000 by have := HI.out.len; omega)
      have HX := Lib.hid (And.intro hg (And.intro hrl (And.intro hwl hz2)))
      clear hg hr hbw hs2 hbr hrs hrl hwl hz2
      go_upto_region 19 with (first
        | (go_at_call 77; refine (HW.out _).mono ?_; rintro e w1 ⟨rfl, hd1⟩; have HD1 := Lib.hid hd1; clear hd1)
        | (go_at_call 69; refine (HP.out _ HD1.out).mono ?_; rintro e w3 ⟨hb, tb, tq, vs2, n2, rfl, hst, hcnt, hfr, hrep⟩; have HN1 := Lib.hid (HI.out.nd.below HD1.out.below); have HN3 := Lib.hid (HN1.out.step hfr hst); have c2 := HN3.out.c2; have HF := Lib.hid hfr; have HST := Lib.hid hst; have HREP := Lib.hid hrep; have HCN := Lib.hid hcnt; clear hb hst hcnt hfr hrep)
        | (at_builtin; refine vp_append rfl (.tmp 70) (.tmp 72) rfl rfl (by simp [go_sem]) HN1.out HF.out HST.out HREP.out HLn.out ?_; intro g1 cp w4 hn hc hf; have HN4 := Lib.hid hn; clear c2 hn))
      clear hc hf
      generalize World.setCell w4 _ _ = W6 at HN4 ⊢
      clear HN1 HN3 HF HST HREP HLn HP HW HD1
      cases hw : ws r with
      | nil =>
        have Hg : Hid (goal = none) := Lib.hid (by have := HX.out.1; rw [hw] at this; exact this)
        rw [hw] at HR
        obtain ⟨s3, hs3⟩ : ∃ s3, s3 = strOfNums [] := ⟨_, rfl⟩
        have e0 : ((s3.size : Int) == 0) = true := by rw [hs3]; rfl
        rw [← hs3] at HR
        clear hs3 hw hrw hws
        go_wp2_with (first
          | (go_at_call 77; refine (HR.out _).mono ?_; rintro e w7 ⟨rfl, hd1⟩; have HB := Lib.hid (below_step HN4.out.nd.st.bel hd1.below); have HTb := Lib.hid ((HT0.out.trans (Tk.of_fr HW0.out HN4.out.nd.fr HN4.out.nd.st)).trans (Tk.below hd1.below)); clear hd1)
          | (go_at_call 54; refine (new_any _ _).mono ?_; rintro e w8 ⟨⟨N2, rfl⟩, hb⟩; have HB2 := Lib.hid (below_step HB.out hb); have HTc := Lib.hid (HTb.out.trans (Tk.below hb)); clear hb))
        go_ret3
        exact pv_none (by rw [Hg.out]; rfl) HB2.out HTc.out rfl
      | cons cq q3 =>
        rw [hw] at HR hrw hws
        have hg2 : goal = ((if cq = 44 then (pa k' d q3).map fun x => (TL.cons t x.1, x.2) else if cq = 93 then some (TL.cons t .nil, q3) else none) : Option (TL × L)).map fun x => (acc.app x.1, x.2) := by have := HX.out.1; rw [hw] at this; exact this
        have hb3 : bytesOf (strOfNums (cq :: q3)) = cq :: q3 := bs_of hws
        have hbq : bytesOf (strOfNums q3) = q3 := bs_of ((Sb.cons cq q3).trans hws)
        obtain ⟨s3, hs3⟩ : ∃ s3, s3 = strOfNums (cq :: q3) := ⟨_, rfl⟩
        rw [← hs3] at HR hb3
        obtain ⟨hz3, m0, m1⟩ := head_facts hb3
        have e0 : ((s3.size : Int) == 0) = false := beq_eq_false_iff_ne.mpr (by omega)
        simp only [List.length_cons] at hrw
        by_cases h44 : cq = 44
        · subst h44
          rw [if_pos rfl] at hg2
          have FIN : Hid (∀ W7, Drawn0 W6 W7 → ArrJ w0 A pb W0 vs n s.size goal d b o (strOfNums q3).size (.string (strOfNums q3)) W7) := Lib.hid fun W7 hd7 => by
            have hx2 := HX.out.2
            have hlen := HI.out.len
            have hcnt := HI.out.cnt
            have hfu := HI.out.fuel
            have hcn := HCN.out
            refine ⟨_, k', n2, vs2, _, acc.snoc t, rfl, rfl, ?_, HN4.out.below hd7.below, ?_, ?_, ?_⟩
            · rw [sz_of]; omega
            · rw [sz_of]; omega
            · rw [hg2, hbq]
              cases pa k' d q3 with
              | none => rfl
              | some y => exact congrArg some (congrArg (fun z => (z, y.2)) (TL.snoc_app acc t y.1).symm)
            · rw [sz_of, TL.len_snoc]; omega
          have HLT := Lib.hid (show (strOfNums q3).size < sq.size by rw [sz_of]; have := HX.out.2; omega)
          clear hg2 hb3 hbq hs3 hz3 hrw hws hw
          go_wp2_with (go_at_call 77; refine (HR.out _).mono ?_; rintro e w7 ⟨rfl, hd1⟩; have HD7 := Lib.hid hd1; clear hd1)
          go_roundg (strOfNums q3).size
          case rel => exact Lib.hid (FIN.out _ HD7.out)
          case measure => exact HLT.out
        have e44 : (cq == 44) = false := beq_eq_false_iff_ne.mpr h44
        rw [if_neg h44] at hg2
        by_cases h93 : cq = 93
        · subst h93
          rw [if_pos rfl] at hg2
          have Hg : Hid ((goal.map fun x => (T.arr x.1, x.2)) = some (T.arr (acc.snoc t), q3)) := Lib.hid (by rw [hg2]; exact congrArg some (congrArg (fun z => (T.arr z, q3)) (TL.app_one acc t)))
          have HL : Hid (n2 + q3.length ≤ n + s.size) := Lib.hid (by
            have hx2 := HX.out.2
            have hcnt := HI.out.cnt
            have hcn := HCN.out
            omega)
          clear hg2 hb3 hbq hs3 hz3 hrw hws hw
          go_wp2_with (go_at_call 77; refine (HR.out _).mono ?_; rintro e w7 ⟨rfl, hd1⟩; have HN7 := Lib.hid (HN4.out.below hd1.below); clear hd1)
          go_ret3
          exact pv_some Hg.out rfl HN7.out.nd.st HL.out (F1.out.trans HN7.out.nd.fr) (rep_new F1.out HN7.out.rep)
        · have e93 : (cq == 93) = false := beq_eq_false_iff_ne.mpr h93
          rw [if_neg h93] at hg2
          have Hg : Hid (goal = none) := Lib.hid hg2
          clear hg2 hb3 hbq hs3 hz3 hrw hws hw h44 h93
          go_wp2_with (first
            | (go_at_call 77; refine (HR.out _).mono ?_; rintro e w7 ⟨rfl, hd1⟩; have HB := Lib.hid (below_step HN4.out.nd.st.bel hd1.below); have HTb := Lib.hid ((HT0.out.trans (Tk.of_fr HW0.out HN4.out.nd.fr HN4.out.nd.st)).trans (Tk.below hd1.below)); clear hd1)
            | (go_at_call 54; refine (new_any _ _).mono ?_; rintro e w8 ⟨⟨N2, rfl⟩, hb⟩; have HB2 := Lib.hid (below_step HB.out hb); have HTc := Lib.hid (HTb.out.trans (Tk.below hb)); clear hb))
          go_ret3
          exact pv_none (by rw [Hg.out]; rfl) HB2.out HTc.out rfl
end Go.Proofs.YtcaigeikdnoheaaGreatDoor.Fp

set_option linter.unusedVariables false
set_option linter.unusedSimpArgs false
namespace Go.Proofs.YtcaigeikdnoheaaGreatDoor.Fp
open Go.RowKit Go.Proofs.YtcaigeikdnoheaaGreatDoorW.PrintWords Go.Proofs.YtcaigeikdnoheaaGreatDoorW.PrintLast Go.Proofs.YtcaigeikdnoheaaGreatDoorW.PrintMore Go.Proofs.YtcaigeikdnoheaaGreatDoor.Aid Go.Proofs.YtcaigeikdnoheaaGreatDoor.J

set_option maxHeartbeats 16000000 in
set_option maxRecDepth 100000 in
theorem pa_any (w0 W : World) (A n k d m : Nat) (pb vs : Value) (s : ByteArray) (hv : PVc w0 A pb m) (hm : s.size ≤ m) (h1 : s.size ≤ 100000) (hk : 2 * s.size + 3 ≤ k) (hd : d ≤ 300) (h : St w0 A W pb vs n) (hn : n + s.size + 1 ≤ 100000) :
    Calls Tryz.prog 94 #[.pointer (some ⟨A, 1, none⟩), .string s, .int .i64 (d : Int)] W (PvPost w0 A pb W vs n s.size (arr0 (pa k d) (bytesOf s))) := by
  unfold arr0
  have HW := Lib.hid (fun W => ws_any s W h1)
  have HT := Lib.hid h
  cases hs : ws (bytesOf s) with
  | nil =>
    rw [hs] at HW
    obtain ⟨s1, hs1⟩ : ∃ s1, s1 = strOfNums [] := ⟨_, rfl⟩
    have e0 : ((s1.size : Int) == 0) = true := by rw [hs1]; rfl
    rw [← hs1] at HW
    clear hs hs1 hv hk hn h
    go_enter Tryz.func94, Tryz.ntmps94
    go_wp2_with (first
      | (go_at_call 77; refine (HW.out _).mono ?_; rintro e w1 ⟨rfl, hd1⟩; have HB := Lib.hid hd1.below; clear hd1)
      | (go_at_call 54; refine (new_any _ _).mono ?_; rintro e w2 ⟨⟨N2, rfl⟩, hb⟩; have HB2 := Lib.hid (below_step HB.out hb); clear hb))
    go_ret3
    exact pv_noneB rfl HT.out HB2.out rfl
  | cons c q =>
    by_cases hc : c = 93
    · subst hc
      simp only [if_pos]
      have hwl : ((93 : Int) :: q).length ≤ s.size := by rw [← hs, ← bytesOf_length]; exact ws_le _
      have hbs : bytesOf (strOfNums (93 :: q)) = 93 :: q := bs_of (s := s) (by rw [← hs]; exact ws_sb _)
      rw [hs] at HW
      obtain ⟨s1, hs1⟩ : ∃ s1, s1 = strOfNums (93 :: q) := ⟨_, rfl⟩
      rw [← hs1] at hbs HW
      obtain ⟨hz, k0, k1⟩ := head_facts hbs
      have hz0 : ((s1.size : Int) == 0) = false := beq_eq_false_iff_ne.mpr (by omega)
      have HN2 := Lib.hid (show n ≤ 100000 by omega)
      simp only [List.length_cons] at hwl
      have HL := Lib.hid (show n + 1 + q.length ≤ n + s.size by omega)
      obtain ⟨res, hres⟩ : ∃ r, r = some (T.arr .nil, q) := ⟨_, rfl⟩
      rw [← hres]
      have HR := Lib.hid hres
      clear hs hs1 hv hk hn h hwl hbs hz hres
      go_enter Tryz.func94, Tryz.ntmps94
      go_upto_region 7 with (first
        | (go_at_call 77; refine (HW.out _).mono ?_; rintro e w1 ⟨rfl, nq, rfl⟩)
        | (go_at_call 81; refine (gv_any (HT.out.below (pw_below_drewN (Below.refl W.heap.size W) nq)) HN2.out).mono ?_; rintro e w2 ⟨b, vs', o, rfl, ho, hg⟩; have HD := Lib.hid (Nd.of_gv (HT.out.below (pw_below_drewN (Below.refl W.heap.size W) nq)) hg ho); have F1 := Lib.hid (HT.out.frb (pw_below_drewN (Below.refl W.heap.size W) nq)); have hf4 := HD.out.frozen 4; obtain ⟨u4, hu4⟩ := HD.out.some_cell 4 (by omega); have G2 := Lib.hid hg.c2; clear ho hg))
      clear hu4 hf4
      have HN3 := Lib.hid (HD.out.set 4 (by omega) (.int .i64 2))
      have hf2 := HN3.out.frozen 2
      have hu2 : (w2.setCell ⟨b, o + 4, none⟩ (.int .i64 2)).cell? ⟨b, o + 2, none⟩ = some (.slice none 0 0) := (Nd.other 2 4 (by omega) _).trans G2.out
      have HA0 := Lib.hid (ArrN.start HD.out)
      go_upto_region 8 with (fail)
      clear hf2 hu2
      generalize World.setCell (World.setCell w2 _ _) _ _ = W5 at HA0 ⊢
      go_quiet (fail)
      go_wp2
      go_ret3
      have HA1 := HA0.out.below (pw_below_drewN (Below.refl W5.heap.size W5) nq)
      exact pv_some HR.out rfl HA1.nd.st HL.out (F1.out.trans HA1.nd.fr) (rep_new F1.out HA1.rep)
    · simp only [if_neg hc]
      exact paFull_any w0 W A n k d m pb vs s c q hv hs hc hm h1 hk hd h hn
set_option maxRecDepth 100000 in
/-- reset of an object that was never filled. -/
theorem reset_any (W : World) (b o : Nat) (u : Value) (h0 : W.cell? ⟨b, o, none⟩ = some (.slice none 0 0)) (h1 : W.cell? ⟨b, o + 1, none⟩ = some u) (f0 : W.frozen? ⟨b, o, none⟩ = false) (f1 : W.frozen? ⟨b, o + 1, none⟩ = false) :
    Calls Tryz.prog 82 #[.pointer (some ⟨b, o, none⟩)] W fun e w' => e = .returned (.tuple #[]) ∧ w' = (W.setCell ⟨b, o, none⟩ (.slice none 0 0)).setCell ⟨b, o + 1, none⟩ (.bool false) := by
  have kcl : ∀ (ty : TypeId) (W : World), (Builtin.clear_ #[tKvs] ty #[.slice none 0 0]).run Tryz.prog W = .ok (.tuple #[]) W := fun ty W => by
    simp [Builtin.clear_, run_underlying Tryz.underlying83]
  go_enter Tryz.func82, Tryz.ntmps82
  go_wp2
  go_end0
  exact ⟨rfl, rfl⟩

/-- An object under construction. -/
structure ObjN (w0 : World) (A : Nat) (pb : Value) (W0 : World) (vs0 : Value) (W : World) (vs : Value) (n b o : Nat) (acc : OL) (v0 : Value) : Prop where
  nd : Nd w0 A pb W0 vs0 W vs n b o
  t : W.cell? ⟨b, o + 4, none⟩ = some (.int .i64 1)
  c1 : W.cell? ⟨b, o + 1, none⟩ = some (.bool false)
  c0 : W.cell? ⟨b, o, none⟩ = some v0
  row : ∃ g c, v0 = slc g acc.len c ∧ (acc.len ≠ 0 → RowV W0 W g acc.len c tKv 2) ∧ repO W (fun i j => Old A W vs i j ∧ Pn A W0 vs0 b o g (2 * acc.len) i j) acc g 0
/-- The same with one member more whose place is there: ⟨g, q⟩, its name and value still open. -/
structure ObjK (w0 : World) (A : Nat) (pb : Value) (W0 : World) (vs0 : Value) (W : World) (vs : Value) (n b o : Nat) (acc : OL) (g q : Nat) : Prop where
  nd : Nd w0 A pb W0 vs0 W vs n b o
  t : W.cell? ⟨b, o + 4, none⟩ = some (.int .i64 1)
  c1 : W.cell? ⟨b, o + 1, none⟩ = some (.bool false)
  hq : q = acc.len * 2
  row : ∃ c, W.cell? ⟨b, o, none⟩ = some (.slice (some ⟨g, 0, none⟩) (acc.len + 1) c) ∧ RowV W0 W g (acc.len + 1) c tKv 2 ∧ repO W (fun i j => Old A W vs i j ∧ Pn A W0 vs0 b o g (2 * acc.len) i j) acc g 0
section
variable {w0 W0 W W1 : World} {A n n1 b o g q : Nat} {pb vs0 vs vs1 v0 : Value} {acc : OL}
theorem Nd.cell0 (h : Nd w0 A pb W0 vs0 W vs n b o) (f : Fr A W vs W1 vs1) : W1.cell? ⟨b, o, none⟩ = W.cell? ⟨b, o, none⟩ := f.cell (h.old 0 (by omega))
theorem ObjN.step (h : ObjN w0 A pb W0 vs0 W vs n b o acc v0) (f : Fr A W vs W1 vs1) (s : St w0 A W1 pb vs1 n1) : ObjN w0 A pb W0 vs0 W1 vs1 n1 b o acc v0 := by
  obtain ⟨nd, t, c1, c0, g, c, e, hr, hl⟩ := h
  exact ⟨nd.step f s, (f.cell (nd.old 4 (by omega))).trans t, (f.cell (nd.old 1 (by omega))).trans c1, (nd.cell0 f).trans c0, g, c, e, fun hn => (hr hn).step nd (by decide) f, repO_keep (f.keep _) acc g 0 hl⟩
theorem ObjN.below (h : ObjN w0 A pb W0 vs0 W vs n b o acc v0) (k : Below W.heap.size W W1) : ObjN w0 A pb W0 vs0 W1 vs n b o acc v0 := h.step (h.nd.st.frb k) (h.nd.st.below k)
theorem ObjK.step (h : ObjK w0 A pb W0 vs0 W vs n b o acc g q) (f : Fr A W vs W1 vs1) (s : St w0 A W1 pb vs1 n1) : ObjK w0 A pb W0 vs0 W1 vs1 n1 b o acc g q := by
  obtain ⟨nd, t, c1, hq, c, c0, hr, hl⟩ := h
  exact ⟨nd.step f s, (f.cell (nd.old 4 (by omega))).trans t, (f.cell (nd.old 1 (by omega))).trans c1, hq, c, (nd.cell0 f).trans c0, hr.step nd (by decide) f, repO_keep (f.keep _) acc g 0 hl⟩
theorem ObjK.below (h : ObjK w0 A pb W0 vs0 W vs n b o acc g q) (k : Below W.heap.size W W1) : ObjK w0 A pb W0 vs0 W1 vs n b o acc g q := h.step (h.nd.st.frb k) (h.nd.st.below k)
theorem ObjN.rep (h : ObjN w0 A pb W0 vs0 W vs n b o acc v0) : rep W (fun i j => Old A W vs i j ∧ ¬ Old A W0 vs0 i j) (.obj acc) b o := by
  obtain ⟨nd, t, c1, c0, g, c, rfl, hr, hl⟩ := h
  rw [Fp.rep]
  exact ⟨nd.v, ⟨t, nd.old 4 (by omega), nd.new 4 (by omega)⟩, ⟨c1, nd.old 1 (by omega), nd.new 1 (by omega)⟩, g, c, ⟨c0, nd.old 0 (by omega), nd.new 0 (by omega)⟩, repO_keep (fun i j hq => ⟨⟨⟨hq.1, hq.2.1⟩, hq.2.2.2⟩, rfl, fun _ h => h⟩) acc g 0 hl⟩
theorem ObjN.start (h : Nd w0 A pb W0 vs0 W vs n b o) : ObjN w0 A pb W0 vs0 (((W.setCell ⟨b, o + 4, none⟩ (.int .i64 1)).setCell ⟨b, o, none⟩ (.slice none 0 0)).setCell ⟨b, o + 1, none⟩ (.bool false)) vs n b o .nil (.slice none 0 0) := by
  have h1 := h.set 4 (by omega) (.int .i64 1)
  have h2 := h1.set 0 (by omega) (.slice none 0 0)
  have h3 := h2.set 1 (by omega) (.bool false)
  refine ⟨h3, (Nd.other 4 1 (by omega) _).trans ((Nd.other 4 0 (by omega) _).trans (h.same 4 (by omega) _)), h2.same 1 (by omega) _, (Nd.other 0 1 (by omega) _).trans (h1.same 0 (by omega) _), 0, 0, rfl, fun e => absurd rfl e, ?_⟩
  rw [repO]; trivial
/-- The row as getKV asks for it. -/
theorem ObjN.kv (h : ObjN w0 A pb W0 vs0 W vs n b o acc v0) : ∃ ks, Kv W v0 acc.len ks ∧ (acc.len ≠ 0 → ∀ g c, v0 = slc g acc.len c → ∀ j, j < acc.len * 2 → ks[j]? = W.cell? ⟨g, j, none⟩) := by
  obtain ⟨nd, t, c1, c0, g, c, e, hr, hl⟩ := h
  rcases Nat.eq_zero_or_pos acc.len with hz | hz
  · refine ⟨[], ⟨by rw [hz]; rfl, .inl ⟨by rw [e, hz]; rfl, hz⟩⟩, fun h => absurd hz h⟩
  · obtain ⟨Z, e1, e2, e3, e4, e5⟩ := hr (by omega)
    have ev : v0 = .slice (some ⟨g, 0, none⟩) acc.len c := by rw [e]; unfold slc; rw [if_neg (by omega)]
    refine ⟨Z.toList.take (acc.len * 2), ⟨by rw [List.length_take, Array.length_toList]; omega, .inr ⟨g, c, Z, ev, e1, e2, e3, e4, rfl⟩⟩, fun _ g' c' e' j hj => ?_⟩
    have hg : g' = g := by
      rw [ev] at e'
      unfold slc at e'
      rw [if_neg (by omega)] at e'
      injection e' with e' _ _
      injection e' with e'
      injection e' with e' _ _
      exact e'.symm
    subst hg
    rw [List.getElem?_take_of_lt hj, Array.getElem?_toList, blk_cell e1]
theorem repO_move {g g1 : Nat} (ht : ty W1 g1 tKv) : ∀ (l : OL) (i : Nat) (O O' : Nat → Nat → Prop), Keep W O W1 O' → (∀ x y, O x y → x ≠ g → x ≠ g1) → (∀ j, 2 * i ≤ j → j < 2 * (i + l.len) → W1.cell? ⟨g1, j, none⟩ = W.cell? ⟨g, j, none⟩ ∧ O' g1 j) → repO W O l g i → repO W1 O' l g1 i
  | .nil, i, O, O', h, hm, hc, r => by rw [repO]; trivial
  | .cons k t l, i, O, O', h, hm, hc, r => by
    rw [repO] at r ⊢
    obtain ⟨r0, rk, tb, tq, S, r1, r2, r3⟩ := r
    obtain ⟨e1, e2⟩ := hc (2 * i) (Nat.le_refl _) (by rw [OL.len]; omega)
    obtain ⟨e3, e4⟩ := hc (2 * i + 1) (by omega) (by rw [OL.len]; omega)
    refine ⟨ht, ⟨e1.trans rk.1, e2⟩, tb, tq, fun x y => S x y ∧ x ≠ g, ⟨e3.trans r1.1, e4⟩, rep_keep (fun x y q => ⟨⟨(h x y q.1).1, hm x y q.1 q.2.1, q.2.2, q.2.1⟩, (h x y q.1).2⟩) t tb tq r2, repO_move ht l (i + 1) _ _ (fun x y q => ⟨⟨(h x y q.1).1, .inr fun hs => q.2.elim (fun e => hs.2 e) (fun hn => hn hs.1)⟩, (h x y q.1).2⟩) (fun x y q hne => hm x y q.1 hne) (fun j h1 h2 => ?_) r3⟩
    obtain ⟨f1, f2⟩ := hc j (by omega) (by rw [OL.len]; omega)
    exact ⟨f1, f2, .inl rfl⟩
/-- One member more: its value's cells, O2, are none of those ahead of it, O1. -/
theorem repO_snoc {g : Nat} {k : L} {t : T} {tb tq : Nat} (ht : ty W g tKv) : ∀ (l : OL) (i : Nat) (O1 O2 O : Nat → Nat → Prop), (∀ x y, O1 x y → O x y) → (∀ x y, O2 x y → O x y ∧ x ≠ g ∧ ¬ O1 x y) → (W.cell? ⟨g, 2 * (i + l.len), none⟩ = some (.string (strOfNums k)) ∧ O g (2 * (i + l.len))) → (W.cell? ⟨g, 2 * (i + l.len) + 1, none⟩ = some (.pointer (some ⟨tb, tq, none⟩)) ∧ O g (2 * (i + l.len) + 1)) → rep W O2 t tb tq → repO W O1 l g i → repO W O (l.snoc k t) g i
  | .nil, i, O1, O2, O, h1, h2, hk, hc, r, _ => by
    rw [OL.snoc, repO]
    exact ⟨ht, hk, tb, tq, fun _ _ => True, hc, rep_keep (fun x y q => ⟨⟨(h2 x y q).1, (h2 x y q).2.1, trivial⟩, rfl, fun _ h => h⟩) _ _ _ r, by rw [repO]; trivial⟩
  | .cons j u l, i, O1, O2, O, h1, h2, hk, hc, r, q => by
    rw [repO] at q
    rw [OL.snoc, repO]
    rw [OL.len, show i + (l.len + 1) = i + 1 + l.len by omega] at hk hc
    obtain ⟨q0, qk, b, o, S, q1, q2, q3⟩ := q
    refine ⟨q0, ⟨qk.1, h1 _ _ qk.2⟩, b, o, fun x y => S x y ∧ O1 x y, ⟨q1.1, h1 _ _ q1.2⟩, rep_keep (fun x y k => ⟨⟨h1 x y k.1, k.2.1, k.2.2, k.1⟩, rfl, fun _ h => h⟩) _ _ _ q2, repO_snoc ht l (i + 1) _ O2 _ (fun x y k => ⟨h1 x y k.1, k.2.elim .inl (fun hn => .inr fun hs => hn hs.1)⟩) (fun x y k => ?_) ⟨hk.1, hk.2, .inl rfl⟩ ⟨hc.1, hc.2, .inl rfl⟩ r q3⟩
    obtain ⟨a1, a2, a3⟩ := h2 x y k
    exact ⟨⟨a1, .inr fun hs => a3 hs.2⟩, a2, fun hs => a3 hs.1⟩
/-- What getKV makes of it. -/
theorem ObjN.more {m : Nat} {ks : List Value} {W2 W3 : World} {Z : Array Value} (h : ObjN w0 A pb W0 vs0 W vs n b o acc v0) (hks : acc.len ≠ 0 → ∀ g c, v0 = slc g acc.len c → ∀ j, j < acc.len * 2 → ks[j]? = W.cell? ⟨g, j, none⟩) (b1 : Below W.heap.size W W2) (b2 : Below W2.heap.size (W2.setCell ⟨b, o, none⟩ (.slice (some ⟨g, 0, none⟩) (acc.len + 1) m)) W3)
    (e : W2.heap[g]? = some (.cells Z tKv (0, 0))) (hz : Z.size = m * 2) (hm : acc.len + 1 ≤ m) (hmm : m ≤ 9223372036854775807) (ht : Z.toList.take (acc.len * 2) = ks) (hn : (∃ m0, v0 = .slice (some ⟨g, 0, none⟩) acc.len m0) ∨ W.heap.size ≤ g) : ObjK w0 A pb W0 vs0 W3 vs n b o acc g (acc.len * 2) := by
  obtain ⟨nd, t, c1, c0, g0, c, e0, hr, hl⟩ := h
  have nd2 := nd.below b1
  have nd3 : Nd w0 A pb W0 vs0 (W2.setCell ⟨b, o, none⟩ (.slice (some ⟨g, 0, none⟩) (acc.len + 1) m)) vs n b o := nd2.set 0 (by omega) _
  have hgb : g ≠ b := fun q => by
    obtain ⟨Zb, eb, _⟩ := nd2.ex
    rw [q] at e
    exact blk_ne e eb (by decide) rfl
  have e3 := blk_far e (p := ⟨b, o, none⟩) hgb (.slice (some ⟨g, 0, none⟩) (acc.len + 1) m)
  have hs3 : (W2.setCell ⟨b, o, none⟩ (.slice (some ⟨g, 0, none⟩) (acc.len + 1) m)).heap.size = W2.heap.size := by simp [World.setCell]
  rw [← hs3] at b2
  have hgW0 : W0.heap.size ≤ g := by
    rcases hn with ⟨m0, q⟩ | q
    · rcases Nat.eq_zero_or_pos acc.len with hz0 | hz0
      · rw [e0, hz0] at q
        cases q
      · obtain ⟨Z', f1, f2, f3, f4, f5⟩ := hr (by omega)
        rw [q] at e0
        unfold slc at e0
        rw [if_neg (by omega)] at e0
        injection e0 with e0 _ _
        injection e0 with e0
        injection e0 with e0 _ _
        rw [e0]; exact f5
    · exact Nat.le_trans nd.fr.size q
  have hrow : RowV W0 (W2.setCell ⟨b, o, none⟩ (.slice (some ⟨g, 0, none⟩) (acc.len + 1) m)) g (acc.len + 1) m tKv 2 := ⟨Z, e3, hz, hm, hmm, hgW0⟩
  have H : ObjK w0 A pb W0 vs0 (W2.setCell ⟨b, o, none⟩ (.slice (some ⟨g, 0, none⟩) (acc.len + 1) m)) vs n b o acc g (acc.len * 2) := by
    refine ⟨nd3, (Nd.other 4 0 (by omega) _).trans ((b1.cell (p := ⟨b, o + 4, none⟩) (nd.old 4 (by omega)).1).trans t), (Nd.other 1 0 (by omega) _).trans ((b1.cell (p := ⟨b, o + 1, none⟩) (nd.old 1 (by omega)).1).trans c1), rfl, m, nd2.same 0 (by omega) _, hrow, ?_⟩
    rcases Nat.eq_zero_or_pos acc.len with hz0 | hz0
    · cases acc with
      | nil => rw [repO]; trivial
      | cons _ _ _ => simp [OL.len] at hz0
    refine repO_move (W := W) (g := g0) ⟨_, e3⟩ acc 0 (fun i j => Old A W vs i j ∧ Pn A W0 vs0 b o g0 (2 * acc.len) i j) _ (fun i j hq => ?_) (fun i j hq hne => ?_) (fun j _ hj => ?_) hl
    · refine ⟨⟨(hq.1.below b1).set _ _, hq.2.1, fun eg => ?_, hq.2.2.2⟩, ?_, fun t' ht' => (ht'.below b1).set _ _ _⟩
      · rcases hn with ⟨m0, q⟩ | q
        · rw [q] at e0
          unfold slc at e0
          rw [if_neg (by omega)] at e0
          injection e0 with e0 _ _
          injection e0 with e0
          injection e0 with e0 _ _
          exact hq.2.2.1 (by rw [eg, e0])
        · have := hq.1.1; omega
      · rw [World.cell?_setCell_other _ _ _ _ (fun eq => by injection eq with e1 e2 _; exact hq.2.2.2 ⟨e1.symm, by omega, by omega⟩)]
        exact b1.cell (p := ⟨i, j, none⟩) hq.1.1
    · rcases hn with ⟨m0, q⟩ | q
      · rw [q] at e0
        unfold slc at e0
        rw [if_neg (by omega)] at e0
        injection e0 with e0 _ _
        injection e0 with e0
        injection e0 with e0 _ _
        rw [e0]; exact hne
      · have := hq.1.1; omega
    · refine ⟨?_, hrow.old nd3 (by decide), fun q => absurd q.1 (by omega), fun _ => by omega, fun q => hgb q.1⟩
      rw [blk_cell e3, ← Array.getElem?_toList, ← List.getElem?_take_of_lt (by omega : j < acc.len * 2), ht]
      exact hks (by omega) g0 c e0 j (by omega)
  exact H.below b2
/-- Cells of the open member's place. -/
theorem ObjK.cells (h : ObjK w0 A pb W0 vs0 W vs n b o acc g q) (j : Nat) (hj : j < 2) : (∃ u, W.cell? ⟨g, q + j, none⟩ = some u) ∧ W.frozen? ⟨g, q + j, none⟩ = false := by
  obtain ⟨nd, t, c1, hq, c, c0, ⟨Z, e, e2, e3, e4, e5⟩, hl⟩ := h
  exact ⟨⟨_, (blk_cell e (q + j)).trans (Array.getElem?_eq_getElem (by omega))⟩, blk_frozen e _⟩
/-- A cell of the open member's place is written. -/
theorem ObjK.set (h : ObjK w0 A pb W0 vs0 W vs n b o acc g q) (j : Nat) (hj : j < 2) (u : Value) : ObjK w0 A pb W0 vs0 (W.setCell ⟨g, q + j, none⟩ u) vs n b o acc g q := by
  obtain ⟨nd, t, c1, hq, c, c0, hr, hl⟩ := h
  obtain ⟨Z, e, e2, e3, e4, e5⟩ := hr
  have hr : RowV W0 W g (acc.len + 1) c tKv 2 := ⟨Z, e, e2, e3, e4, e5⟩
  have hgA : g ≠ A := by have := nd.A0; omega
  have hgb : g ≠ b := fun eb => by
    obtain ⟨Zb, eb2, _⟩ := nd.ex
    rw [eb] at e
    exact blk_ne e eb2 (by decide) rfl
  have hgS : w0.heap.size ≤ g := Nat.le_trans (Nat.le_trans nd.st.low (Nat.le_of_lt nd.A0)) e5
  have hgV : ∀ B k, vsOf vs = some (B, k) → g = B → q + j < 5 * k := fun B k hv eb => by
    obtain ⟨_, _, Y, ey⟩ := nd.st.len hv
    subst eb
    exact absurd rfl (blk_ne e ey (by decide))
  have hgO : ¬ Old A W0 vs0 g (q + j) := fun eo => absurd eo.1 (by omega)
  have nd2 : Nd w0 A pb W0 vs0 (W.setCell ⟨g, q + j, none⟩ u) vs n b o := by
    obtain ⟨Zb, eb, hzb⟩ := nd.ex
    exact ⟨nd.st.set hgA hgS hgV _, nd.fr.set hgA hgO _, ⟨nd.v.1.set _ _ _, nd.v.2⟩, fun i hi => (nd.old i hi).set _ _, nd.new, nd.low, nd.A0, Zb, blk_far eb (fun e => hgb e.symm) _, hzb⟩
  have hcell : ∀ i k, ¬ (i = g ∧ k = q + j) → (W.setCell ⟨g, q + j, none⟩ u).cell? ⟨i, k, none⟩ = W.cell? ⟨i, k, none⟩ := fun i k hne => World.cell?_setCell_other _ _ _ _ (fun eq => by injection eq with e1 e2 _; exact hne ⟨e1.symm, e2.symm⟩)
  refine ⟨nd2, (hcell _ _ (fun e => hgb e.1.symm)).trans t, (hcell _ _ (fun e => hgb e.1.symm)).trans c1, hq, c, (hcell _ _ (fun e => hgb e.1.symm)).trans c0, ⟨_, blk_set e _ _, by simpa using e2, e3, e4, e5⟩, ?_⟩
  refine repO_keep (fun i k hk => ⟨⟨hk.1.set _ _, hk.2⟩, hcell i k (fun eq => ?_), fun t' ht' => ht'.set _ _ _⟩) acc g 0 hl
  have := hk.2.2.1 eq.1
  omega
/-- The member is whole. -/
theorem ObjK.done {Wc : World} {nc tb tq : Nat} {vsc : Value} {k : L} {t : T} (hc : ObjK w0 A pb W0 vs0 Wc vsc nc b o acc g q) (f : Fr A Wc vsc W vs) (st : St w0 A W pb vs n) (hk : Wc.cell? ⟨g, q, none⟩ = some (.string (strOfNums k))) (hr : rep W (fun i j => Old A W vs i j ∧ ¬ Old A Wc vsc i j) t tb tq) :
    ∃ v1, ObjN w0 A pb W0 vs0 (W.setCell ⟨g, q + 1, none⟩ (.pointer (some ⟨tb, tq, none⟩))) vs n b o (acc.snoc k t) v1 := by
  have hN := hc.step f st
  have hS := hN.set 1 (by omega) (.pointer (some ⟨tb, tq, none⟩))
  obtain ⟨nd0, _, _, _, c00, _, hrow0, hl0⟩ := hc
  obtain ⟨nd1, _, _, _, _, _, hrow1, _⟩ := hN
  obtain ⟨nd, ht, h1, hq, c, h0, hrow, hl⟩ := hS
  have hgO : ∀ j, Old A Wc vsc g j := fun j => hrow0.old nd0 (by decide)
  have hSlot : ∀ i j, ¬ Old A Wc vsc i j → ¬ (i = b ∧ o ≤ j ∧ j < o + 5) := fun i j h1 e => h1 (by
    obtain ⟨rfl, e1, e2⟩ := e
    have := nd0.old (j - o) (by omega)
    rwa [show o + (j - o) = j by omega] at this)
  have hgb : ∀ j, ¬ (g = b ∧ o ≤ j ∧ j < o + 5) := fun j e => by
    obtain ⟨Z, e1, _⟩ := hrow1
    obtain ⟨Zb, e2, _⟩ := nd1.ex
    rw [e.1] at e1
    exact blk_ne e1 e2 (by decide) rfl
  have hgN : ∀ j, ¬ Old A W0 vs0 g j := fun j e => by
    obtain ⟨Z, _, _, _, _, e5⟩ := hrow1
    have := e.1
    omega
  refine ⟨.slice (some ⟨g, 0, none⟩) (acc.len + 1) c, nd, ht, h1, h0, g, c, ?_, fun _ => ?_, ?_⟩
  · rw [OL.len_snoc]; rfl
  · rw [OL.len_snoc]; exact hrow
  · have hold : ∀ j, Old A (W.setCell ⟨g, q + 1, none⟩ (.pointer (some ⟨tb, tq, none⟩))) vs g j := fun j => hrow.old nd (by decide)
    rw [OL.len_snoc]
    have hty : ty (W.setCell ⟨g, q + 1, none⟩ (.pointer (some ⟨tb, tq, none⟩))) g tKv := by obtain ⟨Z, e, _⟩ := hrow; exact ⟨Z, e⟩
    have hlc : repO (W.setCell ⟨g, q + 1, none⟩ (.pointer (some ⟨tb, tq, none⟩))) (fun i j => Old A (W.setCell ⟨g, q + 1, none⟩ (.pointer (some ⟨tb, tq, none⟩))) vs i j ∧ (Old A Wc vsc i j ∧ Pn A W0 vs0 b o g (2 * (acc.len + 1)) i j)) acc g 0 := by
      refine repO_keep (fun i j hk2 => ⟨⟨hk2.1.set _ _, hk2.2.1, hk2.2.2.1, fun e => by have := hk2.2.2.2.1 e; omega, hk2.2.2.2.2⟩, World.cell?_setCell_other _ _ _ _ (fun eq => by injection eq with e1 e2 _; have := hk2.2.2.2.1 e1.symm; omega), fun t' ht' => ht'.set _ _ _⟩) acc g 0 (repO_keep (f.keep (fun i j => Old A Wc vsc i j ∧ Pn A W0 vs0 b o g (2 * acc.len) i j)) acc g 0 (repO_keep (fun i j q => ⟨⟨q.1, q⟩, rfl, fun _ h => h⟩) acc g 0 hl0))
    refine repO_snoc hty acc 0 _ (fun i j => Old A (W.setCell ⟨g, q + 1, none⟩ (.pointer (some ⟨tb, tq, none⟩))) vs i j ∧ (¬ Old A Wc vsc i j ∧ i ≠ g ∧ Pn A W0 vs0 b o g (2 * (acc.len + 1)) i j)) _ (fun x y q => ⟨q.1, q.2.2⟩) (fun x y q => ⟨⟨q.1, q.2.2.2⟩, q.2.2.1, fun o1 => q.2.1 o1.2.1⟩) ⟨?_, hold _, hgN _, fun _ => by omega, hgb _⟩ ⟨?_, hold _, hgN _, fun _ => by omega, hgb _⟩ (rep_keep (fun i j hk2 => ⟨⟨hk2.1.set _ _, hk2.2, fun e => hk2.2 (by rw [e]; exact hgO j), fun e => hk2.2 (e.fr nd0.fr), fun e => absurd (by rw [e]; exact hgO j) hk2.2, hSlot i j hk2.2⟩, World.cell?_setCell_other _ _ _ _ (fun eq => by injection eq with e1 e2 _; exact hk2.2 (by rw [← e1]; exact hgO j)), fun t' ht' => ht'.set _ _ _⟩) t tb tq hr) hlc
    · rw [Nat.zero_add, show 2 * acc.len = q by omega, World.cell?_setCell_other _ _ _ _ (fun eq => by injection eq with e1 e2 _; omega), f.cell (hgO q)]
      exact hk
    · rw [Nat.zero_add, show 2 * acc.len + 1 = q + 1 by omega]
      obtain ⟨Z, e, e2, e3, _⟩ := hrow1
      exact World.cell?_setCell_same' _ _ _ (by rw [blk_cell e, Array.getElem?_eq_getElem (by omega)]; rfl)
end
end Go.Proofs.YtcaigeikdnoheaaGreatDoor.Fp

set_option linter.unusedVariables false
set_option linter.unusedSimpArgs false
namespace Go.Proofs.YtcaigeikdnoheaaGreatDoor.Fp
open Go.RowKit Go.Proofs.YtcaigeikdnoheaaGreatDoorW.PrintWords Go.Proofs.YtcaigeikdnoheaaGreatDoorW.PrintLast Go.Proofs.YtcaigeikdnoheaaGreatDoorW.PrintMore Go.Proofs.YtcaigeikdnoheaaGreatDoor.Aid Go.Proofs.YtcaigeikdnoheaaGreatDoor.J

theorem OL.app_nil : ∀ l : OL, l.app .nil = l
  | .nil => rfl
  | .cons k t l => by rw [OL.app, OL.app_nil l]
theorem OL.app_one (l : OL) (k : L) (t : T) : l.app (.cons k t .nil) = l.snoc k t := by rw [← OL.snoc_app, OL.app_nil]
structure ObjI (w0 : World) (A : Nat) (pb : Value) (W0 : World) (vs0 : Value) (n0 len0 : Nat) (goal : Option (OL × L)) (d b o : Nat) (sq : ByteArray) (k n : Nat) (vs v0 : Value) (acc : OL) (Wr : World) : Prop where
  fuel : 2 * sq.size + 3 ≤ k
  nd : ObjN w0 A pb W0 vs0 Wr vs n b o acc v0
  cnt : n + sq.size ≤ n0 + 1 + len0
  goal : goal = (po k d (bytesOf sq)).map fun x => (acc.app x.1, x.2)
  len : acc.len + sq.size ≤ len0
def ObjJ (w0 : World) (A : Nat) (pb : Value) (W0 : World) (vs0 : Value) (n0 len0 : Nat) (goal : Option (OL × L)) (d b o : Nat) (K : Nat) (v1 : Value) (Wr : World) : Prop :=
  ∃ sq k n vs v0 acc, v1 = .string sq ∧ sq.size = K ∧ ObjI w0 A pb W0 vs0 n0 len0 goal d b o sq k n vs v0 acc Wr
set_option maxHeartbeats 16000000 in
set_option maxRecDepth 100000 in
theorem poFull_any (w0 W : World) (A n k d m : Nat) (pb vs : Value) (s : ByteArray) (c : Int) (q : L) (hv : PVc w0 A pb m) (hs : ws (bytesOf s) = c :: q) (hc : c ≠ 125) (hm : s.size ≤ m) (h1 : s.size ≤ 100000) (hk : 2 * s.size + 3 ≤ k) (hd : d ≤ 300) (h : St w0 A W pb vs n) (hn : n + s.size + 1 ≤ 100000) :
    Calls Tryz.prog 93 #[.pointer (some ⟨A, 1, none⟩), .string s, .int .i64 (d : Int)] W (PvPost w0 A pb W vs n s.size ((po k d (c :: q)).map fun x => (.obj x.1, x.2))) := by
  have hwl : (c :: q).length ≤ s.size := by rw [← hs, ← bytesOf_length]; exact ws_le _
  have hbs : bytesOf (strOfNums (c :: q)) = c :: q := bs_of (s := s) (by rw [← hs]; exact ws_sb _)
  obtain ⟨s1, hs1⟩ : ∃ s1, s1 = strOfNums (c :: q) := ⟨_, rfl⟩
  rw [← hs1] at hbs
  obtain ⟨hz, k0, k1⟩ := head_facts hbs
  have hzl : s1.size ≤ s.size := by rw [hz]; exact hwl
  have hz0 : ((s1.size : Int) == 0) = false := beq_eq_false_iff_ne.mpr (by omega)
  have e125 : (c == 125) = false := beq_eq_false_iff_ne.mpr hc
  have HW := Lib.hid (fun W => ws_any s W h1)
  rw [hs, ← hs1] at HW
  have HT := Lib.hid h
  have HN2 := Lib.hid (show n ≤ 100000 by omega)
  obtain ⟨goal, hgoal⟩ : ∃ g, g = po k d (bytesOf s1) := ⟨_, rfl⟩
  rw [← hbs, ← hgoal]
  have HG := Lib.hid hgoal
  have HV := Lib.hid hv
  have HC := Lib.hid (And.intro hk (And.intro hzl (And.intro hm hn)))
  clear hs h hwl hs1 hz hc hgoal hbs hv hk hm hn
  go_enter Tryz.func93, Tryz.ntmps93
  go_upto_region 11 with (first
    | (go_at_call 77; refine (HW.out _).mono ?_; rintro e w1 ⟨rfl, nq, rfl⟩)
    | (go_at_call 81; refine (gv_any (HT.out.below (pw_below_drewN (Below.refl W.heap.size W) nq)) HN2.out).mono ?_; rintro e w2 ⟨b, vs', o, rfl, ho, hg⟩; have HD := Lib.hid (Nd.of_gv (HT.out.below (pw_below_drewN (Below.refl W.heap.size W) nq)) hg ho); have F1 := Lib.hid (HT.out.frb (pw_below_drewN (Below.refl W.heap.size W) nq)); have hf4 := HD.out.frozen 4; obtain ⟨u4, hu4⟩ := HD.out.some_cell 4 (by omega); have G0 := Lib.hid hg.c0; have G1 := Lib.hid hg.c1; clear ho hg))
  clear hu4 hf4
  have HN3 := Lib.hid (HD.out.set 4 (by omega) (.int .i64 1))
  have HRS := Lib.hid (reset_any (w2.setCell ⟨b, o + 4, none⟩ (.int .i64 1)) b o (.bool false) ((Nd.other 0 4 (by omega) _).trans G0.out) ((Nd.other 1 4 (by omega) _).trans G1.out) (HN3.out.frozen 0) (HN3.out.frozen 1))
  have HA0 := Lib.hid (ObjN.start HD.out)
  go_wp2_with (go_at_call 82; refine HRS.out.mono ?_; rintro e w5 ⟨rfl, hw5⟩; have HA := Lib.hid (show ObjN w0 A pb _ vs w5 vs' (n + 1) b o .nil (.slice none 0 0) by rw [hw5]; exact HA0.out); clear hw5)
  have HW0 := Lib.hid (HT.out.below (pw_below_drewN (Below.refl W.heap.size W) nq))
  obtain ⟨W0, hW0⟩ : ∃ z, z = W.drewN nq := ⟨_, rfl⟩
  have HT0 := Lib.hid (show Tk W W0 by rw [hW0]; exact Tk.below (pw_below_drewN (Below.refl _ _) _))
  rw [← hW0] at F1 HA HW0
  have HS : Hid (ObjJ w0 A pb W0 vs n s.size goal d b o s1.size (.string s1) w5) := Lib.hid ⟨s1, k, n + 1, vs', _, .nil, rfl, rfl, by have := HC.out.1; have := HC.out.2.1; omega, HA.out, by have := HC.out.2.1; omega, by rw [HG.out]; cases po k d (bytesOf s1) <;> rfl, by have := HC.out.2.1; show 0 + _ ≤ _; omega⟩
  clear HD HN3 G0 G1 HA0 HA HG hW0 k0 k1 hz0 e125 HW HT HN2 HRS
  go_loopg [1] s1.size (fun kq v1 w' => Hid (ObjJ w0 A pb W0 vs n s.size goal d b o kq v1 w'))
  case atStart => exact HS
  case round =>
    obtain ⟨sq, k, nq, vs1, v0, acc, rfl, rfl, hI⟩ := hrel.out
    have HI := Lib.hid hI
    clear hrel HS
    have hsz : sq.size ≤ 100000 := by have := HI.out.len; omega
    obtain ⟨k', rfl⟩ : ∃ k', k = k' + 1 := ⟨k - 1, by have := hI.fuel; omega⟩
    have hwl := ws_le (bytesOf sq)
    rw [bytesOf_length] at hwl
    have HW := Lib.hid (fun W => ws_any sq W hsz)
    have hg := hI.goal
    rw [po] at hg
    obtain ⟨ks, hkv, hks⟩ := hI.nd.kv
    have HKV := Lib.hid (fun (hn : acc.len ≤ 100000) => kv_any wr b o acc.len v0 ks hkv hI.nd.c0 (hI.nd.nd.frozen 0) (hI.nd.nd.old 0 (by omega)).1 hn)
    have HLn := Lib.hid (show acc.len ≤ 100000 by have := hI.len; omega)
    have HKS := Lib.hid hks
    clear hI hkv hks
    go_upto_region 15 with (first
      | (go_at_call 111; refine (HKV.out HLn.out).mono ?_; rintro e w6 ⟨g, q', mm, v', Z, W1, rfl, rfl, rfl, hb1, hb2, he, hz, hm1, hm2, ht, hkl, hor⟩; have HK := Lib.hid (HI.out.nd.more HKS.out hb1 hb2 he hz hm1 hm2 ht hor); clear hb1 hb2 he hz hm1 hm2 ht hkl hor)
      | (go_at_call 77; refine (HW.out _).mono ?_; rintro e w7 ⟨rfl, hd1⟩; have HK7 := Lib.hid (HK.out.below hd1.below); have F7 := Lib.hid hd1; clear hd1))
    obtain ⟨qo, hqo⟩ : ∃ x, x = acc.len * 2 := ⟨_, rfl⟩
    rw [← hqo] at HK7 ⊢
    clear HKV HLn HKS HW HK F7 hqo
    have HE1 : Hid (∀ W8 e, goal = none → Below w0.heap.size w0 W8 → Tk W0 W8 → (∃ a N, e = .returned (.tuple #[.pointer none, .string a, eI N])) → PvPost w0 A pb W vs n s.size (goal.map fun x => (T.obj x.1, x.2)) e W8) := Lib.hid fun W8 e hg hb htk he => by
      obtain ⟨a, N, rfl⟩ := he
      exact pv_none (by rw [hg]; rfl) hb (HT0.out.trans htk) rfl
    have HTF : Hid (∀ {W8 vs8 n8 acc8 g8 q8}, ObjK w0 A pb W0 vs W8 vs8 n8 b o acc8 g8 q8 → Tk W0 W8) := Lib.hid fun h => Tk.of_fr HW0.out h.nd.fr h.nd.st
    cases hw : ws (bytesOf sq) with
    | nil =>
      have Hg : Hid (goal = none) := Lib.hid (by rw [hw] at hg; exact hg)
      obtain ⟨s3, hs3⟩ : ∃ s3, s3 = strOfNums [] := ⟨_, rfl⟩
      have e0 : ((s3.size : Int) == 0) = true := by rw [hs3]; rfl
      rw [← hs3]
      clear hs3 hw hwl hg
      go_wp2_with (go_at_call 54; refine (new_any _ _).mono ?_; rintro e w8 ⟨⟨N2, rfl⟩, hb⟩; have HB2 := Lib.hid (below_step HK7.out.nd.st.bel hb); have HTc := Lib.hid ((HTF.out HK7.out).trans (Tk.below hb)); clear hb)
      go_ret3
      exact HE1.out _ _ Hg.out HB2.out HTc.out ⟨_, _, rfl⟩
    | cons c1 q1 =>
      have hsb1 : Sb (c1 :: q1) (bytesOf sq) := by rw [← hw]; exact ws_sb _
      have hb3 : bytesOf (strOfNums (c1 :: q1)) = c1 :: q1 := bs_of hsb1
      have hbq : bytesOf (strOfNums q1) = q1 := bs_of ((Sb.cons c1 q1).trans hsb1)
      obtain ⟨s3, hs3⟩ : ∃ s3, s3 = strOfNums (c1 :: q1) := ⟨_, rfl⟩
      rw [← hs3] at hb3 ⊢
      obtain ⟨hz3, m0, m1⟩ := head_facts hb3
      have e0 : ((s3.size : Int) == 0) = false := beq_eq_false_iff_ne.mpr (by omega)
      rw [hw] at hwl hg
      simp only [List.length_cons] at hwl
      by_cases h34 : c1 = 34
      case neg =>
        have e34 : (c1 != 34) = true := bne_iff_ne.mpr h34
        have Hg : Hid (goal = none) := Lib.hid (by simp only [if_neg h34] at hg; exact hg)
        clear hs3 hw hwl hg hsb1 hb3 hbq hz3 h34
        go_wp2_with (go_at_call 54; refine (new_any _ _).mono ?_; rintro e w8 ⟨⟨N2, rfl⟩, hb⟩; have HB2 := Lib.hid (below_step HK7.out.nd.st.bel hb); have HTc := Lib.hid ((HTF.out HK7.out).trans (Tk.below hb)); clear hb)
        go_ret3
        exact HE1.out _ _ Hg.out HB2.out HTc.out ⟨_, _, rfl⟩
      subst h34
      simp only [if_pos] at hg
      have HS := Lib.hid (fun W => rawKey_any (strOfNums q1) (by rw [sz_of]; omega) W)
      rw [hbq] at HS
      obtain ⟨⟨u0, hu0⟩, hf0⟩ := HK7.out.cells 0 (by omega)
      rw [Nat.add_zero] at hu0 hf0
      have FIN1 : Hid (∀ W8, Below w7.heap.size w7 W8 → W8.cell? ⟨g, qo, none⟩ = some u0 ∧ W8.frozen? ⟨g, qo, none⟩ = false) := Lib.hid fun W8 hb => by
        have hl := World.block_lt_of_cell? w7 _ hu0
        exact ⟨(hb.cell (p := ⟨g, qo, none⟩) hl).trans hu0, (hb.frozen (p := ⟨g, qo, none⟩) hl).trans hf0⟩
      cases hr1 : rs false q1 with
      | none =>
        rw [hr1] at HS hg
        have Hg : Hid (goal = none) := Lib.hid hg
        have HE : Hid (∀ W, Calls Tryz.prog 119 #[.string (strOfNums q1)] W fun e w' => (∃ a b N, e = .returned (.tuple #[.string a, .string b, eI N])) ∧ Below W.heap.size W w') := Lib.hid fun W => (HS.out W).mono fun e w' h => ⟨h.2, h.1⟩
        clear hs3 hw hwl hg hsb1 hb3 hbq hz3 hu0 hf0 hr1 HS
        go_wp2_with (first
          | (go_at_call 119; refine (HE.out _).mono ?_; rintro e w8 ⟨⟨a, b2, N, rfl⟩, hb⟩; obtain ⟨hu0, hf0⟩ := FIN1.out _ hb; have HK8 := Lib.hid (HK7.out.below hb); clear hb)
          | (go_at_call 54; refine (new_any _ _).mono ?_; rintro e w9 ⟨⟨N2, rfl⟩, hb⟩; have HB2 := Lib.hid (below_step (show Below w0.heap.size w0 _ from (HK8.out.set 0 (by omega) (.string a)).nd.st.bel) hb); have HTc := Lib.hid ((HTF.out (HK8.out.set 0 (by omega) (.string a))).trans (Tk.below hb)); clear hb))
        go_ret3
        exact HE1.out _ _ Hg.out HB2.out HTc.out ⟨_, _, rfl⟩
      | some x1 =>
        obtain ⟨kk, r1⟩ := x1
        rw [hr1] at HS hg
        have hrl1 := rs_len q1 false kk r1 hr1
        have hsb2 : Sb r1 (bytesOf sq) := (rs_sb q1 false kk r1 hr1).trans ((Sb.cons 34 q1).trans hsb1)
        have HE : Hid (∀ W, Calls Tryz.prog 119 #[.string (strOfNums q1)] W fun e w' => e = .returned (.tuple #[.string (strOfNums kk), .string (strOfNums r1), .nilIface]) ∧ Below W.heap.size W w') := Lib.hid fun W => (HS.out W).mono fun e w' h => ⟨h.2, h.1⟩
        have hbr : bytesOf (strOfNums r1) = r1 := bs_of hsb2
        have HR := Lib.hid (fun W => ws_any (strOfNums r1) W (by rw [sz_of]; omega))
        rw [hbr] at HR
        have hrw := ws_le r1
        have hws : Sb (ws r1) (bytesOf sq) := (ws_sb r1).trans hsb2
        replace hg : goal = ((match ws r1 with | [] => none | c2 :: q2 => if c2 = 58 then (match pv k' d (ws q2) with | none => none | some (t, r2) => match ws r2 with | [] => none | c3 :: q3 => if c3 = 44 then (po k' d q3).map fun x => (OL.cons kk t x.1, x.2) else if c3 = 125 then some (OL.cons kk t .nil, q3) else none) else none) : Option (OL × L)).map fun x => (acc.app x.1, x.2) := hg
        have HLEN := Lib.hid (show r1.length + 2 ≤ sq.size by omega)
        clear hs3 hw hwl hsb1 hb3 hbq hz3 hu0 hf0 hr1 HS hbr hsb2 hrl1
        go_upto_region 21 with (first
          | (go_at_call 119; refine (HE.out _).mono ?_; rintro e w8 ⟨rfl, hb⟩; obtain ⟨hu0, hf0⟩ := FIN1.out _ hb; have HK8 := Lib.hid (HK7.out.below hb); clear hb)
          | (go_at_call 77; refine (HR.out _).mono ?_; rintro e w9 ⟨rfl, hd1⟩; have HK9 := Lib.hid ((HK8.out.set 0 (by omega) (.string (strOfNums kk))).below hd1.below); have HC9 := Lib.hid (show w9.cell? ⟨g, qo, none⟩ = some (.string (strOfNums kk)) from (hd1.below.cell (p := ⟨g, qo, none⟩) (World.block_lt_of_cell? _ _ (World.cell?_setCell_same _ _ _ hu0))).trans (World.cell?_setCell_same _ _ _ hu0)); clear hd1))
        clear HE HK7 FIN1 HR HK8 hu0 hf0
        cases hw : ws r1 with
        | nil =>
          have Hg : Hid (goal = none) := Lib.hid (by rw [hw] at hg; exact hg)
          obtain ⟨s4, hs4⟩ : ∃ s4, s4 = strOfNums [] := ⟨_, rfl⟩
          have e0 : ((s4.size : Int) == 0) = true := by rw [hs4]; rfl
          rw [← hs4]
          clear hs4 hw hg hrw hws
          go_wp2_with (go_at_call 54; refine (new_any _ _).mono ?_; rintro e w8 ⟨⟨N2, rfl⟩, hb⟩; have HB2 := Lib.hid (below_step HK9.out.nd.st.bel hb); have HTc := Lib.hid ((HTF.out HK9.out).trans (Tk.below hb)); clear hb)
          go_ret3
          exact HE1.out _ _ Hg.out HB2.out HTc.out ⟨_, _, rfl⟩
        | cons c2 q2 =>
          rw [hw] at hg hrw hws
          have hb4 : bytesOf (strOfNums (c2 :: q2)) = c2 :: q2 := bs_of hws
          have hbq2 : bytesOf (strOfNums q2) = q2 := bs_of ((Sb.cons c2 q2).trans hws)
          obtain ⟨s4, hs4⟩ : ∃ s4, s4 = strOfNums (c2 :: q2) := ⟨_, rfl⟩
          rw [← hs4] at hb4 ⊢
          obtain ⟨hz4, j0, j1⟩ := head_facts hb4
          have e0 : ((s4.size : Int) == 0) = false := beq_eq_false_iff_ne.mpr (by omega)
          simp only [List.length_cons] at hrw
          by_cases h58 : c2 = 58
          case neg =>
            have e58 : (c2 != 58) = true := bne_iff_ne.mpr h58
            have Hg : Hid (goal = none) := Lib.hid (by simp only [if_neg h58] at hg; exact hg)
            clear hs4 hw hg hrw hws hb4 hbq2 hz4 h58
            go_wp2_with (go_at_call 54; refine (new_any _ _).mono ?_; rintro e w8 ⟨⟨N2, rfl⟩, hb⟩; have HB2 := Lib.hid (below_step HK9.out.nd.st.bel hb); have HTc := Lib.hid ((HTF.out HK9.out).trans (Tk.below hb)); clear hb)
            go_ret3
            exact HE1.out _ _ Hg.out HB2.out HTc.out ⟨_, _, rfl⟩
          subst h58
          replace hg : goal = ((match pv k' d (ws q2) with | none => none | some (t, r2) => match ws r2 with | [] => none | c3 :: q3 => if c3 = 44 then (po k' d q3).map fun x => (OL.cons kk t x.1, x.2) else if c3 = 125 then some (OL.cons kk t .nil, q3) else none) : Option (OL × L)).map fun x => (acc.app x.1, x.2) := by simp only [if_pos] at hg; exact hg
          have hw2 := ws_le q2
          have hws2 : Sb (ws q2) (bytesOf sq) := (ws_sb q2).trans ((Sb.cons 58 q2).trans hws)
          have HW2 := Lib.hid (fun W => ws_any (strOfNums q2) W (by rw [sz_of]; have := HLEN.out; omega))
          rw [hbq2] at HW2
          have hb5 : bytesOf (strOfNums (ws q2)) = ws q2 := bs_of hws2
          obtain ⟨s5, hs5⟩ : ∃ s5, s5 = strOfNums (ws q2) := ⟨_, rfl⟩
          rw [← hs5] at HW2 hb5
          have hz5 : s5.size = (ws q2).length := by rw [← hb5, bytesOf_length]
          have HL5 := Lib.hid (show s5.size + 3 ≤ sq.size by have := HLEN.out; omega)
          have HP : Hid (∀ W1, Drawn0 w9 W1 → Calls Tryz.prog 69 #[.pointer (some ⟨A, 1, none⟩), .string s5, .int .i64 (d : Int)] W1 (PvPost w0 A pb W1 vs1 nq s5.size (pv k' d (ws q2)))) := Lib.hid fun W1 hd1 => by
            have := HV.out s5 k' d nq W1 vs1 (by have := HI.out.len; have := HC.out.2.2.1; have := HL5.out; omega) (by have := HL5.out; omega) (by have := HI.out.fuel; have := HL5.out; omega) hd (HK9.out.nd.st.below hd1.below) (by have := HI.out.cnt; have := HC.out.2.2.2; have := HL5.out; omega)
            rwa [hb5] at this
          have FIN2 : Hid (∀ W8, Tk w9 W8 → (∃ u, W8.cell? ⟨g, qo + 1, none⟩ = some u) ∧ W8.frozen? ⟨g, qo + 1, none⟩ = false) := Lib.hid fun W8 htk => by
            obtain ⟨_, _, _, hq9, c9, _, ⟨Z, eZ, z2, z3, _⟩, _⟩ := HK9.out
            obtain ⟨Z', e', zz⟩ := htk _ _ _ eZ
            exact ⟨⟨_, (blk_cell e' (qo + 1)).trans (Array.getElem?_eq_getElem (by omega))⟩, blk_frozen e' _⟩
          cases hr : pv k' d (ws q2) with
          | none =>
            rw [hr] at HP hg
            have Hg : Hid (goal = none) := Lib.hid hg
            clear hs4 hs5 hw hg hrw hws hb4 hbq2 hz4 hb5 hz5 hws2 hw2 hr
            go_wp2_with (first
              | (go_at_call 77; refine (HW2.out _).mono ?_; rintro e w10 ⟨rfl, hd1⟩; have HD10 := Lib.hid hd1; clear hd1)
              | (go_at_call 69; refine (HP.out _ HD10.out).mono ?_; rintro e w11 ⟨hb, htk, a, N, rfl⟩; have HB := Lib.hid hb; have HTb := Lib.hid ((Tk.below HD10.out.below).trans htk); obtain ⟨⟨u1, hu1⟩, hf1⟩ := FIN2.out _ HTb.out; clear hb htk)
              | (go_at_call 54; refine (new_any _ _).mono ?_; rintro e w8 ⟨⟨N2, rfl⟩, hb⟩; have HB2 := Lib.hid (below_step (below_set HB.out (show w0.heap.size ≤ g by obtain ⟨_, _, _, _, _, _, ⟨_, _, _, _, _, z5⟩, _⟩ := HK9.out; exact Nat.le_trans (Nat.le_trans HK9.out.nd.st.low (Nat.le_of_lt HK9.out.nd.A0)) z5)) hb); have HTc := Lib.hid ((((HTF.out HK9.out).trans HTb.out).trans (Tk.set _ g (qo + 1) (.pointer none))).trans (Tk.below hb)); clear hb))
            go_ret3
            exact HE1.out _ _ Hg.out HB2.out HTc.out ⟨_, _, rfl⟩
          | some x2 =>
            obtain ⟨t, r2⟩ := x2
            rw [hr] at HP hg
            replace hg : goal = ((match ws r2 with | [] => none | c3 :: q3 => if c3 = 44 then (po k' d q3).map fun x => (OL.cons kk t x.1, x.2) else if c3 = 125 then some (OL.cons kk t .nil, q3) else none) : Option (OL × L)).map fun x => (acc.app x.1, x.2) := hg
            have hrs : Sb r2 (bytesOf sq) := ((sbs k').1 _ _ _ _ hr).trans hws2
            have hrl := ((sizes k').1 _ _ _ _ hr).2
            have hbr : bytesOf (strOfNums r2) = r2 := bs_of hrs
            have HR2 := Lib.hid (fun W => ws_any (strOfNums r2) W (by rw [sz_of]; have := HL5.out; omega))
            rw [hbr] at HR2
            have hrw2 := ws_le r2
            have hwsr : Sb (ws r2) (bytesOf sq) := (ws_sb r2).trans hrs
            have HX := Lib.hid (And.intro hrl (And.intro hz5 HL5.out))
            clear hs4 hs5 hw hrw hws hb4 hbq2 hz4 hb5 hz5 hws2 hw2 hr hbr hrs hrl
            go_upto_region 28 with (first
              | (go_at_call 77; refine (HW2.out _).mono ?_; rintro e w10 ⟨rfl, hd1⟩; have HD10 := Lib.hid hd1; have HK10 := Lib.hid (HK9.out.below hd1.below); have HC10 := Lib.hid ((hd1.below.cell (p := ⟨g, qo, none⟩) (World.block_lt_of_cell? _ _ HC9.out)).trans HC9.out); clear hd1)
              | (go_at_call 69; refine (HP.out _ HD10.out).mono ?_; rintro e w11 ⟨hb, tb, tq, vs2, n2, rfl, hst, hcnt, hfr, hrep⟩; have HCN := Lib.hid hcnt; obtain ⟨v1, hn1⟩ := HK10.out.done hfr hst HC10.out hrep; have HN := Lib.hid hn1; obtain ⟨⟨u1, hu1⟩, hf1⟩ := (HK10.out.step hfr hst).cells 1 (by omega); clear hb hst hcnt hfr hrep hn1))
            clear hu1 hf1
            generalize World.setCell w11 _ _ = W12 at HN ⊢
            clear HK10 HD10 HC10 HC9 HK9 HP HW2 FIN2 HL5
            have HTG : Hid (∀ W8, Below W12.heap.size W12 W8 → Tk W0 W8 ∧ Below w0.heap.size w0 W8) := Lib.hid fun W8 hb => ⟨(Tk.of_fr HW0.out HN.out.nd.fr HN.out.nd.st).trans (Tk.below hb), below_step HN.out.nd.st.bel hb⟩
            cases hw : ws r2 with
            | nil =>
              have Hg : Hid (goal = none) := Lib.hid (by rw [hw] at hg; exact hg)
              rw [hw] at HR2
              obtain ⟨s6, hs6⟩ : ∃ s6, s6 = strOfNums [] := ⟨_, rfl⟩
              have e0 : ((s6.size : Int) == 0) = true := by rw [hs6]; rfl
              rw [← hs6] at HR2
              clear hs6 hw hg hrw2 hwsr
              go_wp2_with (first
                | (go_at_call 77; refine (HR2.out _).mono ?_; rintro e w13 ⟨rfl, hd1⟩; have HB := Lib.hid hd1.below; clear hd1)
                | (go_at_call 54; refine (new_any _ _).mono ?_; rintro e w8 ⟨⟨N2, rfl⟩, hb⟩; have HB2 := Lib.hid (HTG.out _ (below_step HB.out hb)); clear hb))
              go_ret3
              exact HE1.out _ _ Hg.out HB2.out.2 HB2.out.1 ⟨_, _, rfl⟩
            | cons c3 q3 =>
              rw [hw] at HR2 hrw2 hwsr hg
              have hb6 : bytesOf (strOfNums (c3 :: q3)) = c3 :: q3 := bs_of hwsr
              have hbq3 : bytesOf (strOfNums q3) = q3 := bs_of ((Sb.cons c3 q3).trans hwsr)
              obtain ⟨s6, hs6⟩ : ∃ s6, s6 = strOfNums (c3 :: q3) := ⟨_, rfl⟩
              rw [← hs6] at HR2 hb6
              obtain ⟨hz6, l0, l1⟩ := head_facts hb6
              have e0 : ((s6.size : Int) == 0) = false := beq_eq_false_iff_ne.mpr (by omega)
              simp only [List.length_cons] at hrw2
              by_cases h44 : c3 = 44
              · subst h44
                simp only [if_pos] at hg
                have FIN : Hid (∀ W7, Drawn0 W12 W7 → ObjJ w0 A pb W0 vs n s.size goal d b o (strOfNums q3).size (.string (strOfNums q3)) W7) := Lib.hid fun W7 hd7 => by
                  have hx2 := HX.out
                  have hlen := HI.out.len
                  have hcnt := HI.out.cnt
                  have hfu := HI.out.fuel
                  have hcn := HCN.out
                  have hll := HLEN.out
                  refine ⟨_, k', n2, vs2, _, acc.snoc kk t, rfl, rfl, ?_, HN.out.below hd7.below, ?_, ?_, ?_⟩
                  · rw [sz_of]; omega
                  · rw [sz_of]; omega
                  · rw [hg, hbq3]
                    cases po k' d q3 with
                    | none => rfl
                    | some y => exact congrArg some (congrArg (fun z => (z, y.2)) (OL.snoc_app acc kk t y.1).symm)
                  · rw [sz_of, OL.len_snoc]; omega
                have HLT := Lib.hid (show (strOfNums q3).size < sq.size by rw [sz_of]; have := HX.out; have := HLEN.out; omega)
                clear hg hb6 hbq3 hs6 hz6 hrw2 hwsr hw
                go_wp2_with (go_at_call 77; refine (HR2.out _).mono ?_; rintro e w13 ⟨rfl, hd1⟩; have HD7 := Lib.hid hd1; clear hd1)
                go_roundg (strOfNums q3).size
                case rel => exact Lib.hid (FIN.out _ HD7.out)
                case measure => exact HLT.out
              have e44 : (c3 == 44) = false := beq_eq_false_iff_ne.mpr h44
              simp only [if_neg h44] at hg
              by_cases h125 : c3 = 125
              · subst h125
                simp only [if_pos] at hg
                have Hg : Hid ((goal.map fun x => (T.obj x.1, x.2)) = some (T.obj (acc.snoc kk t), q3)) := Lib.hid (by rw [hg]; exact congrArg some (congrArg (fun z => (T.obj z, q3)) (OL.app_one acc kk t)))
                have HL : Hid (n2 + q3.length ≤ n + s.size) := Lib.hid (by
                  have hx2 := HX.out
                  have hcnt := HI.out.cnt
                  have hcn := HCN.out
                  have hll := HLEN.out
                  omega)
                clear hg hb6 hbq3 hs6 hz6 hrw2 hwsr hw
                go_upto_region 34 with (go_at_call 77; refine (HR2.out _).mono ?_; rintro e w13 ⟨rfl, hd1⟩; have HN7 := Lib.hid (HN.out.below hd1.below); clear hd1)
                go_quiet (fail)
                go_wp2
                go_ret3
                have HN8 := HN7.out.below (pw_below_drewN (Below.refl w13.heap.size w13) nq)
                exact pv_some Hg.out rfl HN8.nd.st HL.out (F1.out.trans HN8.nd.fr) (rep_new F1.out HN8.rep)
              · have e125 : (c3 == 125) = false := beq_eq_false_iff_ne.mpr h125
                simp only [if_neg h125] at hg
                have Hg : Hid (goal = none) := Lib.hid hg
                clear hg hb6 hbq3 hs6 hz6 hrw2 hwsr hw h44 h125
                go_wp2_with (first
                  | (go_at_call 77; refine (HR2.out _).mono ?_; rintro e w13 ⟨rfl, hd1⟩; have HB := Lib.hid hd1.below; clear hd1)
                  | (go_at_call 54; refine (new_any _ _).mono ?_; rintro e w8 ⟨⟨N2, rfl⟩, hb⟩; have HB2 := Lib.hid (HTG.out _ (below_step HB.out hb)); clear hb))
                go_ret3
                exact HE1.out _ _ Hg.out HB2.out.2 HB2.out.1 ⟨_, _, rfl⟩
end Go.Proofs.YtcaigeikdnoheaaGreatDoor.Fp

set_option linter.unusedVariables false
set_option linter.unusedSimpArgs false
namespace Go.Proofs.YtcaigeikdnoheaaGreatDoor.Fp
open Go.RowKit Go.Proofs.YtcaigeikdnoheaaGreatDoorW.PrintWords Go.Proofs.YtcaigeikdnoheaaGreatDoorW.PrintLast Go.Proofs.YtcaigeikdnoheaaGreatDoorW.PrintMore Go.Proofs.YtcaigeikdnoheaaGreatDoor.Aid Go.Proofs.YtcaigeikdnoheaaGreatDoor.J

set_option maxHeartbeats 16000000 in
set_option maxRecDepth 100000 in
theorem po_any (w0 W : World) (A n k d m : Nat) (pb vs : Value) (s : ByteArray) (hv : PVc w0 A pb m) (hm : s.size ≤ m) (h1 : s.size ≤ 100000) (hk : 2 * s.size + 3 ≤ k) (hd : d ≤ 300) (h : St w0 A W pb vs n) (hn : n + s.size + 1 ≤ 100000) :
    Calls Tryz.prog 93 #[.pointer (some ⟨A, 1, none⟩), .string s, .int .i64 (d : Int)] W (PvPost w0 A pb W vs n s.size (obj0 (po k d) (bytesOf s))) := by
  unfold obj0
  have HW := Lib.hid (fun W => ws_any s W h1)
  have HT := Lib.hid h
  cases hs : ws (bytesOf s) with
  | nil =>
    rw [hs] at HW
    obtain ⟨s1, hs1⟩ : ∃ s1, s1 = strOfNums [] := ⟨_, rfl⟩
    have e0 : ((s1.size : Int) == 0) = true := by rw [hs1]; rfl
    rw [← hs1] at HW
    clear hs hs1 hv hk hn h
    go_enter Tryz.func93, Tryz.ntmps93
    go_wp2_with (first
      | (go_at_call 77; refine (HW.out _).mono ?_; rintro e w1 ⟨rfl, hd1⟩; have HB := Lib.hid hd1.below; clear hd1)
      | (go_at_call 54; refine (new_any _ _).mono ?_; rintro e w2 ⟨⟨N2, rfl⟩, hb⟩; have HB2 := Lib.hid (below_step HB.out hb); clear hb))
    go_ret3
    exact pv_noneB rfl HT.out HB2.out rfl
  | cons c q =>
    by_cases hc : c = 125
    · subst hc
      simp only [if_pos]
      have hwl : ((125 : Int) :: q).length ≤ s.size := by rw [← hs, ← bytesOf_length]; exact ws_le _
      have hbs : bytesOf (strOfNums (125 :: q)) = 125 :: q := bs_of (s := s) (by rw [← hs]; exact ws_sb _)
      rw [hs] at HW
      obtain ⟨s1, hs1⟩ : ∃ s1, s1 = strOfNums (125 :: q) := ⟨_, rfl⟩
      rw [← hs1] at hbs HW
      obtain ⟨hz, k0, k1⟩ := head_facts hbs
      have hz0 : ((s1.size : Int) == 0) = false := beq_eq_false_iff_ne.mpr (by omega)
      have HN2 := Lib.hid (show n ≤ 100000 by omega)
      simp only [List.length_cons] at hwl
      have HL := Lib.hid (show n + 1 + q.length ≤ n + s.size by omega)
      obtain ⟨res, hres⟩ : ∃ r, r = some (T.obj .nil, q) := ⟨_, rfl⟩
      rw [← hres]
      have HR := Lib.hid hres
      clear hs hs1 hv hk hn h hwl hbs hz hres
      go_enter Tryz.func93, Tryz.ntmps93
      go_upto_region 7 with (first
        | (go_at_call 77; refine (HW.out _).mono ?_; rintro e w1 ⟨rfl, nq, rfl⟩)
        | (go_at_call 81; refine (gv_any (HT.out.below (pw_below_drewN (Below.refl W.heap.size W) nq)) HN2.out).mono ?_; rintro e w2 ⟨b, vs', o, rfl, ho, hg⟩; have HD := Lib.hid (Nd.of_gv (HT.out.below (pw_below_drewN (Below.refl W.heap.size W) nq)) hg ho); have F1 := Lib.hid (HT.out.frb (pw_below_drewN (Below.refl W.heap.size W) nq)); have hf4 := HD.out.frozen 4; obtain ⟨u4, hu4⟩ := HD.out.some_cell 4 (by omega); have G0 := Lib.hid hg.c0; have G1 := Lib.hid hg.c1; clear ho hg))
      clear hu4 hf4
      have HN3 := Lib.hid (HD.out.set 4 (by omega) (.int .i64 1))
      have HRS := Lib.hid (reset_any (w2.setCell ⟨b, o + 4, none⟩ (.int .i64 1)) b o (.bool false) ((Nd.other 0 4 (by omega) _).trans G0.out) ((Nd.other 1 4 (by omega) _).trans G1.out) (HN3.out.frozen 0) (HN3.out.frozen 1))
      have HA0 := Lib.hid (ObjN.start HD.out)
      go_upto_region 8 with (go_at_call 82; refine HRS.out.mono ?_; rintro e w5 ⟨rfl, hw5⟩; have HA := Lib.hid (show ObjN w0 A pb _ vs w5 vs' (n + 1) b o .nil (.slice none 0 0) by rw [hw5]; exact HA0.out); clear hw5)
      go_quiet (fail)
      go_wp2
      go_ret3
      have HA1 := HA.out.below (pw_below_drewN (Below.refl w5.heap.size w5) nq)
      exact pv_some HR.out rfl HA1.nd.st HL.out (F1.out.trans HA1.nd.fr) (rep_new F1.out HA1.rep)
    · simp only [if_neg hc]
      exact poFull_any w0 W A n k d m pb vs s c q hv hs hc hm h1 hk hd h hn
set_option maxHeartbeats 8000000 in
set_option maxRecDepth 100000 in
theorem pvEmpty_any (w0 W : World) (A n len : Nat) (d : Int) (pb vs : Value) (s : ByteArray) (hs : s.size = 0) (h : St w0 A W pb vs n) :
    Calls Tryz.prog 69 #[.pointer (some ⟨A, 1, none⟩), .string s, .int .i64 d] W (PvPost w0 A pb W vs n len none) := by
  have e0 : ((s.size : Int) == 0) = true := beq_iff_eq.mpr (by omega)
  have HT := Lib.hid h
  clear h hs
  go_enter Tryz.func69, Tryz.ntmps69
  go_wp2_with (go_at_call 54; refine (new_any _ _).mono ?_; rintro e w2 ⟨⟨N2, rfl⟩, hb⟩; have HB2 := Lib.hid hb; clear hb)
  go_ret3
  exact pv_noneB rfl HT.out HB2.out rfl
set_option maxHeartbeats 8000000 in
set_option maxRecDepth 100000 in
theorem pvDeep_any (w0 W : World) (A n len : Nat) (pb vs : Value) (s : ByteArray) (hs : 0 < s.size) (h : St w0 A W pb vs n) :
    Calls Tryz.prog 69 #[.pointer (some ⟨A, 1, none⟩), .string s, .int .i64 300] W (PvPost w0 A pb W vs n len none) := by
  have e0 : ((s.size : Int) == 0) = false := beq_eq_false_iff_ne.mpr (by omega)
  have HT := Lib.hid h
  clear h hs
  go_enter Tryz.func69, Tryz.ntmps69
  go_wp2_with (go_at_call 54; refine (new_any _ _).mono ?_; rintro e w2 ⟨⟨N2, rfl⟩, hb⟩; have HB2 := Lib.hid hb; clear hb)
  go_ret3
  exact pv_noneB rfl HT.out HB2.out rfl
/-- From a part: what it gives, and what parseValue gives of it. -/
theorem pv_up {w0 W : World} {A n l1 l2 : Nat} {pb vs : Value} {r : Option (T × L)} {e : Ending} {w' : World} (hl : l1 ≤ l2) (h : PvPost w0 A pb W vs n l1 r e w') : PvPost w0 A pb W vs n l2 r e w' := by
  obtain ⟨hb, h⟩ := h
  refine ⟨hb, ?_⟩
  cases r with
  | none => exact h
  | some x =>
    obtain ⟨b, o, vs', n', e1, e2, e3, e4, e5⟩ := h
    exact ⟨b, o, vs', n', e1, e2, by omega, e4, e5⟩
set_option maxHeartbeats 8000000 in
set_option maxRecDepth 100000 in
theorem pvObj_any (w0 W : World) (A n d len : Nat) (pb vs : Value) (s : ByteArray) (t : L) (res : Option (T × L)) (hs : bytesOf s = 123 :: t) (h1 : s.size ≤ 100000) (hd : d < 300) (h : St w0 A W pb vs n)
    (hp : Calls Tryz.prog 93 #[.pointer (some ⟨A, 1, none⟩), .string (strOfNums t), .int .i64 ((d : Int) + 1)] W (PvPost w0 A pb W vs n len res)) :
    Calls Tryz.prog 69 #[.pointer (some ⟨A, 1, none⟩), .string s, .int .i64 (d : Int)] W (PvPost w0 A pb W vs n len res) := by
  obtain ⟨hz, k0, k1⟩ := head_facts hs
  have hz0 : ((s.size : Int) == 0) = false := beq_eq_false_iff_ne.mpr (by omega)
  have hd2 : decide ((300 : Int) < (d : Int) + 1) = false := decide_eq_false (by omega)
  have HP := Lib.hid hp
  cases res with
  | none =>
    clear hs hz h hp
    go_enter Tryz.func69, Tryz.ntmps69
    go_wp2_with (first
      | (go_at_call 93; refine HP.out.mono ?_; rintro e w3 ⟨hb, htk, a, N, rfl⟩; have HB := Lib.hid hb; have HTb := Lib.hid htk; clear hb htk)
      | (go_at_call 54; refine (new_any _ _).mono ?_; rintro e w2 ⟨⟨N2, rfl⟩, hb⟩; have HB2 := Lib.hid (below_step HB.out hb); have HTc := Lib.hid (HTb.out.trans (Tk.below hb)); clear hb))
    go_ret3
    exact pv_none rfl HB2.out HTc.out rfl
  | some x =>
    obtain ⟨t2, r2⟩ := x
    clear hs hz h hp
    go_enter Tryz.func69, Tryz.ntmps69
    go_wp2_with (go_at_call 93; refine HP.out.mono ?_; rintro e w3 ⟨hb, tb, tq, vs2, n2, rfl, hst, hcnt, hfr, hrep⟩; have HX := Lib.hid (And.intro hst (And.intro hcnt (And.intro hfr hrep))); clear hb hst hcnt hfr hrep)
    go_ret3
    exact pv_some (x := (t2, r2)) rfl rfl HX.out.1 HX.out.2.1 HX.out.2.2.1 HX.out.2.2.2
set_option maxHeartbeats 8000000 in
set_option maxRecDepth 100000 in
theorem pvArr_any (w0 W : World) (A n d len : Nat) (pb vs : Value) (s : ByteArray) (t : L) (res : Option (T × L)) (hs : bytesOf s = 91 :: t) (h1 : s.size ≤ 100000) (hd : d < 300) (h : St w0 A W pb vs n)
    (hp : Calls Tryz.prog 94 #[.pointer (some ⟨A, 1, none⟩), .string (strOfNums t), .int .i64 ((d : Int) + 1)] W (PvPost w0 A pb W vs n len res)) :
    Calls Tryz.prog 69 #[.pointer (some ⟨A, 1, none⟩), .string s, .int .i64 (d : Int)] W (PvPost w0 A pb W vs n len res) := by
  obtain ⟨hz, k0, k1⟩ := head_facts hs
  have hz0 : ((s.size : Int) == 0) = false := beq_eq_false_iff_ne.mpr (by omega)
  have hd2 : decide ((300 : Int) < (d : Int) + 1) = false := decide_eq_false (by omega)
  have HP := Lib.hid hp
  cases res with
  | none =>
    clear hs hz h hp
    go_enter Tryz.func69, Tryz.ntmps69
    go_wp2_with (first
      | (go_at_call 94; refine HP.out.mono ?_; rintro e w3 ⟨hb, htk, a, N, rfl⟩; have HB := Lib.hid hb; have HTb := Lib.hid htk; clear hb htk)
      | (go_at_call 54; refine (new_any _ _).mono ?_; rintro e w2 ⟨⟨N2, rfl⟩, hb⟩; have HB2 := Lib.hid (below_step HB.out hb); have HTc := Lib.hid (HTb.out.trans (Tk.below hb)); clear hb))
    go_ret3
    exact pv_none rfl HB2.out HTc.out rfl
  | some x =>
    obtain ⟨t2, r2⟩ := x
    clear hs hz h hp
    go_enter Tryz.func69, Tryz.ntmps69
    go_wp2_with (go_at_call 94; refine HP.out.mono ?_; rintro e w3 ⟨hb, tb, tq, vs2, n2, rfl, hst, hcnt, hfr, hrep⟩; have HX := Lib.hid (And.intro hst (And.intro hcnt (And.intro hfr hrep))); clear hb hst hcnt hfr hrep)
    go_ret3
    exact pv_some (x := (t2, r2)) rfl rfl HX.out.1 HX.out.2.1 HX.out.2.2.1 HX.out.2.2.2
/-- parseValue. -/
theorem pv_all (w0 : World) (A : Nat) (pb : Value) : ∀ m, PVc w0 A pb m := by
  intro m
  induction m with
  | zero =>
    intro s k d n W vs hm h1 hk hd h hn
    have hz : s.size = 0 := by omega
    have hb : bytesOf s = [] := List.eq_nil_of_length_eq_zero (by rw [bytesOf_length]; exact hz)
    obtain ⟨k', rfl⟩ : ∃ k', k = k' + 1 := ⟨k - 1, by omega⟩
    rw [hb, pv]
    exact pvEmpty_any w0 W A n _ d pb vs s hz h
  | succ m ih =>
    intro s k d n W vs hm h1 hk hd h hn
    obtain ⟨k', rfl⟩ : ∃ k', k = k' + 1 := ⟨k - 1, by omega⟩
    cases hb : bytesOf s with
    | nil =>
      rw [pv]
      exact pvEmpty_any w0 W A n _ d pb vs s (by rw [← bytesOf_length, hb]; rfl) h
    | cons c t =>
      have hz : s.size = t.length + 1 := by rw [← bytesOf_length, hb]; rfl
      have hst : bytesOf (strOfNums t) = t := bs_of (s := s) (by rw [hb]; exact Sb.cons c t)
      rw [pv]
      by_cases h300 : 300 < d + 1
      · obtain rfl : d = 300 := by omega
        rw [if_pos (by omega)]
        exact pvDeep_any w0 W A n _ pb vs s (by omega) h
      rw [if_neg h300]
      have hd' : d < 300 := by omega
      by_cases g1 : c = 123
      · subst g1
        rw [if_pos rfl]
        refine (pvObj_any w0 W A n d (strOfNums t).size pb vs s t _ hb h1 hd' h ?_).mono fun e w' q => pv_up (by rw [sz_of]; omega) q
        have := po_any w0 W A n k' (d + 1) m pb vs (strOfNums t) ih (by rw [sz_of]; omega) (by rw [sz_of]; omega) (by rw [sz_of]; omega) (by omega) h (by rw [sz_of]; omega)
        rw [hst] at this
        exact this
      rw [if_neg g1]
      by_cases g2 : c = 91
      · subst g2
        rw [if_pos rfl]
        refine (pvArr_any w0 W A n d (strOfNums t).size pb vs s t _ hb h1 hd' h ?_).mono fun e w' q => pv_up (by rw [sz_of]; omega) q
        have := pa_any w0 W A n k' (d + 1) m pb vs (strOfNums t) ih (by rw [sz_of]; omega) (by rw [sz_of]; omega) (by rw [sz_of]; omega) (by omega) h (by rw [sz_of]; omega)
        rw [hst] at this
        exact this
      rw [if_neg g2]
      by_cases g3 : c = 34
      · subst g3
        rw [if_pos rfl]
        exact pvStr_any w0 W A n d pb vs s t hb h1 hd' h hn
      rw [if_neg g3]
      by_cases g4 : c = 116
      · subst g4
        rw [if_pos rfl]
        exact pvTrue_any w0 W A n d pb vs s t hb h1 hd' h hn
      rw [if_neg g4]
      by_cases g5 : c = 102
      · subst g5
        rw [if_pos rfl]
        exact pvFalse_any w0 W A n d pb vs s t hb h1 hd' h hn
      rw [if_neg g5]
      by_cases g6 : c = 110
      · subst g6
        rw [if_pos rfl]
        exact pvNull_any w0 W A n d pb vs s t hb h1 hd' h hn
      rw [if_neg g6]
      exact pvNum_any w0 W A n d pb vs s c t hb g1 g2 g3 g4 g5 g6 h1 hd' h hn
end Go.Proofs.YtcaigeikdnoheaaGreatDoor.Fp
