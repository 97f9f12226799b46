/- Several texts in one. -/
import Derived.Test.YtcaigeikdnoheaaGreatDoorZGc
import Derived.Test.YtcaigeikdnoheaaGreatDoorZPFnFjStructurex1
import Derived.Test.YtcaigeikdnoheaaGreatDoorZGl
import Derived.Test.YtcaigeikdnoheaaGreatDoorZGg
import Derived.Test.YtcaigeikdnoheaaGreatDoorZFtTok2
import Derived.BigQuiet
import Derived.Deep.Quiet
import Derived.Test.YtcaigeikdnoheaaGreatDoorZGo
import Derived.Test.YtcaigeikdnoheaaGreatDoorProg
import Derived.Test.YtcaigeikdnoheaaGreatDoorZWWords
import Derived.Deep.Strs
import Derived.ChangeSlices
import Derived.SizedLaws
import Derived.KernelRfl
set_option linter.unusedVariables false
set_option linter.unusedSimpArgs false
namespace Go.Proofs.YtcaigeikdnoheaaGreatDoor.Fp
open Go.RowKit Go.Proofs.YtcaigeikdnoheaaGreatDoorW.PrintWords Go.Proofs.YtcaigeikdnoheaaGreatDoorW.PrintLast Go.Proofs.YtcaigeikdnoheaaGreatDoorW.PrintMore Go.Proofs.YtcaigeikdnoheaaGreatDoor.Aid Go.Proofs.YtcaigeikdnoheaaGreatDoor.J Go.Proofs.YtcaigeikdnoheaaGreatDoor.PFnFjStructure

mutual
def cv : Tn → S25
  | ⟨k, t, ks, l⟩ => ⟨k, t, ks, cvs l⟩
def cvs : List Tn → List S25
  | [] => []
  | x :: l => cv x :: cvs l
end
theorem cvs_map : ∀ l : List Tn, cvs l = l.map cv
  | [] => by rw [cvs]; rfl
  | x :: l => by rw [cvs, cvs_map l]; rfl
theorem cvs_len (l : List Tn) : (cvs l).length = l.length := by rw [cvs_map, List.length_map]
theorem ccv {w : World} {A : Option Addr} {l : List Tn} (hl : ∀ q ∈ l, ∀ cs, kTn.K w q cs → k25.K w (cv q) cs) (h : kTn.C w A l.length l) : k25.C w A (cvs l).length (cvs l) := by
  refine ⟨rfl, by rw [cvs_len]; exact h.2.1, fun hn => ?_⟩
  rw [cvs_len] at hn
  obtain ⟨ad, e, hc⟩ := h.2.2 hn
  refine ⟨ad, e, fun j p hj => ?_⟩
  rw [cvs_map, List.getElem?_map] at hj
  obtain ⟨q, hq, rfl⟩ := Option.map_eq_some_iff.1 hj
  obtain ⟨c, h1, h2, h3⟩ := hc j q hq
  exact ⟨c, h1, hl q (List.mem_of_getElem? hq) c h2, h3⟩
mutual
theorem kcv (w : World) : ∀ (x : Tn) (cs : List Value), kTn.K w x cs → k25.K w (cv x) cs
  | ⟨k, t, ks, l⟩, cs, h => by
    obtain ⟨A2, c2, A3, c3, rfl, l2, g2, l3, g3⟩ := kTn_open h
    rw [cv]
    have := k25_mk w ⟨k, t, ks, cvs l⟩ l2 g2 (by rw [cvs_len]; exact l3) (ccv (kcvs w l) g3)
    simp only [cvs_len] at this
    exact this
theorem kcvs (w : World) : ∀ (l : List Tn), ∀ q ∈ l, ∀ cs, kTn.K w q cs → k25.K w (cv q) cs
  | [], q, hq, _, _ => by cases hq
  | x :: l, q, hq, cs, h => by
    rcases List.mem_cons.1 hq with e | hq
    · rw [e] at h ⊢; exact kcv w x cs h
    · exact kcvs w l q hq cs h
end
/-- The tree beside itself. -/
abbrev sF (k : Nat) (x : Tn) : Option Bool := spec_Same.f k x.kind x.text x.keys (cvs x.kids) x.kind x.text x.keys (cvs x.kids)
theorem l1_ev (a0 : Int) (a1 : ByteArray) (ks : List ByteArray) (l : List Tn) (hl : l.length ≤ 9223372036854775807) (hE : ∀ q ∈ l, Ev (fun k => sF k q) true) : ∀ (m i : Nat), i + m = l.length → Ev (fun k => spec_Same.l1 k (i : Int) a0 a1 ks (cvs l) a0 a1 ks (cvs l)) true := by
  intro m
  induction m with
  | zero =>
    intro i h
    refine Ev.step (f := fun _ => some true) (fun k => ?_) (Ev.now true)
    rw [spec_Same.l1, if_neg (by rw [cvs_len]; omega)]
  | succ m ih =>
    intro i h
    have hi : i < l.length := by omega
    have hm : l[i] ∈ l := List.getElem_mem hi
    have hrd : rd_T25 (cvs l) (i : Int) = cv l[i] := by
      unfold rd_T25
      rw [Int.toNat_natCast, cvs_map, List.getD_eq_getElem?_getD, List.getElem?_map, List.getElem?_eq_getElem hi]
      rfl
    have hw : wrap64 ((i : Int) + 1) = ((i + 1 : Nat) : Int) := by unfold wrap64; omega
    refine Ev.step (f := fun k => (sF k l[i]).bind fun t => if t = true then spec_Same.l1 k (((i + 1 : Nat) : Nat) : Int) a0 a1 ks (cvs l) a0 a1 ks (cvs l) else some false) (fun k => ?_) (Ev.bind (hE _ hm) ?_)
    · rw [spec_Same.l1, if_pos (by rw [cvs_len]; omega), if_pos (by omega), if_pos (by rw [cvs_len]; omega), hrd, hw]
      cases l[i] with
      | mk k0 t0 ks0 l0 => rw [cv]
    · simp only [if_true]
      exact ih (i + 1) (by omega)
theorem l0_ev (a0 : Int) (a1 : ByteArray) (ks : List ByteArray) (l : List Tn) (hk : ks.length ≤ 9223372036854775807) (hl : l.length ≤ 9223372036854775807) (hE : ∀ q ∈ l, Ev (fun k => sF k q) true) : ∀ (m i : Nat), i + m = ks.length → Ev (fun k => spec_Same.l0 k (i : Int) a0 a1 ks (cvs l) a0 a1 ks (cvs l)) true := by
  intro m
  induction m with
  | zero =>
    intro i h
    refine Ev.step (f := fun k => spec_Same.l1 k (((0 : Nat) : Nat) : Int) a0 a1 ks (cvs l) a0 a1 ks (cvs l)) (fun k => ?_) (l1_ev a0 a1 ks l hl hE l.length 0 (by omega))
    rw [spec_Same.l0, if_neg (by omega)]
    rfl
  | succ m ih =>
    intro i h
    have hw : wrap64 ((i : Int) + 1) = ((i + 1 : Nat) : Int) := by unfold wrap64; omega
    refine Ev.step (f := fun k => spec_Same.l0 k (((i + 1 : Nat) : Nat) : Int) a0 a1 ks (cvs l) a0 a1 ks (cvs l)) (fun k => ?_) (ih (i + 1) (by omega))
    rw [spec_Same.l0, if_pos (by omega), if_pos (by omega), if_pos (by omega), if_pos rfl, hw]
mutual
theorem same_ev (w : World) : ∀ (x : Tn) (cs : List Value), kTn.K w x cs → Ev (fun k => sF k x) true
  | ⟨k0, t, ks, l⟩, cs, h => by
    obtain ⟨A2, c2, A3, c3, rfl, l2, g2, l3, g3⟩ := kTn_open h
    have hE : ∀ q ∈ l, Ev (fun k => sF k q) true := sames_ev w l (fun q hq => by
      obtain ⟨j, hj, e⟩ := List.getElem_of_mem hq
      obtain ⟨ad, _, hc⟩ := g3.2.2 (Nat.lt_of_le_of_lt (Nat.zero_le _) hj)
      obtain ⟨c, _, h2, _⟩ := hc j q (by rw [List.getElem?_eq_getElem hj, e])
      exact ⟨c, h2⟩)
    refine Ev.step (f := fun k => spec_Same.j0 k false k0 t ks (cvs l) k0 t ks (cvs l)) (fun k => ?_) (Ev.step (f := fun k => spec_Same.l0 k (((0 : Nat) : Nat) : Int) k0 t ks (cvs l) k0 t ks (cvs l)) (fun k => ?_) (l0_ev k0 t ks l g2.2.1 g3.2.1 hE ks.length 0 (by omega)))
    · show spec_Same.f (k + 1) k0 t ks (cvs l) k0 t ks (cvs l) = _
      rw [spec_Same.f, if_pos rfl, if_pos rfl, if_pos rfl]
      simp
    · rw [spec_Same.j0, if_neg (by decide)]
      rfl
theorem sames_ev (w : World) : ∀ (l : List Tn), (∀ q ∈ l, ∃ cs, kTn.K w q cs) → ∀ q ∈ l, Ev (fun k => sF k q) true
  | [], _, q, hq => by cases hq
  | x :: l, h, q, hq => by
    rcases List.mem_cons.1 hq with e | hq
    · obtain ⟨cs, hc⟩ := h x List.mem_cons_self
      rw [e]; exact same_ev w x cs hc
    · exact sames_ev w l (fun q hq => h q (List.mem_cons_of_mem _ hq)) q hq
end
/-- Same of a tree that lies twice in memory. -/
theorem same_any (x : Tn) (w : World) (A2 B2 A3 B3 : Option Addr) (c2 d2 c3 d3 : Nat) (a2 : Kd.string.C w A2 x.keys.length x.keys) (la2 : x.keys.length ≤ c2) (a3 : kTn.C w A3 x.kids.length x.kids) (la3 : x.kids.length ≤ c3) (b2 : Kd.string.C w B2 x.keys.length x.keys) (lb2 : x.keys.length ≤ d2) (b3 : kTn.C w B3 x.kids.length x.kids) (lb3 : x.kids.length ≤ d3) :
    Calls Tryz.prog 17 #[.agg #[.int .i64 x.kind, .string x.text, .slice A2 x.keys.length c2, .slice A3 x.kids.length c3], .agg #[.int .i64 x.kind, .string x.text, .slice B2 x.keys.length d2, .slice B3 x.kids.length d3]] w fun e w' => e = .returned (.bool true) ∧ Below w.heap.size w w' := by
  have hE : Ev (fun k => sF k x) true := by
    have hq : ∀ q ∈ x.kids, Ev (fun k => sF k q) true := sames_ev w x.kids (fun q hq => by
      obtain ⟨j, hj, e⟩ := List.getElem_of_mem hq
      obtain ⟨ad, _, hc⟩ := a3.2.2 (Nat.lt_of_le_of_lt (Nat.zero_le _) hj)
      obtain ⟨c, _, h2, _⟩ := hc j q (by rw [List.getElem?_eq_getElem hj, e])
      exact ⟨c, h2⟩)
    cases x with
    | mk k0 t ks l =>
      refine Ev.step (f := fun k => spec_Same.j0 k false k0 t ks (cvs l) k0 t ks (cvs l)) (fun k => ?_) (Ev.step (f := fun k => spec_Same.l0 k (((0 : Nat) : Nat) : Int) k0 t ks (cvs l) k0 t ks (cvs l)) (fun k => ?_) (l0_ev k0 t ks l a2.2.1 a3.2.1 hq ks.length 0 (by omega)))
      · show spec_Same.f (k + 1) k0 t ks (cvs l) k0 t ks (cvs l) = _
        rw [spec_Same.f, if_pos rfl, if_pos rfl, if_pos rfl]
        simp
      · rw [spec_Same.j0, if_neg (by decide)]
        rfl
  obtain ⟨k, hk⟩ := hE.rounds
  have h := spec_Same.calls k x.kind x.text A2 c2 x.keys A3 c3 (cvs x.kids) x.kind x.text B2 d2 x.keys B3 d3 (cvs x.kids) true w a2 la2 (ccv (kcvs w _) a3) (by rw [cvs_len]; exact la3) b2 lb2 (ccv (kcvs w _) b3) (by rw [cvs_len]; exact lb3) hk
  simp only [cvs_len] at h
  exact h
end Go.Proofs.YtcaigeikdnoheaaGreatDoor.Fp

set_option linter.unusedVariables false
set_option linter.unusedSimpArgs false
namespace Go.Proofs.YtcaigeikdnoheaaGreatDoor.Fp
open Go.RowKit Go.Proofs.YtcaigeikdnoheaaGreatDoorW.PrintWords Go.Proofs.YtcaigeikdnoheaaGreatDoorW.PrintLast Go.Proofs.YtcaigeikdnoheaaGreatDoorW.PrintMore Go.Proofs.YtcaigeikdnoheaaGreatDoor.Aid Go.Proofs.YtcaigeikdnoheaaGreatDoor.J Go.Proofs.YtcaigeikdnoheaaGreatDoor.PFnFjStructure

section
variable {P : Program} {ops : Array Oper} {C : World → Prop} {a : Act} {o : Oper} {K : Act → Prop}
theorem quiet_val7 (v : Value) (h : ∀ W, C W → (execOp a.eval o).run P W = .ok (.value v) W) (hk : K (a.put o.dst v)) : o.quiet P a C K :=
  ⟨v, fun W hW => by unfold Oper.quietAt; rw [h W hW]; exact ⟨rfl, rfl⟩, hk⟩
end
theorem strOf_app7 (a b : L) : strOfNums (a ++ b) = strOfNums a ++ strOfNums b := by
  apply ByteArray.ext
  simp [strOfNums]
abbrev bTok : List ByteArray := [⟨#[123]⟩, ⟨#[125]⟩, ⟨#[91]⟩, ⟨#[93]⟩, ⟨#[44]⟩, ⟨#[58]⟩, ⟨#[34, 97, 34]⟩, ⟨#[34, 98, 34]⟩, ⟨#[34, 34]⟩, ⟨#[49]⟩, ⟨#[48]⟩, ⟨#[45, 55]⟩, ⟨#[116, 114, 117, 101]⟩, ⟨#[102, 97, 108, 115, 101]⟩, ⟨#[110, 117, 108, 108]⟩]
theorem bTok_sz : ∀ m : Nat, m < 15 → (bTok.getD m ⟨#[]⟩).size ≤ 5 := by
  intro m hm
  have : ∀ k : Fin 15, (bTok.getD k.1 ⟨#[]⟩).size ≤ 5 := by decide
  exact this ⟨m, hm⟩
set_option maxRecDepth 100000 in
theorem ixB0 (W : World) : (Instr.index 74 (.agg #[.string ⟨#[32]⟩, .string ⟨#[10]⟩, .string ⟨#[9, 32]⟩, .string ⟨#[13, 10]⟩]) (.int .u8 0)).run Tryz.prog W = .ok (.string ⟨#[32]⟩) W := by rfl
set_option maxRecDepth 100000 in
theorem ixB1 (W : World) : (Instr.index 74 (.agg #[.string ⟨#[32]⟩, .string ⟨#[10]⟩, .string ⟨#[9, 32]⟩, .string ⟨#[13, 10]⟩]) (.int .u8 1)).run Tryz.prog W = .ok (.string ⟨#[10]⟩) W := by rfl
set_option maxRecDepth 100000 in
theorem ixB2 (W : World) : (Instr.index 74 (.agg #[.string ⟨#[32]⟩, .string ⟨#[10]⟩, .string ⟨#[9, 32]⟩, .string ⟨#[13, 10]⟩]) (.int .u8 2)).run Tryz.prog W = .ok (.string ⟨#[9, 32]⟩) W := by rfl
set_option maxRecDepth 100000 in
theorem ixB3 (W : World) : (Instr.index 74 (.agg #[.string ⟨#[32]⟩, .string ⟨#[10]⟩, .string ⟨#[9, 32]⟩, .string ⟨#[13, 10]⟩]) (.int .u8 3)).run Tryz.prog W = .ok (.string ⟨#[13, 10]⟩) W := by rfl
theorem bTok_at : ∀ m : Nat, m < 15 → bTok.getD m ⟨#[]⟩ = strOfNums (toks.getD m []) := by
  intro m hm
  have : ∀ k : Fin 15, bTok.getD k.1 ⟨#[]⟩ = strOfNums (toks.getD k.1 []) := by decide
  exact this ⟨m, hm⟩
set_option maxHeartbeats 4000000 in
set_option maxRecDepth 100000 in
theorem fjRun_any (w : World) (A : Option Addr) (n c : Nat) (xs : List Int) (hA : (Kd.int .u8).C w A n xs) (hn : n ≤ 200) (hc : n ≤ c) (hb : ∀ x ∈ xs, 0 ≤ x ∧ x < 256) :
    Calls Tryz.prog 18 #[.slice A n c] w fun e w' => e = .returned (.string (strOfNums (runs (xs.map Int.toNat)))) ∧ Below w.heap.size w w' := by
  have HT := Lib.hid (laws_fjTokens.calls bTok w rfl)
  have HA := Lib.hid hA
  have HB := Lib.hid hb
  clear hA hb
  go_enter Tryz.func18, Tryz.ntmps18
  go_wp2_with (go_at_call 38; refine HT.out.mono ?_; rintro e w1 ⟨v, rfl, hR, hb1⟩; obtain ⟨T, ct, rfl⟩ := Kd.R_slice hR; have HR := Lib.hid hR; have HB1 := Lib.hid hb1; clear hR hb1)
  have H0 := Lib.hid (show (xs.take 0).map Int.toNat = [] from rfl)
  go_loopg [4, 5] n (fun kq v4 v5 w' => Hid (∃ i : Nat, v4 = .string (strOfNums (runs ((xs.take i).map Int.toNat))) ∧ v5 = .int .i64 (i : Nat) ∧ i + kq = n ∧ Below w1.heap.size w1 w'))
  case atStart => exact Lib.hid ⟨0, rfl, rfl, by omega, Below.refl _ _⟩
  case round =>
    obtain ⟨i, rfl, rfl, hik, hbl⟩ := hrel.out
    clear hrel
    rcases Nat.lt_or_ge i n with hi | hi
    · obtain ⟨ad, cs, rfl, _, hK, hcell⟩ := Kd.C_get HA.out 0 (i : Int) (by omega) (by omega)
      rw [Int.toNat_natCast] at hK hcell
      have hlen : xs.length = n := HA.out.1
      obtain ⟨x, hx⟩ : ∃ x, x = xs.getD i 0 := ⟨_, rfl⟩
      rw [← hx] at hK
      obtain rfl : cs = [.int .u8 x] := hK
      have e0 : w.cell? (ad.add i) = some (.int .u8 x) := by
        have := hcell 0 _ rfl
        rwa [show i * (Kd.int IntKind.u8).sz + 0 = i by show i * 1 + 0 = i; omega] at this
      have hxb := HB.out x (by rw [hx, List.getD_eq_getElem?_getD, List.getElem?_eq_getElem (by omega)]; exact List.getElem_mem _)
      have e1 := pw_cell_below HB1.out e0
      have e2 := pw_cell_below hbl e1
      have hnames := Kd.R_reads' HR.out
      obtain ⟨ad2, cs2, rfl, _, hK2, hcell2⟩ := Kd.C_get hnames.2.2 ⟨#[]⟩ (x % 16 % 15) (by omega) (by show x % 16 % 15 < 15; omega)
      obtain ⟨m, hm⟩ : ∃ m : Nat, m = (x % 16 % 15).toNat := ⟨_, rfl⟩
      rw [← hm] at hK2 hcell2
      obtain ⟨y, hy⟩ : ∃ y, y = bTok.getD m ⟨#[]⟩ := ⟨_, rfl⟩
      rw [← hy] at hK2
      obtain rfl : cs2 = [.string y] := hK2
      have e3 : w1.cell? (ad2.add m) = some (.string y) := by
        have := hcell2 0 _ rfl
        rwa [show m * Kd.string.sz + 0 = m by show m * 1 + 0 = m; omega] at this
      have e4 := pw_cell_below hbl e3
      have HM := Lib.hid (And.intro hm (And.intro hy hx))
      have HBL := Lib.hid hbl
      have HCA := Lib.hid (And.intro hcell hcell2)
      clear hm hy hx hcell hcell2 e0 e1 e3 hnames hbl
      have hm15 : m < 15 := by have := HM.out.1; omega
      have hm15b : (m : Int) < 15 := by omega
      obtain ⟨p, hp⟩ : ∃ p : Nat, (p : Int) = x % 16 := ⟨(x % 16).toNat, by omega⟩
      obtain ⟨q, hq⟩ : ∃ q : Nat, (q : Int) = x / 16 := ⟨(x / 16).toNat, by omega⟩
      have h1 : x.tmod 16 = (p : Int) := by rw [Int.tmod_eq_emod_of_nonneg hxb.1]; omega
      have h2 : IntKind.i64.wrap (p : Int) = (p : Int) := IntWalk.i64_in _ (by omega)
      have h3 : (p : Int).tmod 15 = (m : Int) := by rw [Int.tmod_eq_emod_of_nonneg (by omega)]; have := HM.out.1; omega
      have h4 : x.tdiv 16 = (q : Int) := by rw [Int.tdiv_eq_ediv_of_nonneg hxb.1]; omega
      have h5 : IntKind.u8.wrap (q : Int) = (q : Int) := by rw [IntKind.wrap_u8]; omega
      have hq4 : (q : Int).tmod 4 = 0 ∨ (q : Int).tmod 4 = 1 ∨ (q : Int).tmod 4 = 2 ∨ (q : Int).tmod 4 = 3 := by rw [Int.tmod_eq_emod_of_nonneg (by omega)]; omega
      have HQ := Lib.hid (And.intro hp hq)
      have HR4 := Lib.hid (show ∀ r : Int, (q : Int).tmod 4 = r → (x.toNat / 16 % 4 : Nat) = r by intro r hr; rw [Int.tmod_eq_emod_of_nonneg (by omega)] at hr; omega)
      obtain ⟨s0, hs0⟩ : ∃ s0, s0 = strOfNums (runs ((xs.take i).map Int.toNat)) := ⟨_, rfl⟩
      have HS := Lib.hid (show ∀ bl : ByteArray, ∀ {r : Int}, ((x.toNat / 16 % 4 : Nat) : Int) = r → bl = strOfNums (bls.getD r.toNat []) → s0 ++ (y ++ bl) = strOfNums (runs ((xs.take (i + 1)).map Int.toNat)) by
        intro bl r hr hbl
        have hti : (xs.take (i + 1)).map Int.toNat = (xs.take i).map Int.toNat ++ [x.toNat] := by
          rw [List.take_add_one, List.map_append, List.getElem?_eq_getElem (by omega)]
          rw [HM.out.2.2, List.getD_eq_getElem?_getD, List.getElem?_eq_getElem (by omega)]
          rfl
        have hxk : x % 16 % 15 = ((x.toNat % 16 % 15 : Nat) : Int) := by
          obtain ⟨kx, hkx⟩ := Int.eq_ofNat_of_zero_le hxb.1
          rw [hkx]; simp
        have hmk : m = x.toNat % 16 % 15 := by rw [HM.out.1, hxk, Int.toNat_natCast]
        rw [hti, runs_snoc, hs0, HM.out.2.1, bTok_at m hm15, hbl, ← hr, Int.toNat_natCast, strOf_app7, strOf_app7]
        unfold tokAt blAt
        rw [hmk])
      have hys : y.size ≤ 5 := by rw [HM.out.2.1]; exact bTok_sz m hm15
      have hss : s0.size ≤ 1400 := by
        rw [hs0, ← bytesOf_length, bytes_of_str _ (runs_facts _).2.2.2]
        have h8 := (runs_facts ((xs.take i).map Int.toNat)).1
        have h9 : ((xs.take i).map Int.toNat).length ≤ i := by rw [List.length_map]; exact List.length_take_le _ _
        omega
      have hz1 : y.size ≤ 9223372036854775806 := by omega
      have hz2 : y.size ≤ 9223372036854775805 := by omega
      have hz3 : s0.size + (y.size + 1) ≤ 9223372036854775807 := by omega
      have hz4 : s0.size + (y.size + 2) ≤ 9223372036854775807 := by omega
      have kix0 := ixB0
      have kix1 := ixB1
      have kix2 := ixB2
      have kix3 := ixB3
      rw [← hs0]
      clear hs0
      have hpi : (p : Int) ≤ 15 := by omega
      have hqi : (q : Int) ≤ 15 := by omega
      clear hp hq
      rcases hq4 with h6 | h6 | h6 | h6
      -- REGION
      · go_wp2
        refine wp_region_quiet (C := fun W => Below wr.heap.size wr W) (by kernel_rfl) (by kernel_rfl) (below_drew (Below.refl _ _)) ?_
        refine wpQuiet_step (fun K hK => ?_)
        rw [if_pos (by rfl)]
        refine quiet_val7 (.string s0) ?_ (hK _ ?_)
        · intro W hW
          clear hK
          go_simp
        simp only [Act.put, List.setIfInBounds_toArray, List.set_cons_zero, List.set_cons_succ]
        clear hK K
        refine wpQuiet_step (fun K hK => ?_)
        rw [if_pos (by rfl)]
        refine quiet_val7 (.slice (some ad2) 15 ct) ?_ (hK _ ?_)
        · intro W hW
          clear hK
          go_simp
        simp only [Act.put, List.setIfInBounds_toArray, List.set_cons_zero, List.set_cons_succ]
        clear hK K
        refine wpQuiet_step (fun K hK => ?_)
        rw [if_pos (by rfl)]
        refine quiet_val7 (.slice (some ad) n c) ?_ (hK _ ?_)
        · intro W hW
          clear hK
          go_simp
        simp only [Act.put, List.setIfInBounds_toArray, List.set_cons_zero, List.set_cons_succ]
        clear hK K
        refine wpQuiet_step (fun K hK => ?_)
        rw [if_pos (by rfl)]
        refine quiet_val7 (.int .i64 (i : Nat)) ?_ (hK _ ?_)
        · intro W hW
          clear hK
          go_simp
        simp only [Act.put, List.setIfInBounds_toArray, List.set_cons_zero, List.set_cons_succ]
        clear hK K
        refine wpQuiet_step (fun K hK => ?_)
        rw [if_pos (by rfl)]
        refine quiet_val7 (.pointer (some (ad.add i))) ?_ (hK _ ?_)
        · intro W hW
          clear hK
          go_simp
        simp only [Act.put, List.setIfInBounds_toArray, List.set_cons_zero, List.set_cons_succ]
        clear hK K
        refine wpQuiet_step (fun K hK => ?_)
        rw [if_pos (by rfl)]
        refine quiet_val7 (.int .u8 x) ?_ (hK _ ?_)
        · intro W hW
          have e5 := pw_cell_below hW e2
          clear hK
          go_simp
        simp only [Act.put, List.setIfInBounds_toArray, List.set_cons_zero, List.set_cons_succ]
        clear hK K
        refine wpQuiet_step (fun K hK => ?_)
        rw [if_pos (by rfl)]
        refine quiet_val7 (.int .u8 (p : Nat)) ?_ (hK _ ?_)
        · intro W hW
          clear hK
          go_simp
        simp only [Act.put, List.setIfInBounds_toArray, List.set_cons_zero, List.set_cons_succ]
        clear hK K
        refine wpQuiet_step (fun K hK => ?_)
        rw [if_pos (by rfl)]
        refine quiet_val7 (.int .i64 (p : Nat)) ?_ (hK _ ?_)
        · intro W hW
          clear hK
          go_simp
        simp only [Act.put, List.setIfInBounds_toArray, List.set_cons_zero, List.set_cons_succ]
        clear hK K
        refine wpQuiet_step (fun K hK => ?_)
        rw [if_pos (by rfl)]
        refine quiet_val7 (.slice (some ad2) 15 ct) ?_ (hK _ ?_)
        · intro W hW
          clear hK
          go_simp
        simp only [Act.put, List.setIfInBounds_toArray, List.set_cons_zero, List.set_cons_succ]
        clear hK K
        refine wpQuiet_step (fun K hK => ?_)
        rw [if_pos (by rfl)]
        refine quiet_val7 (.int .i64 15) ?_ (hK _ ?_)
        · intro W hW
          clear hK
          go_simp
        simp only [Act.put, List.setIfInBounds_toArray, List.set_cons_zero, List.set_cons_succ]
        clear hK K
        refine wpQuiet_step (fun K hK => ?_)
        rw [if_pos (by rfl)]
        refine quiet_val7 (.int .i64 (m : Nat)) ?_ (hK _ ?_)
        · intro W hW
          clear hK
          go_simp
        simp only [Act.put, List.setIfInBounds_toArray, List.set_cons_zero, List.set_cons_succ]
        clear hK K
        refine wpQuiet_step (fun K hK => ?_)
        rw [if_pos (by rfl)]
        refine quiet_val7 (.pointer (some (ad2.add m))) ?_ (hK _ ?_)
        · intro W hW
          clear hK
          go_simp
        simp only [Act.put, List.setIfInBounds_toArray, List.set_cons_zero, List.set_cons_succ]
        clear hK K
        refine wpQuiet_step (fun K hK => ?_)
        rw [if_pos (by rfl)]
        refine quiet_val7 (.string y) ?_ (hK _ ?_)
        · intro W hW
          have e5 := pw_cell_below hW e4
          clear hK
          go_simp
        simp only [Act.put, List.setIfInBounds_toArray, List.set_cons_zero, List.set_cons_succ]
        clear hK K
        refine wpQuiet_step (fun K hK => ?_)
        rw [if_pos (by rfl)]
        refine quiet_val7 (.agg #[.string ⟨#[32]⟩, .string ⟨#[10]⟩, .string ⟨#[9, 32]⟩, .string ⟨#[13, 10]⟩]) ?_ (hK _ ?_)
        · intro W hW
          clear hK
          go_simp
        simp only [Act.put, List.setIfInBounds_toArray, List.set_cons_zero, List.set_cons_succ]
        clear hK K
        refine wpQuiet_step (fun K hK => ?_)
        rw [if_pos (by rfl)]
        refine quiet_val7 (.slice (some ad) n c) ?_ (hK _ ?_)
        · intro W hW
          clear hK
          go_simp
        simp only [Act.put, List.setIfInBounds_toArray, List.set_cons_zero, List.set_cons_succ]
        clear hK K
        refine wpQuiet_step (fun K hK => ?_)
        rw [if_pos (by rfl)]
        refine quiet_val7 (.int .i64 (i : Nat)) ?_ (hK _ ?_)
        · intro W hW
          clear hK
          go_simp
        simp only [Act.put, List.setIfInBounds_toArray, List.set_cons_zero, List.set_cons_succ]
        clear hK K
        refine wpQuiet_step (fun K hK => ?_)
        rw [if_pos (by rfl)]
        refine quiet_val7 (.pointer (some (ad.add i))) ?_ (hK _ ?_)
        · intro W hW
          clear hK
          go_simp
        simp only [Act.put, List.setIfInBounds_toArray, List.set_cons_zero, List.set_cons_succ]
        clear hK K
        refine wpQuiet_step (fun K hK => ?_)
        rw [if_pos (by rfl)]
        refine quiet_val7 (.int .u8 x) ?_ (hK _ ?_)
        · intro W hW
          have e5 := pw_cell_below hW e2
          clear hK
          go_simp
        simp only [Act.put, List.setIfInBounds_toArray, List.set_cons_zero, List.set_cons_succ]
        clear hK K
        refine wpQuiet_step (fun K hK => ?_)
        rw [if_pos (by rfl)]
        refine quiet_val7 (.int .u8 (q : Nat)) ?_ (hK _ ?_)
        · intro W hW
          clear hK
          go_simp
        simp only [Act.put, List.setIfInBounds_toArray, List.set_cons_zero, List.set_cons_succ]
        clear hK K
        refine wpQuiet_step (fun K hK => ?_)
        rw [if_pos (by rfl)]
        refine quiet_val7 (.int .u8 0) ?_ (hK _ ?_)
        · intro W hW
          clear hK
          go_simp
        simp only [Act.put, List.setIfInBounds_toArray, List.set_cons_zero, List.set_cons_succ]
        clear hK K
        refine wpQuiet_step (fun K hK => ?_)
        rw [if_pos (by rfl)]
        refine quiet_val7 (.string ⟨#[32]⟩) ?_ (hK _ ?_)
        · intro W hW
          clear hK
          go_simp
        simp only [Act.put, List.setIfInBounds_toArray, List.set_cons_zero, List.set_cons_succ]
        clear hK K
        refine wpQuiet_step (fun K hK => ?_)
        rw [if_pos (by rfl)]
        refine quiet_val7 (.string (y ++ ⟨#[32]⟩)) ?_ (hK _ ?_)
        · intro W hW
          clear hK
          go_simp
        simp only [Act.put, List.setIfInBounds_toArray, List.set_cons_zero, List.set_cons_succ]
        clear hK K
        refine wpQuiet_step (fun K hK => ?_)
        rw [if_pos (by rfl)]
        refine quiet_val7 (.string (s0 ++ (y ++ ⟨#[32]⟩))) ?_ (hK _ ?_)
        · intro W hW
          clear hK
          go_simp
        simp only [Act.put, List.setIfInBounds_toArray, List.set_cons_zero, List.set_cons_succ]
        clear hK K
        refine wpQuiet_step (fun K hK => ?_)
        rw [if_pos (by rfl)]
        refine quiet_val7 (.string (s0 ++ (y ++ ⟨#[32]⟩))) ?_ (hK _ ?_)
        · intro W hW
          clear hK
          go_simp
        simp only [Act.put, List.setIfInBounds_toArray, List.set_cons_zero, List.set_cons_succ]
        clear hK K
        refine wpQuiet_nil ?_
        intro W8 hT8
        have HB8 := Lib.hid (below_then HBL.out HBL.out.size hT8)
        clear hT8
        go_wp2
        go_roundg (gk - 1)
        case rel => exact Lib.hid ⟨i + 1, by rw [HS.out ⟨#[32]⟩ (HR4.out 0 h6) rfl], by go_num, by omega, HB8.out⟩
        case measure => omega
      · go_wp2
        refine wp_region_quiet (C := fun W => Below wr.heap.size wr W) (by kernel_rfl) (by kernel_rfl) (below_drew (Below.refl _ _)) ?_
        refine wpQuiet_step (fun K hK => ?_)
        rw [if_pos (by rfl)]
        refine quiet_val7 (.string s0) ?_ (hK _ ?_)
        · intro W hW
          clear hK
          go_simp
        simp only [Act.put, List.setIfInBounds_toArray, List.set_cons_zero, List.set_cons_succ]
        clear hK K
        refine wpQuiet_step (fun K hK => ?_)
        rw [if_pos (by rfl)]
        refine quiet_val7 (.slice (some ad2) 15 ct) ?_ (hK _ ?_)
        · intro W hW
          clear hK
          go_simp
        simp only [Act.put, List.setIfInBounds_toArray, List.set_cons_zero, List.set_cons_succ]
        clear hK K
        refine wpQuiet_step (fun K hK => ?_)
        rw [if_pos (by rfl)]
        refine quiet_val7 (.slice (some ad) n c) ?_ (hK _ ?_)
        · intro W hW
          clear hK
          go_simp
        simp only [Act.put, List.setIfInBounds_toArray, List.set_cons_zero, List.set_cons_succ]
        clear hK K
        refine wpQuiet_step (fun K hK => ?_)
        rw [if_pos (by rfl)]
        refine quiet_val7 (.int .i64 (i : Nat)) ?_ (hK _ ?_)
        · intro W hW
          clear hK
          go_simp
        simp only [Act.put, List.setIfInBounds_toArray, List.set_cons_zero, List.set_cons_succ]
        clear hK K
        refine wpQuiet_step (fun K hK => ?_)
        rw [if_pos (by rfl)]
        refine quiet_val7 (.pointer (some (ad.add i))) ?_ (hK _ ?_)
        · intro W hW
          clear hK
          go_simp
        simp only [Act.put, List.setIfInBounds_toArray, List.set_cons_zero, List.set_cons_succ]
        clear hK K
        refine wpQuiet_step (fun K hK => ?_)
        rw [if_pos (by rfl)]
        refine quiet_val7 (.int .u8 x) ?_ (hK _ ?_)
        · intro W hW
          have e5 := pw_cell_below hW e2
          clear hK
          go_simp
        simp only [Act.put, List.setIfInBounds_toArray, List.set_cons_zero, List.set_cons_succ]
        clear hK K
        refine wpQuiet_step (fun K hK => ?_)
        rw [if_pos (by rfl)]
        refine quiet_val7 (.int .u8 (p : Nat)) ?_ (hK _ ?_)
        · intro W hW
          clear hK
          go_simp
        simp only [Act.put, List.setIfInBounds_toArray, List.set_cons_zero, List.set_cons_succ]
        clear hK K
        refine wpQuiet_step (fun K hK => ?_)
        rw [if_pos (by rfl)]
        refine quiet_val7 (.int .i64 (p : Nat)) ?_ (hK _ ?_)
        · intro W hW
          clear hK
          go_simp
        simp only [Act.put, List.setIfInBounds_toArray, List.set_cons_zero, List.set_cons_succ]
        clear hK K
        refine wpQuiet_step (fun K hK => ?_)
        rw [if_pos (by rfl)]
        refine quiet_val7 (.slice (some ad2) 15 ct) ?_ (hK _ ?_)
        · intro W hW
          clear hK
          go_simp
        simp only [Act.put, List.setIfInBounds_toArray, List.set_cons_zero, List.set_cons_succ]
        clear hK K
        refine wpQuiet_step (fun K hK => ?_)
        rw [if_pos (by rfl)]
        refine quiet_val7 (.int .i64 15) ?_ (hK _ ?_)
        · intro W hW
          clear hK
          go_simp
        simp only [Act.put, List.setIfInBounds_toArray, List.set_cons_zero, List.set_cons_succ]
        clear hK K
        refine wpQuiet_step (fun K hK => ?_)
        rw [if_pos (by rfl)]
        refine quiet_val7 (.int .i64 (m : Nat)) ?_ (hK _ ?_)
        · intro W hW
          clear hK
          go_simp
        simp only [Act.put, List.setIfInBounds_toArray, List.set_cons_zero, List.set_cons_succ]
        clear hK K
        refine wpQuiet_step (fun K hK => ?_)
        rw [if_pos (by rfl)]
        refine quiet_val7 (.pointer (some (ad2.add m))) ?_ (hK _ ?_)
        · intro W hW
          clear hK
          go_simp
        simp only [Act.put, List.setIfInBounds_toArray, List.set_cons_zero, List.set_cons_succ]
        clear hK K
        refine wpQuiet_step (fun K hK => ?_)
        rw [if_pos (by rfl)]
        refine quiet_val7 (.string y) ?_ (hK _ ?_)
        · intro W hW
          have e5 := pw_cell_below hW e4
          clear hK
          go_simp
        simp only [Act.put, List.setIfInBounds_toArray, List.set_cons_zero, List.set_cons_succ]
        clear hK K
        refine wpQuiet_step (fun K hK => ?_)
        rw [if_pos (by rfl)]
        refine quiet_val7 (.agg #[.string ⟨#[32]⟩, .string ⟨#[10]⟩, .string ⟨#[9, 32]⟩, .string ⟨#[13, 10]⟩]) ?_ (hK _ ?_)
        · intro W hW
          clear hK
          go_simp
        simp only [Act.put, List.setIfInBounds_toArray, List.set_cons_zero, List.set_cons_succ]
        clear hK K
        refine wpQuiet_step (fun K hK => ?_)
        rw [if_pos (by rfl)]
        refine quiet_val7 (.slice (some ad) n c) ?_ (hK _ ?_)
        · intro W hW
          clear hK
          go_simp
        simp only [Act.put, List.setIfInBounds_toArray, List.set_cons_zero, List.set_cons_succ]
        clear hK K
        refine wpQuiet_step (fun K hK => ?_)
        rw [if_pos (by rfl)]
        refine quiet_val7 (.int .i64 (i : Nat)) ?_ (hK _ ?_)
        · intro W hW
          clear hK
          go_simp
        simp only [Act.put, List.setIfInBounds_toArray, List.set_cons_zero, List.set_cons_succ]
        clear hK K
        refine wpQuiet_step (fun K hK => ?_)
        rw [if_pos (by rfl)]
        refine quiet_val7 (.pointer (some (ad.add i))) ?_ (hK _ ?_)
        · intro W hW
          clear hK
          go_simp
        simp only [Act.put, List.setIfInBounds_toArray, List.set_cons_zero, List.set_cons_succ]
        clear hK K
        refine wpQuiet_step (fun K hK => ?_)
        rw [if_pos (by rfl)]
        refine quiet_val7 (.int .u8 x) ?_ (hK _ ?_)
        · intro W hW
          have e5 := pw_cell_below hW e2
          clear hK
          go_simp
        simp only [Act.put, List.setIfInBounds_toArray, List.set_cons_zero, List.set_cons_succ]
        clear hK K
        refine wpQuiet_step (fun K hK => ?_)
        rw [if_pos (by rfl)]
        refine quiet_val7 (.int .u8 (q : Nat)) ?_ (hK _ ?_)
        · intro W hW
          clear hK
          go_simp
        simp only [Act.put, List.setIfInBounds_toArray, List.set_cons_zero, List.set_cons_succ]
        clear hK K
        refine wpQuiet_step (fun K hK => ?_)
        rw [if_pos (by rfl)]
        refine quiet_val7 (.int .u8 1) ?_ (hK _ ?_)
        · intro W hW
          clear hK
          go_simp
        simp only [Act.put, List.setIfInBounds_toArray, List.set_cons_zero, List.set_cons_succ]
        clear hK K
        refine wpQuiet_step (fun K hK => ?_)
        rw [if_pos (by rfl)]
        refine quiet_val7 (.string ⟨#[10]⟩) ?_ (hK _ ?_)
        · intro W hW
          clear hK
          go_simp
        simp only [Act.put, List.setIfInBounds_toArray, List.set_cons_zero, List.set_cons_succ]
        clear hK K
        refine wpQuiet_step (fun K hK => ?_)
        rw [if_pos (by rfl)]
        refine quiet_val7 (.string (y ++ ⟨#[10]⟩)) ?_ (hK _ ?_)
        · intro W hW
          clear hK
          go_simp
        simp only [Act.put, List.setIfInBounds_toArray, List.set_cons_zero, List.set_cons_succ]
        clear hK K
        refine wpQuiet_step (fun K hK => ?_)
        rw [if_pos (by rfl)]
        refine quiet_val7 (.string (s0 ++ (y ++ ⟨#[10]⟩))) ?_ (hK _ ?_)
        · intro W hW
          clear hK
          go_simp
        simp only [Act.put, List.setIfInBounds_toArray, List.set_cons_zero, List.set_cons_succ]
        clear hK K
        refine wpQuiet_step (fun K hK => ?_)
        rw [if_pos (by rfl)]
        refine quiet_val7 (.string (s0 ++ (y ++ ⟨#[10]⟩))) ?_ (hK _ ?_)
        · intro W hW
          clear hK
          go_simp
        simp only [Act.put, List.setIfInBounds_toArray, List.set_cons_zero, List.set_cons_succ]
        clear hK K
        refine wpQuiet_nil ?_
        intro W8 hT8
        have HB8 := Lib.hid (below_then HBL.out HBL.out.size hT8)
        clear hT8
        go_wp2
        go_roundg (gk - 1)
        case rel => exact Lib.hid ⟨i + 1, by rw [HS.out ⟨#[10]⟩ (HR4.out 1 h6) rfl], by go_num, by omega, HB8.out⟩
        case measure => omega
      · go_wp2
        refine wp_region_quiet (C := fun W => Below wr.heap.size wr W) (by kernel_rfl) (by kernel_rfl) (below_drew (Below.refl _ _)) ?_
        refine wpQuiet_step (fun K hK => ?_)
        rw [if_pos (by rfl)]
        refine quiet_val7 (.string s0) ?_ (hK _ ?_)
        · intro W hW
          clear hK
          go_simp
        simp only [Act.put, List.setIfInBounds_toArray, List.set_cons_zero, List.set_cons_succ]
        clear hK K
        refine wpQuiet_step (fun K hK => ?_)
        rw [if_pos (by rfl)]
        refine quiet_val7 (.slice (some ad2) 15 ct) ?_ (hK _ ?_)
        · intro W hW
          clear hK
          go_simp
        simp only [Act.put, List.setIfInBounds_toArray, List.set_cons_zero, List.set_cons_succ]
        clear hK K
        refine wpQuiet_step (fun K hK => ?_)
        rw [if_pos (by rfl)]
        refine quiet_val7 (.slice (some ad) n c) ?_ (hK _ ?_)
        · intro W hW
          clear hK
          go_simp
        simp only [Act.put, List.setIfInBounds_toArray, List.set_cons_zero, List.set_cons_succ]
        clear hK K
        refine wpQuiet_step (fun K hK => ?_)
        rw [if_pos (by rfl)]
        refine quiet_val7 (.int .i64 (i : Nat)) ?_ (hK _ ?_)
        · intro W hW
          clear hK
          go_simp
        simp only [Act.put, List.setIfInBounds_toArray, List.set_cons_zero, List.set_cons_succ]
        clear hK K
        refine wpQuiet_step (fun K hK => ?_)
        rw [if_pos (by rfl)]
        refine quiet_val7 (.pointer (some (ad.add i))) ?_ (hK _ ?_)
        · intro W hW
          clear hK
          go_simp
        simp only [Act.put, List.setIfInBounds_toArray, List.set_cons_zero, List.set_cons_succ]
        clear hK K
        refine wpQuiet_step (fun K hK => ?_)
        rw [if_pos (by rfl)]
        refine quiet_val7 (.int .u8 x) ?_ (hK _ ?_)
        · intro W hW
          have e5 := pw_cell_below hW e2
          clear hK
          go_simp
        simp only [Act.put, List.setIfInBounds_toArray, List.set_cons_zero, List.set_cons_succ]
        clear hK K
        refine wpQuiet_step (fun K hK => ?_)
        rw [if_pos (by rfl)]
        refine quiet_val7 (.int .u8 (p : Nat)) ?_ (hK _ ?_)
        · intro W hW
          clear hK
          go_simp
        simp only [Act.put, List.setIfInBounds_toArray, List.set_cons_zero, List.set_cons_succ]
        clear hK K
        refine wpQuiet_step (fun K hK => ?_)
        rw [if_pos (by rfl)]
        refine quiet_val7 (.int .i64 (p : Nat)) ?_ (hK _ ?_)
        · intro W hW
          clear hK
          go_simp
        simp only [Act.put, List.setIfInBounds_toArray, List.set_cons_zero, List.set_cons_succ]
        clear hK K
        refine wpQuiet_step (fun K hK => ?_)
        rw [if_pos (by rfl)]
        refine quiet_val7 (.slice (some ad2) 15 ct) ?_ (hK _ ?_)
        · intro W hW
          clear hK
          go_simp
        simp only [Act.put, List.setIfInBounds_toArray, List.set_cons_zero, List.set_cons_succ]
        clear hK K
        refine wpQuiet_step (fun K hK => ?_)
        rw [if_pos (by rfl)]
        refine quiet_val7 (.int .i64 15) ?_ (hK _ ?_)
        · intro W hW
          clear hK
          go_simp
        simp only [Act.put, List.setIfInBounds_toArray, List.set_cons_zero, List.set_cons_succ]
        clear hK K
        refine wpQuiet_step (fun K hK => ?_)
        rw [if_pos (by rfl)]
        refine quiet_val7 (.int .i64 (m : Nat)) ?_ (hK _ ?_)
        · intro W hW
          clear hK
          go_simp
        simp only [Act.put, List.setIfInBounds_toArray, List.set_cons_zero, List.set_cons_succ]
        clear hK K
        refine wpQuiet_step (fun K hK => ?_)
        rw [if_pos (by rfl)]
        refine quiet_val7 (.pointer (some (ad2.add m))) ?_ (hK _ ?_)
        · intro W hW
          clear hK
          go_simp
        simp only [Act.put, List.setIfInBounds_toArray, List.set_cons_zero, List.set_cons_succ]
        clear hK K
        refine wpQuiet_step (fun K hK => ?_)
        rw [if_pos (by rfl)]
        refine quiet_val7 (.string y) ?_ (hK _ ?_)
        · intro W hW
          have e5 := pw_cell_below hW e4
          clear hK
          go_simp
        simp only [Act.put, List.setIfInBounds_toArray, List.set_cons_zero, List.set_cons_succ]
        clear hK K
        refine wpQuiet_step (fun K hK => ?_)
        rw [if_pos (by rfl)]
        refine quiet_val7 (.agg #[.string ⟨#[32]⟩, .string ⟨#[10]⟩, .string ⟨#[9, 32]⟩, .string ⟨#[13, 10]⟩]) ?_ (hK _ ?_)
        · intro W hW
          clear hK
          go_simp
        simp only [Act.put, List.setIfInBounds_toArray, List.set_cons_zero, List.set_cons_succ]
        clear hK K
        refine wpQuiet_step (fun K hK => ?_)
        rw [if_pos (by rfl)]
        refine quiet_val7 (.slice (some ad) n c) ?_ (hK _ ?_)
        · intro W hW
          clear hK
          go_simp
        simp only [Act.put, List.setIfInBounds_toArray, List.set_cons_zero, List.set_cons_succ]
        clear hK K
        refine wpQuiet_step (fun K hK => ?_)
        rw [if_pos (by rfl)]
        refine quiet_val7 (.int .i64 (i : Nat)) ?_ (hK _ ?_)
        · intro W hW
          clear hK
          go_simp
        simp only [Act.put, List.setIfInBounds_toArray, List.set_cons_zero, List.set_cons_succ]
        clear hK K
        refine wpQuiet_step (fun K hK => ?_)
        rw [if_pos (by rfl)]
        refine quiet_val7 (.pointer (some (ad.add i))) ?_ (hK _ ?_)
        · intro W hW
          clear hK
          go_simp
        simp only [Act.put, List.setIfInBounds_toArray, List.set_cons_zero, List.set_cons_succ]
        clear hK K
        refine wpQuiet_step (fun K hK => ?_)
        rw [if_pos (by rfl)]
        refine quiet_val7 (.int .u8 x) ?_ (hK _ ?_)
        · intro W hW
          have e5 := pw_cell_below hW e2
          clear hK
          go_simp
        simp only [Act.put, List.setIfInBounds_toArray, List.set_cons_zero, List.set_cons_succ]
        clear hK K
        refine wpQuiet_step (fun K hK => ?_)
        rw [if_pos (by rfl)]
        refine quiet_val7 (.int .u8 (q : Nat)) ?_ (hK _ ?_)
        · intro W hW
          clear hK
          go_simp
        simp only [Act.put, List.setIfInBounds_toArray, List.set_cons_zero, List.set_cons_succ]
        clear hK K
        refine wpQuiet_step (fun K hK => ?_)
        rw [if_pos (by rfl)]
        refine quiet_val7 (.int .u8 2) ?_ (hK _ ?_)
        · intro W hW
          clear hK
          go_simp
        simp only [Act.put, List.setIfInBounds_toArray, List.set_cons_zero, List.set_cons_succ]
        clear hK K
        refine wpQuiet_step (fun K hK => ?_)
        rw [if_pos (by rfl)]
        refine quiet_val7 (.string ⟨#[9, 32]⟩) ?_ (hK _ ?_)
        · intro W hW
          clear hK
          go_simp
        simp only [Act.put, List.setIfInBounds_toArray, List.set_cons_zero, List.set_cons_succ]
        clear hK K
        refine wpQuiet_step (fun K hK => ?_)
        rw [if_pos (by rfl)]
        refine quiet_val7 (.string (y ++ ⟨#[9, 32]⟩)) ?_ (hK _ ?_)
        · intro W hW
          clear hK
          go_simp
        simp only [Act.put, List.setIfInBounds_toArray, List.set_cons_zero, List.set_cons_succ]
        clear hK K
        refine wpQuiet_step (fun K hK => ?_)
        rw [if_pos (by rfl)]
        refine quiet_val7 (.string (s0 ++ (y ++ ⟨#[9, 32]⟩))) ?_ (hK _ ?_)
        · intro W hW
          clear hK
          go_simp
        simp only [Act.put, List.setIfInBounds_toArray, List.set_cons_zero, List.set_cons_succ]
        clear hK K
        refine wpQuiet_step (fun K hK => ?_)
        rw [if_pos (by rfl)]
        refine quiet_val7 (.string (s0 ++ (y ++ ⟨#[9, 32]⟩))) ?_ (hK _ ?_)
        · intro W hW
          clear hK
          go_simp
        simp only [Act.put, List.setIfInBounds_toArray, List.set_cons_zero, List.set_cons_succ]
        clear hK K
        refine wpQuiet_nil ?_
        intro W8 hT8
        have HB8 := Lib.hid (below_then HBL.out HBL.out.size hT8)
        clear hT8
        go_wp2
        go_roundg (gk - 1)
        case rel => exact Lib.hid ⟨i + 1, by rw [HS.out ⟨#[9, 32]⟩ (HR4.out 2 h6) rfl], by go_num, by omega, HB8.out⟩
        case measure => omega
      · go_wp2
        refine wp_region_quiet (C := fun W => Below wr.heap.size wr W) (by kernel_rfl) (by kernel_rfl) (below_drew (Below.refl _ _)) ?_
        refine wpQuiet_step (fun K hK => ?_)
        rw [if_pos (by rfl)]
        refine quiet_val7 (.string s0) ?_ (hK _ ?_)
        · intro W hW
          clear hK
          go_simp
        simp only [Act.put, List.setIfInBounds_toArray, List.set_cons_zero, List.set_cons_succ]
        clear hK K
        refine wpQuiet_step (fun K hK => ?_)
        rw [if_pos (by rfl)]
        refine quiet_val7 (.slice (some ad2) 15 ct) ?_ (hK _ ?_)
        · intro W hW
          clear hK
          go_simp
        simp only [Act.put, List.setIfInBounds_toArray, List.set_cons_zero, List.set_cons_succ]
        clear hK K
        refine wpQuiet_step (fun K hK => ?_)
        rw [if_pos (by rfl)]
        refine quiet_val7 (.slice (some ad) n c) ?_ (hK _ ?_)
        · intro W hW
          clear hK
          go_simp
        simp only [Act.put, List.setIfInBounds_toArray, List.set_cons_zero, List.set_cons_succ]
        clear hK K
        refine wpQuiet_step (fun K hK => ?_)
        rw [if_pos (by rfl)]
        refine quiet_val7 (.int .i64 (i : Nat)) ?_ (hK _ ?_)
        · intro W hW
          clear hK
          go_simp
        simp only [Act.put, List.setIfInBounds_toArray, List.set_cons_zero, List.set_cons_succ]
        clear hK K
        refine wpQuiet_step (fun K hK => ?_)
        rw [if_pos (by rfl)]
        refine quiet_val7 (.pointer (some (ad.add i))) ?_ (hK _ ?_)
        · intro W hW
          clear hK
          go_simp
        simp only [Act.put, List.setIfInBounds_toArray, List.set_cons_zero, List.set_cons_succ]
        clear hK K
        refine wpQuiet_step (fun K hK => ?_)
        rw [if_pos (by rfl)]
        refine quiet_val7 (.int .u8 x) ?_ (hK _ ?_)
        · intro W hW
          have e5 := pw_cell_below hW e2
          clear hK
          go_simp
        simp only [Act.put, List.setIfInBounds_toArray, List.set_cons_zero, List.set_cons_succ]
        clear hK K
        refine wpQuiet_step (fun K hK => ?_)
        rw [if_pos (by rfl)]
        refine quiet_val7 (.int .u8 (p : Nat)) ?_ (hK _ ?_)
        · intro W hW
          clear hK
          go_simp
        simp only [Act.put, List.setIfInBounds_toArray, List.set_cons_zero, List.set_cons_succ]
        clear hK K
        refine wpQuiet_step (fun K hK => ?_)
        rw [if_pos (by rfl)]
        refine quiet_val7 (.int .i64 (p : Nat)) ?_ (hK _ ?_)
        · intro W hW
          clear hK
          go_simp
        simp only [Act.put, List.setIfInBounds_toArray, List.set_cons_zero, List.set_cons_succ]
        clear hK K
        refine wpQuiet_step (fun K hK => ?_)
        rw [if_pos (by rfl)]
        refine quiet_val7 (.slice (some ad2) 15 ct) ?_ (hK _ ?_)
        · intro W hW
          clear hK
          go_simp
        simp only [Act.put, List.setIfInBounds_toArray, List.set_cons_zero, List.set_cons_succ]
        clear hK K
        refine wpQuiet_step (fun K hK => ?_)
        rw [if_pos (by rfl)]
        refine quiet_val7 (.int .i64 15) ?_ (hK _ ?_)
        · intro W hW
          clear hK
          go_simp
        simp only [Act.put, List.setIfInBounds_toArray, List.set_cons_zero, List.set_cons_succ]
        clear hK K
        refine wpQuiet_step (fun K hK => ?_)
        rw [if_pos (by rfl)]
        refine quiet_val7 (.int .i64 (m : Nat)) ?_ (hK _ ?_)
        · intro W hW
          clear hK
          go_simp
        simp only [Act.put, List.setIfInBounds_toArray, List.set_cons_zero, List.set_cons_succ]
        clear hK K
        refine wpQuiet_step (fun K hK => ?_)
        rw [if_pos (by rfl)]
        refine quiet_val7 (.pointer (some (ad2.add m))) ?_ (hK _ ?_)
        · intro W hW
          clear hK
          go_simp
        simp only [Act.put, List.setIfInBounds_toArray, List.set_cons_zero, List.set_cons_succ]
        clear hK K
        refine wpQuiet_step (fun K hK => ?_)
        rw [if_pos (by rfl)]
        refine quiet_val7 (.string y) ?_ (hK _ ?_)
        · intro W hW
          have e5 := pw_cell_below hW e4
          clear hK
          go_simp
        simp only [Act.put, List.setIfInBounds_toArray, List.set_cons_zero, List.set_cons_succ]
        clear hK K
        refine wpQuiet_step (fun K hK => ?_)
        rw [if_pos (by rfl)]
        refine quiet_val7 (.agg #[.string ⟨#[32]⟩, .string ⟨#[10]⟩, .string ⟨#[9, 32]⟩, .string ⟨#[13, 10]⟩]) ?_ (hK _ ?_)
        · intro W hW
          clear hK
          go_simp
        simp only [Act.put, List.setIfInBounds_toArray, List.set_cons_zero, List.set_cons_succ]
        clear hK K
        refine wpQuiet_step (fun K hK => ?_)
        rw [if_pos (by rfl)]
        refine quiet_val7 (.slice (some ad) n c) ?_ (hK _ ?_)
        · intro W hW
          clear hK
          go_simp
        simp only [Act.put, List.setIfInBounds_toArray, List.set_cons_zero, List.set_cons_succ]
        clear hK K
        refine wpQuiet_step (fun K hK => ?_)
        rw [if_pos (by rfl)]
        refine quiet_val7 (.int .i64 (i : Nat)) ?_ (hK _ ?_)
        · intro W hW
          clear hK
          go_simp
        simp only [Act.put, List.setIfInBounds_toArray, List.set_cons_zero, List.set_cons_succ]
        clear hK K
        refine wpQuiet_step (fun K hK => ?_)
        rw [if_pos (by rfl)]
        refine quiet_val7 (.pointer (some (ad.add i))) ?_ (hK _ ?_)
        · intro W hW
          clear hK
          go_simp
        simp only [Act.put, List.setIfInBounds_toArray, List.set_cons_zero, List.set_cons_succ]
        clear hK K
        refine wpQuiet_step (fun K hK => ?_)
        rw [if_pos (by rfl)]
        refine quiet_val7 (.int .u8 x) ?_ (hK _ ?_)
        · intro W hW
          have e5 := pw_cell_below hW e2
          clear hK
          go_simp
        simp only [Act.put, List.setIfInBounds_toArray, List.set_cons_zero, List.set_cons_succ]
        clear hK K
        refine wpQuiet_step (fun K hK => ?_)
        rw [if_pos (by rfl)]
        refine quiet_val7 (.int .u8 (q : Nat)) ?_ (hK _ ?_)
        · intro W hW
          clear hK
          go_simp
        simp only [Act.put, List.setIfInBounds_toArray, List.set_cons_zero, List.set_cons_succ]
        clear hK K
        refine wpQuiet_step (fun K hK => ?_)
        rw [if_pos (by rfl)]
        refine quiet_val7 (.int .u8 3) ?_ (hK _ ?_)
        · intro W hW
          clear hK
          go_simp
        simp only [Act.put, List.setIfInBounds_toArray, List.set_cons_zero, List.set_cons_succ]
        clear hK K
        refine wpQuiet_step (fun K hK => ?_)
        rw [if_pos (by rfl)]
        refine quiet_val7 (.string ⟨#[13, 10]⟩) ?_ (hK _ ?_)
        · intro W hW
          clear hK
          go_simp
        simp only [Act.put, List.setIfInBounds_toArray, List.set_cons_zero, List.set_cons_succ]
        clear hK K
        refine wpQuiet_step (fun K hK => ?_)
        rw [if_pos (by rfl)]
        refine quiet_val7 (.string (y ++ ⟨#[13, 10]⟩)) ?_ (hK _ ?_)
        · intro W hW
          clear hK
          go_simp
        simp only [Act.put, List.setIfInBounds_toArray, List.set_cons_zero, List.set_cons_succ]
        clear hK K
        refine wpQuiet_step (fun K hK => ?_)
        rw [if_pos (by rfl)]
        refine quiet_val7 (.string (s0 ++ (y ++ ⟨#[13, 10]⟩))) ?_ (hK _ ?_)
        · intro W hW
          clear hK
          go_simp
        simp only [Act.put, List.setIfInBounds_toArray, List.set_cons_zero, List.set_cons_succ]
        clear hK K
        refine wpQuiet_step (fun K hK => ?_)
        rw [if_pos (by rfl)]
        refine quiet_val7 (.string (s0 ++ (y ++ ⟨#[13, 10]⟩))) ?_ (hK _ ?_)
        · intro W hW
          clear hK
          go_simp
        simp only [Act.put, List.setIfInBounds_toArray, List.set_cons_zero, List.set_cons_succ]
        clear hK K
        refine wpQuiet_nil ?_
        intro W8 hT8
        have HB8 := Lib.hid (below_then HBL.out HBL.out.size hT8)
        clear hT8
        go_wp2
        go_roundg (gk - 1)
        case rel => exact Lib.hid ⟨i + 1, by rw [HS.out ⟨#[13, 10]⟩ (HR4.out 3 h6) rfl], by go_num, by omega, HB8.out⟩
        case measure => omega
    · -- END
      obtain rfl : i = n := by omega
      have hlen : xs.length = i := HA.out.1
      have HX := Lib.hid (show xs.take i = xs by rw [← hlen, List.take_length])
      have HB9 := Lib.hid (below_then HB1.out HB1.out.size hbl)
      obtain ⟨s0, hs0⟩ : ∃ s0, s0 = strOfNums (runs ((xs.take i).map Int.toNat)) := ⟨_, rfl⟩
      rw [← hs0]
      have HS0 := Lib.hid hs0
      clear hs0 hlen hbl
      go_wp2
      go_ret
      refine ⟨?_, HB9.out⟩
      show Ending.returned (.string s0) = _
      rw [HS0.out, HX.out]
end Go.Proofs.YtcaigeikdnoheaaGreatDoor.Fp

set_option linter.unusedVariables false
set_option linter.unusedSimpArgs false
namespace Go.Proofs.YtcaigeikdnoheaaGreatDoor.Fp
open Go.RowKit Go.Proofs.YtcaigeikdnoheaaGreatDoorW.PrintWords Go.Proofs.YtcaigeikdnoheaaGreatDoorW.PrintLast Go.Proofs.YtcaigeikdnoheaaGreatDoorW.PrintMore Go.Proofs.YtcaigeikdnoheaaGreatDoor.Aid Go.Proofs.YtcaigeikdnoheaaGreatDoor.J

theorem parse_arr : parse0 (bytesOf ⟨#[91, 93]⟩) = some (.arr .nil) := by kernel_rfl
set_option maxHeartbeats 4000000 in
set_option maxRecDepth 100000 in
theorem lawStructure_any (w : World) (A : Option Addr) (n c : Nat) (xs : List Int) (hA : (Kd.int .u8).C w A n xs) (hc : n ≤ c) (hb : ∀ x ∈ xs, 0 ≤ x ∧ x < 256) (hE : ErrV w) :
    Calls Tryz.prog 5 #[.slice A n c] w fun e w' => e = .returned (.bool true) ∧ Below w.heap.size w w' := by
  by_cases h1 : 2147483647 < n
  · have d1 : decide (2147483647 < (n : Int)) = true := decide_eq_true (by omega)
    clear hA hE
    go_enter Tryz.func5, Tryz.ntmps5
    go_wp2
    go_ret
    exact ⟨rfl, Below.refl _ _⟩
  have d1 : decide (2147483647 < (n : Int)) = false := decide_eq_false (by omega)
  by_cases h2 : 200 < n
  · have d2 : decide (200 < (n : Int)) = true := decide_eq_true (by omega)
    clear hA hE
    go_enter Tryz.func5, Tryz.ntmps5
    go_wp2
    go_ret
    exact ⟨rfl, Below.refl _ _⟩
  have d2 : decide (200 < (n : Int)) = false := decide_eq_false (by omega)
  have HRn := Lib.hid (fjRun_any w A n c xs hA (by omega) hc hb)
  have hln : (xs.map Int.toNat).length ≤ 200 := by rw [List.length_map]; have := hA.1; omega
  obtain ⟨s, hs⟩ : ∃ s, s = strOfNums (runs (xs.map Int.toNat)) := ⟨_, rfl⟩
  rw [← hs] at HRn
  have hbs : bytesOf s = runs (xs.map Int.toNat) := by rw [hs]; exact bytes_of_str _ (runs_facts _).2.2.2
  have hsz : s.size ≤ 1400 := by
    have := (runs_facts (xs.map Int.toNat)).1
    rw [← bytesOf_length, hbs]; omega
  obtain ⟨r1, r2⟩ := runs_read hbs hln
  have HRd := Lib.hid (fun W => Read_any s (by omega) W)
  have HE := Lib.hid hE
  cases hr : readT s with
  | none =>
    have hp := r2 hr
    have HF := Lib.hid (fun W (h : ErrV W) => FjRead_any W s (by omega) h (fun t ht => by rw [hp] at ht; cases ht))
    rw [hp] at HF
    rw [hr] at HRd
    have h91 : parse0 (bytesOf ⟨#[91, 93]⟩) = some (.arr .nil) := parse_arr
    have HG := Lib.hid (fun W (h : ErrV W) => FjRead_any W ⟨#[91, 93]⟩ (by decide) h (fun t ht => by rw [h91] at ht; injection ht with ht; subst ht; rw [okN, okNL]; trivial))
    rw [h91] at HG
    clear hA hE hb r1 r2 hp hr hbs hs h91 hln h1 h2
    go_enter Tryz.func5, Tryz.ntmps5
    go_wp2_with (first
      | (go_at_call 18; refine HRn.out.mono ?_; rintro e w1 ⟨rfl, hb⟩; have HB1 := Lib.hid hb; clear hb)
      | (go_at_call 19; refine (HRd.out _).mono ?_; rintro e w2 ⟨hb, rfl⟩; have HB2 := Lib.hid (below_step HB1.out hb); clear hb)
      | (go_at_call_of 20 (Value.string s); refine (HF.out _ (HE.out.below (below_step HB2.out (below_alloc (Below.refl _ _) _)))).mono ?_; rintro e w3 ⟨hb, rfl⟩; have HB3 := Lib.hid (below_step (below_step HB2.out (below_alloc (Below.refl _ _) _)) hb); clear hb)
      | (go_at_call 20; refine (HG.out _ (HE.out.below (below_step HB3.out (below_alloc (Below.refl _ _) _)))).mono ?_; rintro e w4 ⟨A2, c2, A3, c3, hb, _, _, rfl⟩; have HB4 := Lib.hid (below_step (below_step HB3.out (below_alloc (Below.refl _ _) _)) hb); clear hb))
    go_ret
    exact ⟨rfl, below_step HB4.out (below_alloc (Below.refl _ _) _)⟩
  | some x =>
    obtain ⟨t, hp, hok, htx⟩ := r1 x hr
    have HF := Lib.hid (fun W (h : ErrV W) => FjRead_any W s (by omega) h (fun t' ht => by rw [hp] at ht; injection ht with ht; rw [← ht]; exact hok))
    rw [hp, show (some t).map tn = some x by rw [← htx]; rfl] at HF
    rw [hr] at HRd
    clear hA hE hb r1 r2 hp hr hbs hs hok htx hln h1 h2
    go_enter Tryz.func5, Tryz.ntmps5
    go_wp2_with (first
      | (go_at_call 18; refine HRn.out.mono ?_; rintro e w1 ⟨rfl, hb⟩; have HB1 := Lib.hid hb; clear hb)
      | (go_at_call 19; refine (HRd.out _).mono ?_; rintro e w2 ⟨A2, c2, A3, c3, hb, h2, h3, rfl⟩; have HB2 := Lib.hid (below_step HB1.out hb); have HK2 := Lib.hid (And.intro h2 h3); clear hb h2 h3)
      | (go_at_call 20; refine (HF.out _ (HE.out.below (below_step HB2.out (below_alloc (Below.refl _ _) _)))).mono ?_; rintro e w3 ⟨D2, f2, D3, f3, hb, h2, h3, rfl⟩; have hn := blk_below (blk_new w2 (.cells #[.int .i64 x.kind, .string x.text, .slice A2 x.keys.length c2, .slice A3 x.kids.length c3] tNd)) hb; have p0 := blk_cell hn 0; have p1 := blk_cell hn 1; have p2 := blk_cell hn 2; have p3 := blk_cell hn 3; have hlt := blk_lt hn; have HB3 := Lib.hid (below_step (below_step HB2.out (below_alloc (Below.refl _ _) _)) hb); have a2 := Kd.R_reads' h2; have a3 := Kd.R_reads' h3; have b2 := Kd.R_reads' (Kd.R_below (Kd.R_below HK2.out.1 (below_alloc (Below.refl _ _) _)) hb); have b3 := Kd.R_reads' (Kd.R_below (Kd.R_below HK2.out.2 (below_alloc (Below.refl _ _) _)) hb); have HS := Lib.hid (fun W (h : Below w3.heap.size w3 W) => same_any x W D2 A2 D3 A3 f2 c2 f3 c3 (Kd.C_below a2.2.2 h) a2.2.1 (Kd.C_below a3.2.2 h) a3.2.1 (Kd.C_below b2.2.2 h) b2.2.1 (Kd.C_below b3.2.2 h) b3.2.1); clear hb h2 h3 a2 a3 b2 b3 hn)
      | (go_at_call 17; refine (HS.out _ (below_alloc (Below.refl _ _) _)).mono ?_; rintro e w4 ⟨rfl, hb⟩; have HB4 := Lib.hid (below_step (below_step HB3.out (below_alloc (Below.refl _ _) _)) hb); clear hb))
    go_ret
    exact ⟨rfl, HB4.out⟩
theorem lawStructure_row (A : Option Addr) (cap : Nat) (xs : List Int) (w : World) (hE : ErrV w) (hA : (Kd.int .u8).C w A xs.length xs) (hc : xs.length ≤ cap) (hb : ∀ x ∈ xs, 0 ≤ x ∧ x < 256) :
    Calls Tryz.prog 5 #[.slice A xs.length cap] w fun e w' => e = .returned (.bool true) ∧ Below w.heap.size w w' := lawStructure_any w A xs.length cap xs hA hc hb hE
end Go.Proofs.YtcaigeikdnoheaaGreatDoor.Fp

set_option linter.unusedVariables false
namespace Go.Proofs.YtcaigeikdnoheaaGreatDoor.U8Row
open Go.ChangeShapes Go.WideShapes Go.RowKit Go.Deep Go.Proofs.YtcaigeikdnoheaaGreatDoorW.PrintWords
theorem add_flat (a : Addr) (i : Nat) : a.add i = a.add (i * 1 + 0) := by simp
set_option maxRecDepth 100000 in
theorem open_u8s {H : Type} {enc : TypeId × Value → H} {w : World} {base : Nat} {spare : Nat → Bool} {held : Bool} {r : Reach} {b0 : Nat} {v : Value} {d : DataW H} {p : List MemPlace}
    (hv : Value.okWide Tryz.prog w r b0 30 v) (h : DataW.Trod enc Tryz.prog w base spare held 30 v d p) :
    ∃ (A : Option Addr) (cap : Nat) (xs : List Int), v = .slice A xs.length cap ∧ Kd.C (Kd.int .u8) w A xs.length xs ∧ xs.length ≤ cap ∧ ∀ x ∈ xs, 0 ≤ x ∧ x < 256 := by
  obtain ⟨A, len, cap, rfl⟩ := okWide_slice Tryz.underlying30 hv
  obtain ⟨fuel, hf⟩ := h
  rcases open_ints Tryz.underlying30 Tryz.underlying5 (by kernel_rfl) hf with ⟨hcs, hx⟩ | ⟨a, len', cap', zs, hcs, _, hl, hm, hz, hx, hcell, hwf⟩
  · have e : Value.slice A len cap = .slice none 0 0 := by simpa [Value.cells] using hcs
    injection e with e1 e2 e3
    subst e1 e2 e3
    exact ⟨none, 0, [], rfl, ⟨rfl, by decide, fun h => by simp at h⟩, Nat.le_refl _, fun x hx => by cases hx⟩
  · have e : Value.slice A len cap = .slice (some a) len' cap' := by simpa [Value.cells] using hcs
    injection e with e1 e2 e3
    subst e1 e2 e3
    have hlz : len ≤ zs.length := by rw [hz]; split <;> omega
    have hmx : len ≤ 9223372036854775807 := by
      have : maxLen = 9223372036854775807 := by decide
      omega
    have hlen : (zs.take len).length = len := by rw [List.length_take]; omega
    refine ⟨some a, cap, zs.take len, by rw [hlen], ?_, by rw [hlen]; exact hl, fun x hx => ?_⟩
    · rw [hlen]
      refine ⟨hlen, hmx, fun _ => ⟨a, rfl, fun j q hj => ?_⟩⟩
      have hjl : j < len := by have := (List.getElem?_eq_some_iff.1 hj).1; rwa [hlen] at this
      have hq : zs.getD j 0 = q := by
        rw [List.getElem?_take, if_pos hjl] at hj
        rw [List.getD_eq_getElem?_getD, hj]; rfl
      refine ⟨[.int .u8 q], rfl, rfl, fun i u hi => ?_⟩
      obtain rfl : i = 0 := by have := (List.getElem?_eq_some_iff.1 hi).1; simp at this; exact this
      have hu : u = .int .u8 q := by simpa using hi.symm
      rw [hu, ← hq]
      have := hcell j (by omega)
      show w.cell? (a.add (j * 1 + 0)) = _
      rwa [← add_flat]
    · have := hwf x (List.mem_of_mem_take hx)
      simp only [Lit.wf, Bool.and_eq_true, decide_eq_true_eq] at this
      have h1 : IntKind.u8.min = 0 := by rfl
      have h2 : IntKind.u8.max = 255 := by rfl
      omega
end Go.Proofs.YtcaigeikdnoheaaGreatDoor.U8Row
