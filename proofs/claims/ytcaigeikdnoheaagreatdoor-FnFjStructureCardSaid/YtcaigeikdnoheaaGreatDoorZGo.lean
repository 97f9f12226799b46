/- Several texts in one. -/
import Derived.Test.YtcaigeikdnoheaaGreatDoorZGn
import Derived.Test.YtcaigeikdnoheaaGreatDoorZGd
set_option linter.unusedVariables false
set_option linter.unusedSimpArgs false
namespace Go.Proofs.YtcaigeikdnoheaaGreatDoor.Fp
open Go.RowKit Go.Proofs.YtcaigeikdnoheaaGreatDoorW.PrintWords Go.Proofs.YtcaigeikdnoheaaGreatDoorW.PrintLast Go.Proofs.YtcaigeikdnoheaaGreatDoorW.PrintMore Go.Proofs.YtcaigeikdnoheaaGreatDoor.Aid Go.Proofs.YtcaigeikdnoheaaGreatDoor.J

/-- A result that lies in the first new block. -/
theorem npost_sub {w0 W W1 W' : World} {S : Nat} {O : Nat → Nat → Prop} {N N' : Array Value} {x : Tn} {A2 A3 : Option Addr} {c2 c3 : Nat} (h : Ns w0 W O W' N) (h2 : Kd.string.R tSt W' (W.heap.size + 1) (fun _ => True) (.slice A2 x.keys.length c2) x.keys) (h3 : kTn.R tNd W' (W.heap.size + 1) (fun _ => True) (.slice A3 x.kids.length c3) x.kids) (u0 u1 u2 u3 : Value) :
    NPost w0 W S O x (.returned (.agg #[.int .i64 x.kind, .string x.text, .slice A2 x.keys.length c2, .slice A3 x.kids.length c3])) ((((W'.setCell ⟨W.heap.size, 0, none⟩ u0).setCell ⟨W.heap.size, 1, none⟩ u1).setCell ⟨W.heap.size, 2, none⟩ u2).setCell ⟨W.heap.size, 3, none⟩ u3) := by
  have far : ∀ k, W.heap.size + 1 ≤ k → k < W'.heap.size → ((((W'.setCell ⟨W.heap.size, 0, none⟩ u0).setCell ⟨W.heap.size, 1, none⟩ u1).setCell ⟨W.heap.size, 2, none⟩ u2).setCell ⟨W.heap.size, 3, none⟩ u3).heap[k]? = W'.heap[k]? := fun k hk _ => by
    rw [Below.heap_setCell _ _ _ _ (show k ≠ W.heap.size by omega), Below.heap_setCell _ _ _ _ (show k ≠ W.heap.size by omega), Below.heap_setCell _ _ _ _ (show k ≠ W.heap.size by omega), Below.heap_setCell _ _ _ _ (show k ≠ W.heap.size by omega)]
  exact ⟨A2, c2, A3, c3, ((((h.set 0 u0).set 1 u1).set 2 u2).set 3 u3).c, Kd.R_lower (R_from h2 far) (Nat.le_succ _), Kd.R_lower (R_from h3 far) (Nat.le_succ _), rfl⟩
theorem Ns.of {w0 W W' : World} {O : Nat → Nat → Prop} {N : Array Value} (hl : w0.heap.size ≤ W.heap.size) (hO : ∀ i j, O i j → i < W.heap.size) (k : Ch w0 O (W.alloc (.cells N tNd)) W') : Ns w0 W O W' N :=
  (Ns.start hl N).ch k (fun i j q => ⟨q, hO i j q⟩)
set_option maxHeartbeats 4000000 in
set_option maxRecDepth 100000 in
theorem fjObject_any (l : OL) (w0 W : World) (S b o g c : Nat) (O : Nat → Nat → Prop) (hS : S ≤ W.heap.size) (hbel : Below w0.heap.size w0 W) (hE : ErrV w0) (hO : ∀ i j, O i j → i < S ∧ w0.heap.size ≤ i)
    (hv : ty W b tV) (h1 : W.cell? ⟨b, o + 1, none⟩ = some (.bool false) ∧ O b (o + 1)) (h0 : W.cell? ⟨b, o, none⟩ = some (slc g l.len c) ∧ O b o) (hr : repO W (fun x y => O x y ∧ ¬ (x = b ∧ o ≤ y ∧ y < o + 5)) l g 0)
    (hN : okNO l) (hk : okO l) (hlr : ∀ a ∈ l.raws, a.length ≤ 100000) (hVO : VO l.kk) (hn : l.len ≤ 100000) :
    Calls Tryz.prog 71 #[.pointer (some ⟨b, o, none⟩)] W (NPost w0 W S O ⟨6, ⟨#[]⟩, tnK l, tnO l⟩) := by
  have hmf : ∀ (fn : Fn) (first cap : Array Value) (w : World), (Instr.makeFunc fn first cap).run Tryz.prog w = .ok (.func fn first cap) w := fun _ _ _ _ => rfl
  have hz1 : (W.alloc (.cells zNd tNd)).heap.size = W.heap.size + 1 := by simp
  have hb1 : Below W.heap.size W (W.alloc (.cells zNd tNd)) := below_alloc (Below.refl _ _) _
  have hb2 : Below W.heap.size W ((W.alloc (.cells zNd tNd)).alloc (.cells #[.int .i64 6, .string { data := #[] }, .slice none 0 0, .slice none 0 0] tNd)) := below_step hb1 (below_alloc (Below.refl _ _) _)
  have hVs : Vs w0 (W.alloc (.cells zNd tNd)) O (W.heap.size + 1) ((W.alloc (.cells zNd tNd)).alloc (.cells #[.int .i64 6, .string { data := #[] }, .slice none 0 0, .slice none 0 0] tNd)) [] [] none 0 none 0 :=
    ⟨(Ch.refl _ _ _).below (Nat.le_trans hbel.size hb1.size) (below_alloc (Below.refl _ _) _), by rw [← hz1]; exact blk_new _ _, Kd.R_nil _ _ _ _ _, Kd.R_nil _ _ _ _ _, Nat.le_trans hbel.size hb1.size, by omega⟩
  have HV := Lib.hid (visit_any l w0 (W.alloc (.cells zNd tNd)) _ S (W.heap.size + 1) b o g c O hVs (by omega) (below_step hbel hb1) hE hO (hv.below hb2) ⟨pw_cell_below hb2 h1.1, h1.2⟩ ⟨pw_cell_below hb2 h0.1, h0.2⟩
    (repO_mono hr (fun x y q => World.cell?_of_block (hb2.block x (Nat.lt_of_lt_of_le (hO x y q.1).1 hS))) (fun x y q t ht => ht.below hb2)) hN hk hlr hVO hn)
  have HL := Lib.hid (And.intro hbel.size (fun i j (q : O i j) => Nat.lt_of_lt_of_le (hO i j q).1 hS))
  clear hVs hb1 hb2 hz1 hr h0 h1 hv hN hk hlr hVO hn hE hO hbel hS
  go_enter Tryz.func71, Tryz.ntmps71
  go_wp2_with (go_at_call 99; refine HV.out.mono ?_; rintro e w1 ⟨rfl, A2, c2, A3, c3, hVs⟩; have HW := Lib.hid hVs; have HD := Lib.hid (Ns.of HL.out.1 HL.out.2 hVs.c); clear hVs; have n0 := blk_cell HW.out.n 0; have n1 := blk_cell HW.out.n 1; have n2 := blk_cell HW.out.n 2; have n3 := blk_cell HW.out.n 3; have r0 := blk_cell HD.out.r 0; have r1 := blk_cell HD.out.r 1; have r2 := blk_cell HD.out.r 2; have r3 := blk_cell HD.out.r 3; have g0 := blk_frozen HD.out.r 0; have g1 := blk_frozen HD.out.r 1; have g2 := blk_frozen HD.out.r 2; have g3 := blk_frozen HD.out.r 3)
  refine bodyPost_ret (v := .agg #[.int .i64 6, .string { data := #[] }, .slice A2 (tnK l).length c2, .slice A3 (tnO l).length c3]) ?_ rfl ?_
  · simp [results, Tryz.results71, go_sem, r0, r1, r2, r3, g0, g1, g2, g3]
  · exact npost_sub (x := ⟨6, ⟨#[]⟩, tnK l, tnO l⟩) (W1 := W) (N' := #[]) HD.out (Kd.R_lower HW.out.k (by omega)) (Kd.R_lower (Kd.R_mono HW.out.d (fun _ _ => trivial)) (by omega)) _ _ _ _
set_option maxHeartbeats 4000000 in
set_option maxRecDepth 100000 in
theorem ntArr (l : TL) (hl : NTL l) : NT (.arr l) := by
  intro w0 W S b o O hS hbel hE hO hr hN hk hln
  rw [okN] at hN
  rw [okT] at hk
  rw [out] at hln
  rw [rep] at hr
  obtain ⟨⟨hv, _⟩, ⟨h4, o4⟩, g, c, ⟨h2, o2⟩, hrl⟩ := hr
  have hb1 : Below W.heap.size W (W.alloc (.cells zNd tNd)) := below_alloc (Below.refl _ _) _
  have hz1 : (W.alloc (.cells zNd tNd)).heap.size = W.heap.size + 1 := by simp
  have hN1 := fjNodes_any l hl w0 (W.alloc (.cells zNd tNd)) S g c O (by omega) (below_step hbel hb1) hE hO
    (repL_keep (fun x y q => ⟨q, World.cell?_of_block (hb1.block x (Nat.lt_of_lt_of_le (hO x y q).1 hS)), fun t ht => ht.below hb1⟩) _ _ _ hrl) hN hk (by simp at hln; omega)
  rw [hz1] at hN1
  replace h4 := pw_cell_below hb1 h4
  replace h2 := pw_cell_below hb1 h2
  obtain ⟨n, hn⟩ : ∃ n, n = l.len := ⟨_, rfl⟩
  rw [← hn] at h2 hN1
  obtain ⟨base, cc, hsl⟩ : ∃ base cc, slc g n c = .slice base n cc := by
    unfold slc
    by_cases h : n = 0
    · rw [if_pos h, h]; exact ⟨_, _, rfl⟩
    · rw [if_neg h]; exact ⟨_, _, rfl⟩
  rw [hsl] at h2 hN1
  have HT := Lib.hid (type_plain (W.alloc (.cells zNd tNd)) b o 2 h4 (by decide))
  have HG := Lib.hid (getArr_any (W.alloc (.cells zNd tNd)) b o base n cc h4 h2)
  have HF := Lib.hid hN1
  have HL := Lib.hid (And.intro hbel.size (fun i j (q : O i j) => Nat.lt_of_lt_of_le (hO i j q).1 hS))
  rw [show tn (.arr l) = ⟨5, ⟨#[]⟩, [], tnL l⟩ by rw [tn]]
  clear hn hsl hN1 h4 h2 hb1 hz1 hrl hv o4 o2 hN hk hln hO hE hbel hS
  go_enter Tryz.func37, Tryz.ntmps37
  go_wp2_with (first
    | (go_at_call 70; refine HT.out.mono ?_; rintro e w1 ⟨rfl, rfl⟩)
    | (go_at_call 74; refine HG.out.mono ?_; rintro e w1 ⟨rfl, rfl⟩)
    | (go_at_call 73; refine HF.out.mono ?_; rintro e w2 ⟨A, c', rfl, hch, hR⟩; have HR := Lib.hid hR; have HD := Lib.hid (Ns.of HL.out.1 HL.out.2 hch); clear hch hR; have r0 := blk_cell HD.out.r 0; have r1 := blk_cell HD.out.r 1; have r2 := blk_cell HD.out.r 2; have r3 := blk_cell HD.out.r 3; have g0 := blk_frozen HD.out.r 0; have g1 := blk_frozen HD.out.r 1; have g2 := blk_frozen HD.out.r 2; have g3 := blk_frozen HD.out.r 3))
  refine bodyPost_ret (v := .agg #[.int .i64 5, .string { data := #[] }, .slice none 0 0, .slice A (tnL l).length c']) ?_ rfl ?_
  · simp [results, Tryz.results37, go_sem, r0, r1, r2, r3, g0, g1, g2, g3]
  · exact npost_sub (x := ⟨5, ⟨#[]⟩, [], tnL l⟩) (W1 := W) (N' := #[]) (A2 := none) (c2 := 0) HD.out (Kd.R_nil _ _ _ _ _) HR.out _ _ _ _
def NTO : OL → Prop
  | .nil => True
  | .cons _ t l => NT t ∧ NTO l
theorem outO_le (k : L) (t : T) (l : OL) : k.length + (out t).length ≤ (outO (.cons k t l)).length ∧ (outO l).length ≤ (outO (.cons k t l)).length := by
  cases l with
  | nil => rw [outO1, outO]; simp; omega
  | cons j u m => rw [outO2]; simp; omega
theorem VO_of : ∀ l : OL, NTO l → okNO l → okO l → (outO l).length ≤ 90000 → VO l.kk ∧ ∀ a ∈ l.raws, a.length ≤ 100000
  | .nil, _, _, _, _ => ⟨by rw [OL.kk, VO]; trivial, fun a h => by cases h⟩
  | .cons k t l, h, hN, hk, hl => by
    rw [NTO] at h
    rw [okNO] at hN
    rw [okO] at hk
    have hle := outO_le k t l
    obtain ⟨h1, h2⟩ := VO_of l h.2 hN.2.2 hk.2 (by omega)
    refine ⟨?_, fun a ha => ?_⟩
    · rw [OL.kk, VO]
      exact ⟨⟨h.1, hN.2.1, hk.1.2, by omega, by have := kp_len _ k (Nat.le_refl _); rw [sz_of]; omega⟩, h1⟩
    · rcases List.mem_cons.1 ha with rfl | ha
      · omega
      · exact h2 a ha
theorem outO_lenT : ∀ l : OL, l.len ≤ (outO l).length + 1
  | .nil => by rw [OL.len]; omega
  | .cons k t l => by
    have := outO_lenT l
    have h2 := outO_cons k t l
    cases l with
    | nil => rw [OL.len, OL.len]; omega
    | cons j u m => rw [OL.len, outO2]; simp only [List.length_append, List.length_cons]; omega
set_option maxHeartbeats 4000000 in
set_option maxRecDepth 100000 in
theorem ntObj (l : OL) (hl : NTO l) : NT (.obj l) := by
  intro w0 W S b o O hS hbel hE hO hr hN hk hln
  rw [okN] at hN
  rw [okT] at hk
  rw [out] at hln
  rw [rep] at hr
  obtain ⟨⟨hv, _⟩, ⟨h4, o4⟩, ⟨h1, o1⟩, g, c, ⟨h0, o0⟩, hrl⟩ := hr
  have hlo : (outO l).length ≤ 90000 := by simp at hln; omega
  have hb1 : Below W.heap.size W (W.alloc (.cells zNd tNd)) := below_alloc (Below.refl _ _) _
  have hz1 : (W.alloc (.cells zNd tNd)).heap.size = W.heap.size + 1 := by simp
  obtain ⟨hVO, hlr⟩ := VO_of l hl hN hk hlo
  have hF := fjObject_any l w0 (W.alloc (.cells zNd tNd)) S b o g c O (by omega) (below_step hbel hb1) hE hO (hv.below hb1) ⟨pw_cell_below hb1 h1, o1⟩ ⟨pw_cell_below hb1 h0, o0⟩
    (repO_mono hrl (fun x y q => World.cell?_of_block (hb1.block x (Nat.lt_of_lt_of_le (hO x y q.1).1 hS))) (fun x y q t ht => ht.below hb1)) hN hk hlr hVO (by have := outO_lenT l; omega)
  replace h4 := pw_cell_below hb1 h4
  have HT := Lib.hid (type_plain (W.alloc (.cells zNd tNd)) b o 1 h4 (by decide))
  have HG := Lib.hid (getObj_any (W.alloc (.cells zNd tNd)) b o h4)
  have HF := Lib.hid hF
  have HZ := Lib.hid hz1
  have HL := Lib.hid (And.intro hbel.size (fun i j (q : O i j) => Nat.lt_of_lt_of_le (hO i j q).1 hS))
  rw [show tn (.obj l) = ⟨6, ⟨#[]⟩, tnK l, tnO l⟩ by rw [tn]]
  clear hF h4 h1 h0 hb1 hz1 hrl hv o4 o1 o0 hN hk hln hO hE hbel hS hVO hlr hlo
  go_enter Tryz.func37, Tryz.ntmps37
  go_wp2_with (first
    | (go_at_call 70; refine HT.out.mono ?_; rintro e w1 ⟨rfl, rfl⟩)
    | (go_at_call 72; refine HG.out.mono ?_; rintro e w1 ⟨rfl, rfl⟩)
    | (go_at_call 71; refine HF.out.mono ?_; rintro e w2 ⟨A2, c2, A3, c3, hch, h2, h3, rfl⟩; have HR := Lib.hid (And.intro h2 h3); have HD := Lib.hid (Ns.of HL.out.1 HL.out.2 hch); clear hch h2 h3; have r0 := blk_cell HD.out.r 0; have r1 := blk_cell HD.out.r 1; have r2 := blk_cell HD.out.r 2; have r3 := blk_cell HD.out.r 3; have g0 := blk_frozen HD.out.r 0; have g1 := blk_frozen HD.out.r 1; have g2 := blk_frozen HD.out.r 2; have g3 := blk_frozen HD.out.r 3))
  refine bodyPost_ret (v := .agg #[.int .i64 6, .string { data := #[] }, .slice A2 (tnK l).length c2, .slice A3 (tnO l).length c3]) ?_ rfl ?_
  · simp [results, Tryz.results37, go_sem, r0, r1, r2, r3, g0, g1, g2, g3]
  · exact npost_sub (x := ⟨6, ⟨#[]⟩, tnK l, tnO l⟩) (W1 := W) (N' := #[]) HD.out (by have := HR.out.1; rwa [HZ.out] at this) (by have := HR.out.2; rwa [HZ.out] at this) _ _ _ _
mutual
/-- What fjNode makes of a value. -/
theorem nt_all : ∀ t : T, NT t
  | .leaf k s => ntLeaf k s
  | .arr l => ntArr l (ntL_all l)
  | .obj l => ntObj l (ntO_all l)
theorem ntL_all : ∀ l : TL, NTL l
  | .nil => by rw [NTL]; trivial
  | .cons t l => by rw [NTL]; exact ⟨nt_all t, ntL_all l⟩
theorem ntO_all : ∀ l : OL, NTO l
  | .nil => by rw [NTO]; trivial
  | .cons k t l => by rw [NTO]; exact ⟨nt_all t, ntO_all l⟩
end
end Go.Proofs.YtcaigeikdnoheaaGreatDoor.Fp

set_option linter.unusedVariables false
set_option linter.unusedSimpArgs false
namespace Go.Proofs.YtcaigeikdnoheaaGreatDoor.Fp
open Go.RowKit Go.Proofs.YtcaigeikdnoheaaGreatDoorW.PrintWords Go.Proofs.YtcaigeikdnoheaaGreatDoorW.PrintLast Go.Proofs.YtcaigeikdnoheaaGreatDoorW.PrintMore Go.Proofs.YtcaigeikdnoheaaGreatDoor.Aid Go.Proofs.YtcaigeikdnoheaaGreatDoor.J

theorem rep_at4 {W : World} {O : Nat → Nat → Prop} : ∀ {t : T} {b o : Nat}, rep W O t b o → O b (o + 4)
  | .leaf k s, b, o, h => by rw [rep] at h; exact h.2.2.2
  | .arr l, b, o, h => by rw [rep] at h; exact h.2.1.2
  | .obj l, b, o, h => by rw [rep] at h; exact h.2.1.2
set_option maxHeartbeats 4000000 in
set_option maxRecDepth 100000 in
theorem FjRead_any (w : World) (s : ByteArray) (hs : s.size ≤ 90000) (hE : ErrV w) (hN : ∀ t, parse0 (bytesOf s) = some t → okN t) :
    Calls Tryz.prog 20 #[.string s] w (RPost w ((parse0 (bytesOf s)).map tn)) := by
  have hz1 : (w.alloc (.cells zNd tNd)).heap.size = w.heap.size + 1 := by simp
  have hb1 : Below w.heap.size w (w.alloc (.cells zNd tNd)) := below_alloc (Below.refl _ _) _
  have hP := parse_new2 (w.alloc (.cells zNd tNd)) s hs
  have hrb : (w.alloc (.cells zNd tNd)).heap[w.heap.size]? = some (.cells zNd tNd (0, 0)) := blk_new _ _
  have hbl := bytesOf_length s
  obtain ⟨x, hx⟩ : ∃ x, x = parse0 (bytesOf s) := ⟨_, rfl⟩
  rw [← hx] at hP hN ⊢
  rw [hz1] at hP
  have HP := Lib.hid hP
  have HR := Lib.hid (And.intro hz1 (And.intro hb1 hrb))
  cases x with
  | none =>
    clear hP hN hz1 hb1 hrb hx
    go_enter Tryz.func20, Tryz.ntmps20
    go_wp2_with (go_at_call 40; refine HP.out.mono ?_; rintro e w1 ⟨hb, N, rfl⟩; have HT := Lib.hid (show Rw w w1 from ⟨(hb.block _ (by rw [HR.out.1]; omega)).trans HR.out.2.2, below_step HR.out.2.1 hb⟩); clear hb; have r0 := blk_cell HT.out.r 0; have r1 := blk_cell HT.out.r 1; have r2 := blk_cell HT.out.r 2; have r3 := blk_cell HT.out.r 3; have g0 := blk_frozen HT.out.r 0; have g1 := blk_frozen HT.out.r 1; have g2 := blk_frozen HT.out.r 2; have g3 := blk_frozen HT.out.r 3)
    refine bodyPost_ret (v := .tuple #[.agg #[.int .i64 0, .string { data := #[] }, .slice none 0 0, .slice none 0 0], .bool false]) ?_ rfl ?_
    · simp [results, Tryz.results20, go_sem, r0, r1, r2, r3, g0, g1, g2, g3]
    · refine read_no HT.out _ ?_; repeat (first | with_reducible exact Sets.refl _ _ | with_reducible apply Sets.set0 | with_reducible apply Sets.set1)
  | some t =>
    have HN := Lib.hid (hN t rfl)
    have HE := Lib.hid (hE.below hb1)
    clear hP hN hz1 hb1 hrb hx hE
    obtain ⟨z, hz⟩ : ∃ z, z = tn t := ⟨_, rfl⟩
    rw [show (some t).map tn = some z by rw [hz]; rfl]
    have HZ := Lib.hid hz
    clear hz
    go_enter Tryz.func20, Tryz.ntmps20
    go_wp2_with (first
      | (go_at_call 40; refine HP.out.mono ?_; rintro e w1 ⟨hb, b, o, rfl, hk, hrp, hl⟩; have HI := Lib.hid (nt_all t (w.alloc (.cells zNd tNd)) w1 w1.heap.size b o _ (Nat.le_refl _) hb HE.out (fun i j q => q) hrp HN.out hk (by omega)); have HB := Lib.hid (And.intro hb (show w.heap.size + 2 ≤ w1.heap.size by have q := rep_at4 hrp; have q1 := q.1; have q2 := q.2; rw [HR.out.1] at q2; omega)); rw [← HZ.out] at HI; clear hb hk hrp hl)
      | (go_at_call 37; refine HI.out.mono ?_; rintro e w2 ⟨A2, c2, A3, c3, hch, h2, h3, rfl⟩; have HK := Lib.hid (And.intro h2 h3); have HT := Lib.hid (show Rw w w2 from ⟨(hch.low _ (by rw [HR.out.1]; omega)).trans ((HB.out.1.block _ (by rw [HR.out.1]; omega)).trans HR.out.2.2), below_step HR.out.2.1 (hch.bel HB.out.1)⟩); clear hch h2 h3; have r0 := blk_cell HT.out.r 0; have r1 := blk_cell HT.out.r 1; have r2 := blk_cell HT.out.r 2; have r3 := blk_cell HT.out.r 3; have g0 := blk_frozen HT.out.r 0; have g1 := blk_frozen HT.out.r 1; have g2 := blk_frozen HT.out.r 2; have g3 := blk_frozen HT.out.r 3))
    refine bodyPost_ret (v := .tuple #[.agg #[.int .i64 z.kind, .string z.text, .slice A2 z.keys.length c2, .slice A3 z.kids.length c3], .bool true]) ?_ rfl ?_
    · simp [results, Tryz.results20, go_sem, r0, r1, r2, r3, g0, g1, g2, g3]
    · refine read_yes HT.out HK.out.1 HK.out.2 HB.out.2 _ ?_; repeat (first | with_reducible exact Sets.refl _ _ | with_reducible apply Sets.set0 | with_reducible apply Sets.set1)
end Go.Proofs.YtcaigeikdnoheaaGreatDoor.Fp
