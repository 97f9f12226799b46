/- Several texts in one. -/
import Derived.Test.YtcaigeikdnoheaaGreatDoorZFp5
import Derived.Test.YtcaigeikdnoheaaGreatDoorZGg
import Derived.Test.YtcaigeikdnoheaaGreatDoorZGk
import Derived.Test.YtcaigeikdnoheaaGreatDoorZGc
set_option linter.unusedVariables false
set_option linter.unusedSimpArgs false
namespace Go.Proofs.YtcaigeikdnoheaaGreatDoor.Fp
open Go.RowKit Go.Proofs.YtcaigeikdnoheaaGreatDoorW.PrintWords Go.Proofs.YtcaigeikdnoheaaGreatDoorW.PrintLast Go.Proofs.YtcaigeikdnoheaaGreatDoorW.PrintMore Go.Proofs.YtcaigeikdnoheaaGreatDoor.Aid Go.Proofs.YtcaigeikdnoheaaGreatDoor.J

/-- But cells in P, all of them new since w0, nothing of W has turned; blocks stay what they are. -/
structure Ch (w0 : World) (P : Nat → Nat → Prop) (W W' : World) : Prop where
  os : W'.os = W.os
  tape : W'.tape = W.tape
  output : W'.output = W.output
  size : W.heap.size ≤ W'.heap.size
  low : ∀ i, i < w0.heap.size → W'.heap[i]? = W.heap[i]?
  cell : ∀ i j, i < W.heap.size → ¬ P i j → W'.cell? ⟨i, j, none⟩ = W.cell? ⟨i, j, none⟩
  ty : ∀ i t, ty W i t → ty W' i t
  blk : ∀ i, i < W.heap.size → (∀ j, ¬ P i j) → W'.heap[i]? = W.heap[i]?
section
variable {w0 W W1 W2 : World} {P : Nat → Nat → Prop}
theorem Ch.refl (w0 : World) (P : Nat → Nat → Prop) (W : World) : Ch w0 P W W := ⟨rfl, rfl, rfl, Nat.le_refl _, fun _ _ => rfl, fun _ _ _ _ => rfl, fun _ _ h => h, fun _ _ _ => rfl⟩
theorem Ch.below (h : Ch w0 P W W1) (hl : w0.heap.size ≤ W.heap.size) (k : Below W1.heap.size W1 W2) : Ch w0 P W W2 :=
  ⟨k.os.trans h.os, k.tape.trans h.tape, k.output.trans h.output, Nat.le_trans h.size k.size, fun i hi => (k.block i (by have := h.size; omega)).trans (h.low i hi),
    fun i j hi hp => (k.cell (p := ⟨i, j, none⟩) (Nat.lt_of_lt_of_le hi h.size)).trans (h.cell i j hi hp), fun i t ht => (h.ty i t ht).below k, fun i hi hn => (k.block i (Nat.lt_of_lt_of_le hi h.size)).trans (h.blk i hi hn)⟩
theorem Ch.set (h : Ch w0 P W W1) {i j : Nat} (hp : P i j) (hl : w0.heap.size ≤ i) (u : Value) : Ch w0 P W (W1.setCell ⟨i, j, none⟩ u) :=
  ⟨h.os, h.tape, h.output, by simpa [World.setCell] using h.size, fun k hk => (Below.heap_setCell W1 ⟨i, j, none⟩ u k (by show k ≠ i; omega)).trans (h.low k hk),
    fun k m hk hn => (World.cell?_setCell_other _ _ _ _ (fun e => by injection e with e1 e2 _; exact hn (by rw [← e1, ← e2]; exact hp))).trans (h.cell k m hk hn), fun k t ht => (h.ty k t ht).set _ _ _,
    fun k hk hn => (Below.heap_setCell W1 ⟨i, j, none⟩ u k (fun e => hn j (by rw [show k = i from e]; exact hp))).trans (h.blk k hk hn)⟩
theorem Ch.trans {W3 : World} (h : Ch w0 P W W1) (k : Ch w0 P W1 W3) : Ch w0 P W W3 :=
  ⟨k.os.trans h.os, k.tape.trans h.tape, k.output.trans h.output, Nat.le_trans h.size k.size, fun i hi => (k.low i hi).trans (h.low i hi), fun i j hi hp => (k.cell i j (Nat.lt_of_lt_of_le hi h.size) hp).trans (h.cell i j hi hp), fun i t ht => k.ty i t (h.ty i t ht), fun i hi hn => (k.blk i (Nat.lt_of_lt_of_le hi h.size) hn).trans (h.blk i hi hn)⟩
theorem Ch.bel (h : Ch w0 P W W1) (hb : Below w0.heap.size w0 W) : Below w0.heap.size w0 W1 :=
  ⟨h.os.trans hb.os, h.tape.trans hb.tape, h.output.trans hb.output, Nat.le_trans hb.size h.size, fun i hi => (h.low i hi).trans (hb.block i hi)⟩
theorem Ch.mono {P' : Nat → Nat → Prop} (h : Ch w0 P W W1) (hp : ∀ i j, P i j → P' i j) : Ch w0 P' W W1 := ⟨h.os, h.tape, h.output, h.size, h.low, fun i j hi hn => h.cell i j hi (fun q => hn (hp i j q)), h.ty, fun i hi hn => h.blk i hi (fun j q => hn j (hp i j q))⟩
/-- Trees without cells in P stay. -/
theorem Ch.keep (h : Ch w0 P W W1) {O : Nat → Nat → Prop} (hO : ∀ i j, O i j → i < W.heap.size ∧ w0.heap.size ≤ i ∧ ¬ P i j) : Keep W O W1 (In2 w0 W1) := fun i j q => by
  obtain ⟨a, b, c⟩ := hO i j q
  exact ⟨⟨Nat.lt_of_lt_of_le a h.size, b⟩, h.cell i j a c, fun t ht => h.ty i t ht⟩
end
theorem okO_raw : ∀ {l : OL}, okO l → ∀ a ∈ l.raws, Rg a
  | .nil, _, a, h => by cases h
  | .cons b t l, ho, a, h => by
    rw [okO] at ho
    rcases List.mem_cons.1 h with rfl | h
    · exact ho.1.1
    · exact okO_raw ho.2 a h
theorem ty.cellfz {W : World} {b t : Nat} (h : ty W b t) (j : Nat) : W.frozen? ⟨b, j, none⟩ = false := by
  obtain ⟨Z, h⟩ := h
  exact blk_frozen h j
theorem ty.ne {W : World} {b c t u : Nat} (h : ty W b t) (k : ty W c u) (hn : t ≠ u) : b ≠ c := by
  rintro rfl
  obtain ⟨Z, h⟩ := h
  obtain ⟨Y, k⟩ := k
  rw [h] at k
  injection k with k; injection k with _ k _
  exact hn k
/-- What stands at a place of an object's row. -/
theorem repO_get {W : World} {g : Nat} : ∀ {l : OL} {i0 : Nat} {O : Nat → Nat → Prop}, repO W O l g i0 → ∀ i, i < l.len → ty W g tKv ∧ ∃ a t, l.raws[i]? = some a ∧ l.at? i = some t ∧ (W.cell? ⟨g, 2 * (i0 + i), none⟩ = some (.string (strOfNums a)) ∧ O g (2 * (i0 + i))) ∧
    ∃ b o, (W.cell? ⟨g, 2 * (i0 + i) + 1, none⟩ = some (.pointer (some ⟨b, o, none⟩)) ∧ O g (2 * (i0 + i) + 1)) ∧ rep W (fun x y => O x y ∧ x ≠ g) t b o
  | .nil, i0, _, h, i, hi => by rw [OL.len] at hi; omega
  | .cons a t l, i0, O, h, 0, hi => by
    rw [repO] at h
    obtain ⟨h0, h1, b, o, S, h2, h3, _⟩ := h
    exact ⟨h0, a, t, rfl, rfl, h1, b, o, h2, rep_keep (fun x y q => ⟨⟨q.1, q.2.1⟩, rfl, fun _ h => h⟩) _ _ _ h3⟩
  | .cons a t l, i0, O, h, i + 1, hi => by
    rw [repO] at h
    rw [OL.len] at hi
    obtain ⟨_, _, _, _, S, _, _, h4⟩ := h
    obtain ⟨h0, a', t', e1, e2, h1, b, o, h2, h3⟩ := repO_get h4 i (by omega)
    rw [show i0 + 1 + i = i0 + (i + 1) by omega] at h1 h2
    exact ⟨h0, a', t', e1, e2, ⟨h1.1, h1.2.1⟩, b, o, ⟨h2.1, h2.2.1⟩, rep_keep (fun x y q => ⟨⟨q.1.1, q.2⟩, rfl, fun _ h => h⟩) _ _ _ h3⟩
def PL (g n : Nat) (i j : Nat) : Prop := i = g ∧ j % 2 = 0 ∧ j < 2 * n
/-- An object's cells that unescaping writes. -/
def PK (b o g n : Nat) (i j : Nat) : Prop := (i = g ∧ j % 2 = 0 ∧ j < 2 * n) ∨ (i = b ∧ j = o + 1)

set_option maxHeartbeats 8000000 in
set_option maxRecDepth 100000 in
theorem unescapeKeys_any (w0 W : World) (b o g c : Nat) (ks : List L) (hE : ErrV w0) (hbel : Below w0.heap.size w0 W) (hb : w0.heap.size ≤ b) (hv : ty W b tV)
    (h1 : W.cell? ⟨b, o + 1, none⟩ = some (.bool false)) (h0 : W.cell? ⟨b, o, none⟩ = some (slc g ks.length c))
    (hk : ∀ i a, ks[i]? = some a → (w0.heap.size ≤ g ∧ ty W g tKv ∧ g < W.heap.size) ∧ W.cell? ⟨g, 2 * i, none⟩ = some (.string (strOfNums a)) ∧ (Rg a ∧ a.length ≤ 100000 ∧ J.lone a = false)) (hn : ks.length ≤ 2147483647) :
    Calls Tryz.prog 110 #[.pointer (some ⟨b, o, none⟩)] W fun e W' => e = .returned (.tuple #[]) ∧ Ch w0 (PK b o g ks.length) W W' ∧ ∀ i a, ks[i]? = some a → W'.cell? ⟨g, 2 * i, none⟩ = some (.string (strOfNums (kp a))) := by
  have f1 := hv.cellfz (o + 1)
  have HV := Lib.hid hv
  have HK := Lib.hid hk
  have HB := Lib.hid hbel
  have HE := Lib.hid hE
  have HL := Lib.hid hb
  obtain ⟨n, hn0⟩ : ∃ n, n = ks.length := ⟨_, rfl⟩
  rw [← hn0] at h0 hn ⊢
  have HN := Lib.hid hn0
  obtain ⟨base, cc, hsl⟩ : ∃ base cc, slc g n c = .slice base n cc := by
    unfold slc
    by_cases h : n = 0
    · rw [if_pos h, h]; exact ⟨_, _, rfl⟩
    · rw [if_neg h]; exact ⟨_, _, rfl⟩
  rw [hsl] at h0
  have HS := Lib.hid hsl
  clear hv hk hbel hE hb hn0 hsl
  go_enter Tryz.func110, Tryz.ntmps110
  go_wp2
  go_loopg [15] n (fun kq v15 w' => Hid (∃ i : Nat, v15 = .int .i64 (i : Nat) ∧ i + kq = n ∧ Ch w0 (PL g n) W w' ∧ (∀ j a, j < i → ks[j]? = some a → w'.cell? ⟨g, j * 2, none⟩ = some (.string (strOfNums (kp a)))) ∧ (∀ j a, i ≤ j → ks[j]? = some a → w'.cell? ⟨g, j * 2, none⟩ = some (.string (strOfNums a)))))
  case atStart => exact Lib.hid ⟨0, rfl, by omega, Ch.refl _ _ _, fun j a hj => by omega, fun j a _ hj => by rw [Nat.mul_comm]; exact (HK.out j a hj).2.1⟩
  case round =>
    obtain ⟨i, rfl, hik, hch, hlo, hhi⟩ := hrel.out
    clear hrel
    rcases Nat.lt_or_ge i n with hii | hii
    · obtain ⟨a, ha⟩ : ∃ a, ks[i]? = some a := ⟨_, List.getElem?_eq_getElem (by rw [← HN.out]; exact hii)⟩
      obtain ⟨⟨hg0, hgt, hgl⟩, _, hRa, hla, hlone⟩ := HK.out i a ha
      have hbase : base = some ⟨g, 0, none⟩ := by
        have := HS.out
        unfold slc at this
        rw [if_neg (by omega)] at this
        injection this with e; exact e.symm
      subst hbase
      have e0 := hhi i a (Nat.le_refl _) ha
      have tg := hch.ty g tKv hgt
      have fz := tg.cellfz (i * 2)
      have HEW := HE.out.below (hch.bel HB.out)
      have HU := Lib.hid (kept_walk (strOfNums a) wr (by rw [sz_of]; exact hla) (by rw [bytes_of_str a hRa]; exact hlone) HEW)
      rw [bytes_of_str a hRa] at HU
      obtain ⟨s, hs⟩ : ∃ s, s = strOfNums a := ⟨_, rfl⟩
      obtain ⟨q, hq⟩ : ∃ q, q = strOfNums (kp a) := ⟨_, rfl⟩
      rw [← hs] at e0 HU
      rw [← hq] at HU
      have HQ := Lib.hid hq
      have HX := Lib.hid (And.intro hik (And.intro hch (And.intro hlo hhi)))
      have HA := Lib.hid ha
      have HT := Lib.hid tg
      have HG := Lib.hid (And.intro hg0 hgl)
      clear hik hch hlo hhi ha hRa hla hlone hs hq tg hgt hg0 hgl HEW
      go_wp2_with (go_at_call 98; refine HU.out.mono ?_; rintro e w1 ⟨rfl, hb⟩; have HB1 := Lib.hid hb; have e1 := pw_cell_below hb e0; have fz1 := (HT.out.below hb).cellfz (i * 2); clear hb)
      go_roundg (n - (i + 1))
      case rel =>
        obtain ⟨hik, hch, hlo, hhi⟩ := HX.out
        have hgw : g < wr.heap.size := Nat.lt_of_lt_of_le HG.out.2 hch.size
        have oth : ∀ j, j ≠ i → (w1.setCell ⟨g, i * 2, none⟩ (.string q)).cell? ⟨g, j * 2, none⟩ = wr.cell? ⟨g, j * 2, none⟩ := fun j hj => (World.cell?_setCell_other _ _ _ _ (fun e => by injection e with _ e _; omega)).trans (HB1.out.cell (p := ⟨g, j * 2, none⟩) hgw)
        exact Lib.hid ⟨i + 1, by go_num, by omega, (hch.below HB.out.size HB1.out).set ⟨rfl, by omega, by omega⟩ HG.out.1 _, fun j a hj ha => by
          by_cases hji : j = i
          · subst hji
            rw [HA.out] at ha
            injection ha with ha; subst ha
            rw [← HQ.out]
            exact World.cell?_setCell_same' _ _ _ (by rw [e1]; rfl)
          · rw [oth j hji]; exact hlo j a (by omega) ha, fun j a hj ha => by
          rw [oth j (by omega)]; exact hhi j a (by omega) ha⟩
      case measure => have := HX.out.1; omega
    · obtain rfl : i = n := by omega
      have HX := Lib.hid (And.intro hch hlo)
      have HT := Lib.hid (hch.ty b tV HV.out)
      have fb := HT.out.cellfz (o + 1)
      have hbl : b < W.heap.size := HV.out.lt
      have hbg : ∀ j, ¬ (PL g i b j) := fun j h => by
        obtain ⟨rfl, _, h3⟩ := h
        obtain ⟨a, ha⟩ : ∃ a, ks[0]? = some a := ⟨_, List.getElem?_eq_getElem (by rw [← HN.out]; omega)⟩
        exact HV.out.ne (HK.out 0 a ha).1.2.1 (by decide) rfl
      have hu : wr.cell? ⟨b, o + 1, none⟩ = some (.bool false) := (hch.cell b (o + 1) hbl (hbg _)).trans h1
      have HBG := Lib.hid hbg
      clear hch hlo hhi hbg
      go_wp2
      go_end0
      refine ⟨rfl, (HX.out.1.mono fun x y h => .inl h).set (.inr ⟨rfl, rfl⟩) HL.out _, fun j a ha => ?_⟩
      have hji : j < i := by
        have := (List.getElem?_eq_some_iff.1 ha).1
        rw [← HN.out] at this; exact this
      have hne : b ≠ g := fun e => HBG.out 0 ⟨e, rfl, by omega⟩
      rw [World.cell?_setCell_other _ _ _ _ (fun e => by injection e with e _ _; exact hne e), Nat.mul_comm]
      exact HX.out.2 j a hji ha
end Go.Proofs.YtcaigeikdnoheaaGreatDoor.Fp

set_option linter.unusedVariables false
set_option linter.unusedSimpArgs false
namespace Go.Proofs.YtcaigeikdnoheaaGreatDoor.Fp
open Go.RowKit Go.Proofs.YtcaigeikdnoheaaGreatDoorW.PrintWords Go.Proofs.YtcaigeikdnoheaaGreatDoorW.PrintLast Go.Proofs.YtcaigeikdnoheaaGreatDoorW.PrintMore Go.Proofs.YtcaigeikdnoheaaGreatDoor.Aid Go.Proofs.YtcaigeikdnoheaaGreatDoor.J

set_option maxRecDepth 100000 in
theorem type_plain (W : World) (b o : Nat) (k : Int) (hk : W.cell? ⟨b, o + 4, none⟩ = some (.int .i64 k)) (h7 : k ≠ 7) :
    Calls Tryz.prog 70 #[.pointer (some ⟨b, o, none⟩)] W fun e w' => e = .returned (.int .i64 k) ∧ w' = W := by
  have e1 : (k == 7) = false := beq_eq_false_iff_ne.mpr h7
  clear h7
  go_enter Tryz.func70, Tryz.ntmps70
  go_wp2
  go_ret
  exact ⟨rfl, rfl⟩
/-- The cells that Type writes. -/
def P7 (b o : Nat) (i j : Nat) : Prop := i = b ∧ (j = o + 3 ∨ j = o + 4)
set_option maxHeartbeats 4000000 in
set_option maxRecDepth 100000 in
theorem type_str (w0 W : World) (b o : Nat) (a : L) (ha : Rg a) (hl : a.length ≤ 100000) (hlone : J.lone a = false) (hv : ty W b tV) (h3 : W.cell? ⟨b, o + 3, none⟩ = some (.string (strOfNums a))) (h4 : W.cell? ⟨b, o + 4, none⟩ = some (.int .i64 7)) (hlow : w0.heap.size ≤ b) (hb : Below w0.heap.size w0 W) (hE : ErrV W) :
    Calls Tryz.prog 70 #[.pointer (some ⟨b, o, none⟩)] W fun e w' => e = .returned (.int .i64 3) ∧ Ch w0 (P7 b o) W w' ∧ w'.cell? ⟨b, o + 3, none⟩ = some (.string (strOfNums (kp a))) ∧ w'.cell? ⟨b, o + 4, none⟩ = some (.int .i64 3) := by
  have f3 := hv.cellfz (o + 3)
  have f4 := hv.cellfz (o + 4)
  have HU := Lib.hid (fun W' (hb : Below W.heap.size W W') => kept_walk (strOfNums a) W' (by rw [sz_of]; exact hl) (by rw [bytes_of_str a ha]; exact hlone) (hE.below hb))
  rw [bytes_of_str a ha] at HU
  have HB := Lib.hid hb
  have HL := Lib.hid hlow
  have HV := Lib.hid hv
  obtain ⟨s, hs⟩ : ∃ s, s = strOfNums a := ⟨_, rfl⟩
  rw [← hs] at h3 HU
  obtain ⟨q, hq⟩ : ∃ q, q = strOfNums (kp a) := ⟨_, rfl⟩
  rw [← hq] at HU ⊢
  clear hb hE hv ha hl hlone hs hq hlow
  go_enter Tryz.func70, Tryz.ntmps70
  go_wp2_with (go_at_call 98; refine (HU.out _ (Below.refl _ _)).mono ?_; rintro e w1 ⟨rfl, hb⟩; have HB1 := Lib.hid hb; have hZ1 := HV.out.below hb; have g3 := hZ1.cellfz (o + 3); have g4 := hZ1.cellfz (o + 4); have c4 := pw_cell_below hb h4; have c3 := pw_cell_below hb h3; clear hb hZ1)
  go_ret
  refine ⟨rfl, ((((Ch.refl w0 (P7 b o) W).below HB.out.size HB1.out).set ⟨rfl, .inl rfl⟩ HL.out _).set ⟨rfl, .inr rfl⟩ HL.out _), ?_, ?_⟩
  · rw [World.cell?_setCell_other _ _ _ _ (fun e => by injection e with _ e _; omega)]
    exact World.cell?_setCell_same' _ _ _ (by rw [c3]; rfl)
  · exact World.cell?_setCell_same' _ _ _ (by rw [World.cell?_setCell_other _ _ _ _ (fun e => by injection e with _ e _; omega), c4]; rfl)
end Go.Proofs.YtcaigeikdnoheaaGreatDoor.Fp

set_option linter.unusedVariables false
set_option linter.unusedSimpArgs false
namespace Go.Proofs.YtcaigeikdnoheaaGreatDoor.Fp
open Go.RowKit Go.Proofs.YtcaigeikdnoheaaGreatDoorW.PrintWords Go.Proofs.YtcaigeikdnoheaaGreatDoor.Aid Go.Proofs.YtcaigeikdnoheaaGreatDoor.J

def toks : List L := [[123], [125], [91], [93], [44], [58], [34, 97, 34], [34, 98, 34], [34, 34], [49], [48], [45, 55], [116, 114, 117, 101], [102, 97, 108, 115, 101], [110, 117, 108, 108]]
inductive Tkn : L → Prop
  | nil : Tkn []
  | blank {c : Int} {l : L} : wsB c = true → Tkn l → Tkn (c :: l)
  | tok {w l : L} {b : Int} : w ∈ toks → wsB b = true → Tkn (b :: l) → Tkn (w ++ b :: l)
theorem toks_cases {w : L} (h : w ∈ toks) : w = [123] ∨ w = [125] ∨ w = [91] ∨ w = [93] ∨ w = [44] ∨ w = [58] ∨ w = [34, 97, 34] ∨ w = [34, 98, 34] ∨ w = [34, 34] ∨ w = [49] ∨ w = [48] ∨ w = [45, 55] ∨ w = [116, 114, 117, 101] ∨ w = [102, 97, 108, 115, 101] ∨ w = [110, 117, 108, 108] := by
  simpa only [toks, List.mem_cons, List.not_mem_nil, or_false] using h
theorem wsB_cases {b : Int} (h : wsB b = true) : b = 32 ∨ b = 10 ∨ b = 9 ∨ b = 13 := by simpa [wsB, or_assoc] using h
theorem tok_head {w : L} (h : w ∈ toks) : ∃ c t, w = c :: t ∧ wsB c = false := by
  rcases toks_cases h with rfl | rfl | rfl | rfl | rfl | rfl | rfl | rfl | rfl | rfl | rfl | rfl | rfl | rfl | rfl <;> exact ⟨_, _, rfl, rfl⟩
/-- The next token. -/
theorem tk_ws {l : L} (h : Tkn l) : ws l = [] ∨ ∃ w b r, w ∈ toks ∧ wsB b = true ∧ Tkn (b :: r) ∧ ws l = w ++ b :: r := by
  induction h with
  | nil => exact .inl rfl
  | @blank c l hc h ih =>
    have e : ws (c :: l) = ws l := by unfold ws; rw [List.dropWhile_cons, if_pos hc]
    rw [e]; exact ih
  | @tok w l b hw hb h ih =>
    obtain ⟨c, t, rfl, hc⟩ := tok_head hw
    refine .inr ⟨_, b, l, hw, hb, h, ?_⟩
    unfold ws
    rw [List.cons_append, List.dropWhile_cons, if_neg (by rw [hc]; decide)]
theorem tk_one {w : L} (hw : w ∈ toks) {b c : Int} {r q : L} (h : w ++ b :: r = c :: q) (hc : c = 123 ∨ c = 125 ∨ c = 91 ∨ c = 93 ∨ c = 44 ∨ c = 58) : w = [c] ∧ q = b :: r := by
  rcases toks_cases hw with rfl | rfl | rfl | rfl | rfl | rfl | rfl | rfl | rfl | rfl | rfl | rfl | rfl | rfl | rfl <;>
    simp only [List.cons_append, List.nil_append, List.cons.injEq] at h <;> obtain ⟨rfl, rfl⟩ := h <;> first | exact ⟨rfl, rfl⟩ | (exfalso; omega)
theorem rs_end (t : L) : rs false (34 :: t) = some ([], t) := by rw [rs, if_pos ⟨rfl, rfl⟩]
/-- A string among the tokens. -/
theorem tk_str {w : L} (hw : w ∈ toks) {b : Int} {r q : L} (h : w ++ b :: r = 34 :: q) : ∃ k, rs false q = some (k, b :: r) ∧ J.str q = some (b :: r) := by
  rcases toks_cases hw with rfl | rfl | rfl | rfl | rfl | rfl | rfl | rfl | rfl | rfl | rfl | rfl | rfl | rfl | rfl <;>
    simp only [List.cons_append, List.nil_append, List.cons.injEq] at h <;> obtain ⟨h, rfl⟩ := h
  case _ => exfalso; omega
  case _ => exfalso; omega
  case _ => exfalso; omega
  case _ => exfalso; omega
  case _ => exfalso; omega
  case _ => exfalso; omega
  case _ => exact ⟨[97], by rw [rs_plain _ (by decide) (by decide), rs_end]; rfl, by rw [str_cons, if_neg (by decide), if_neg (by decide), if_neg (by decide), str_cons, if_pos rfl]⟩
  case _ => exact ⟨[98], by rw [rs_plain _ (by decide) (by decide), rs_end]; rfl, by rw [str_cons, if_neg (by decide), if_neg (by decide), if_neg (by decide), str_cons, if_pos rfl]⟩
  case _ => exact ⟨[], rs_end _, by rw [str_cons, if_pos rfl]⟩
  all_goals exfalso; omega
theorem nb_tok {b : Int} (h : wsB b = true) : nb b = false := by
  rcases wsB_cases h with rfl | rfl | rfl | rfl <;> rfl
/-- Numbers among the tokens. -/
theorem num_tok {w : L} (hw : w = [49] ∨ w = [48] ∨ w = [45, 55]) {b : Int} (hb : wsB b = true) (r : L) : num (w ++ b :: r) = some (w, b :: r) ∧ J.num (w ++ b :: r) = some (b :: r) := by
  have hn := nb_tok hb
  constructor
  · unfold num
    rcases hw with rfl | rfl | rfl
    all_goals
      have e1 : ∀ x : Int, nb x = true → ∀ t : L, (x :: t).takeWhile nb = x :: t.takeWhile nb := fun x hx t => by rw [List.takeWhile_cons, if_pos hx]
      have e2 : ∀ x : Int, nb x = true → ∀ t : L, (x :: t).dropWhile nb = t.dropWhile nb := fun x hx t => by rw [List.dropWhile_cons, if_pos hx]
      have e3 : (b :: r).takeWhile nb = [] := by rw [List.takeWhile_cons, if_neg (by rw [hn]; decide)]
      have e4 : (b :: r).dropWhile nb = b :: r := by rw [List.dropWhile_cons, if_neg (by rw [hn]; decide)]
      simp only [List.cons_append, List.nil_append]
      simp only [e1 49 rfl, e1 48 rfl, e1 45 rfl, e1 55 rfl, e2 49 rfl, e2 48 rfl, e2 45 rfl, e2 55 rfl, e3, e4]
      rw [if_neg (by simp), if_neg (by simp), if_neg (by simp)]
  · have t46 : ∀ t : L, J.take 46 (b :: r) = none := fun t => by rcases wsB_cases hb with rfl | rfl | rfl | rfl <;> rfl
    have ex : J.frac (b :: r) = some (b :: r) := by rcases wsB_cases hb with rfl | rfl | rfl | rfl <;> rfl
    have dg : J.digs (b :: r) = b :: r := by rcases wsB_cases hb with rfl | rfl | rfl | rfl <;> rfl
    rcases hw with rfl | rfl | rfl
    · show (J.whole (49 :: b :: r)).bind J.frac = _
      rw [show J.whole (49 :: b :: r) = some (J.digs (b :: r)) from rfl, dg]; exact ex
    · show (J.whole (48 :: b :: r)).bind J.frac = _
      rw [show J.whole (48 :: b :: r) = some (b :: r) from rfl]; exact ex
    · show (J.whole (55 :: b :: r)).bind J.frac = _
      rw [show J.whole (55 :: b :: r) = some (J.digs (b :: r)) from rfl, dg]; exact ex

def Tcv (m : Nat) : Prop := ∀ (d : Nat) (w : L) (b : Int) (r0 : L) (t : T) (r : L), w ∈ toks → wsB b = true → Tkn (b :: r0) → pv m d (w ++ b :: r0) = some (t, r) →
  Tkn r ∧ r.length < (w ++ b :: r0).length ∧ ∀ N n, (w ++ b :: r0).length < n → ∃ p, val N n (w ++ b :: r0) = some (p, r)
def Tca (m : Nat) : Prop := ∀ (d : Nat) (l : L) (t : TL) (r : L), Tkn l → pa m d l = some (t, r) → Tkn r ∧ r.length < l.length ∧ ∀ N n k acc, l.length < n → l.length < k → ∃ ps, elems (val N n) k (ws l) acc = some (ps, r)
def Tco (m : Nat) : Prop := ∀ (d : Nat) (l : L) (t : OL) (r : L), Tkn l → po m d l = some (t, r) → Tkn r ∧ r.length < l.length ∧ ∀ N n k a1 a2, l.length < n → l.length < k → ∃ ps, mems N (val N n) k (ws l) a1 a2 = some (ps, r)
theorem pv_sum (n : Nat) {d : Nat} {c : Int} {t : L} (hd : d + 1 ≤ 300) (h1 : c ≠ 123) (h2 : c ≠ 91) (h3 : c ≠ 34) (h4 : c ≠ 116) (h5 : c ≠ 102) (h6 : c ≠ 110) : pv (n + 1) d (c :: t) = (num (c :: t)).map fun x => (.leaf 4 x.1, x.2) := by
  rw [pv]
  rw [if_neg (by omega), if_neg h1, if_neg h2, if_neg h3, if_neg h4, if_neg h5, if_neg h6]
theorem val_num (N n : Nat) {c : Int} {t : L} (h : c = 45 ∨ dig c = true) : val N (n + 1) (c :: t) = (J.num (c :: t)).map fun r => (⟨3, pos N (c :: t), pos N r, [], []⟩, r) := by
  have h' : c = 45 ∨ (48 ≤ c ∧ c ≤ 57) := h.imp id (fun h => by simpa [dig] using h)
  rw [val, if_neg (by omega), if_neg (by omega), if_neg (by omega), if_pos h]
/-- What begins no value. -/
theorem num_none {c : Int} (h : c = 125 ∨ c = 93 ∨ c = 44 ∨ c = 58) (t : L) : num (c :: t) = none := by
  have hn : nb c = false := by rcases h with rfl | rfl | rfl | rfl <;> rfl
  have e3 : (c :: t).takeWhile nb = [] := by rw [List.takeWhile_cons, if_neg (by rw [hn]; decide)]
  have e4 : (c :: t).dropWhile nb = c :: t := by rw [List.dropWhile_cons, if_neg (by rw [hn]; decide)]
  unfold num
  rw [e3, e4]
  simp only [reduceCtorEq, if_true, if_false]
  rw [if_neg]
  unfold odd3 fold3 wInf wNan
  rcases t with _ | ⟨c1, _ | ⟨c2, t⟩⟩ <;> rcases h with rfl | rfl | rfl | rfl <;> simp [low]
theorem conv : ∀ m, Tcv m ∧ Tca m ∧ Tco m := by
  intro m
  induction m with
  | zero => exact ⟨fun d w b r0 t r _ _ _ h => (by rw [pv] at h; cases h), fun d l t r _ h => (by rw [pa] at h; cases h), fun d l t r _ h => (by rw [po] at h; cases h)⟩
  | succ m ih =>
    obtain ⟨iv, ia, io⟩ := ih
    refine ⟨fun d w b r0 t r hw hb hT h => ?_, fun d l t r hT h => ?_, fun d l t r hT h => ?_⟩
    · by_cases hd : 300 < d + 1
      · exfalso
        obtain ⟨c, t', rfl, _⟩ := tok_head hw
        rw [List.cons_append, pv, if_pos hd] at h
        cases h
      have bad : ∀ c : Int, w = [c] → c = 125 ∨ c = 93 ∨ c = 44 ∨ c = 58 → False := fun c e hc => by
        subst e
        rw [List.cons_append, List.nil_append, pv_sum m (by omega) (by omega) (by omega) (by omega) (by omega) (by omega) (by omega), num_none hc] at h
        cases h
      have good : w = [49] ∨ w = [48] ∨ w = [45, 55] → Tkn r ∧ r.length < (w ++ b :: r0).length ∧ ∀ N n, (w ++ b :: r0).length < n → ∃ p, val N n (w ++ b :: r0) = some (p, r) := fun hc => by
        obtain ⟨h1, h2⟩ := num_tok hc hb r0
        obtain ⟨c, t', rfl, hc0⟩ : ∃ c t', w = c :: t' ∧ (c = 45 ∨ dig c = true) := by rcases hc with rfl | rfl | rfl <;> exact ⟨_, _, rfl, by decide⟩
        have hc1 : c = 45 ∨ (48 ≤ c ∧ c ≤ 57) := hc0.imp id (fun h => by simpa [dig] using h)
        rw [List.cons_append] at h h1 h2 ⊢
        rw [pv_sum m (by omega) (by omega) (by omega) (by omega) (by omega) (by omega) (by omega), h1] at h
        injection h with h; injection h with _ h; subst h
        refine ⟨hT, by simp only [List.length_cons, List.length_append]; omega, fun N n hn => ?_⟩
        obtain ⟨n', rfl⟩ : ∃ n', n = n' + 1 := ⟨n - 1, by omega⟩
        rw [val_num N n' hc0, h2]
        exact ⟨_, rfl⟩
      have sgood : ∀ q, w ++ b :: r0 = 34 :: q → Tkn r ∧ r.length < (w ++ b :: r0).length ∧ ∀ N n, (w ++ b :: r0).length < n → ∃ p, val N n (w ++ b :: r0) = some (p, r) := fun q hq => by
        obtain ⟨k, h1, h2⟩ := tk_str hw hq
        have hl := str_lt' h2
        rw [hq] at h ⊢
        rw [pv, if_neg hd, if_neg (by decide), if_neg (by decide), if_pos rfl, h1] at h
        injection h with h; injection h with _ h; subst h
        refine ⟨hT, by simp only [List.length_cons] at hl ⊢; omega, fun N n hn => ?_⟩
        obtain ⟨n', rfl⟩ : ∃ n', n = n' + 1 := ⟨n - 1, by omega⟩
        rw [val, if_neg (by decide), if_neg (by decide), if_pos rfl, h2]
        exact ⟨_, rfl⟩
      rcases toks_cases hw with rfl | rfl | rfl | rfl | rfl | rfl | rfl | rfl | rfl | rfl | rfl | rfl | rfl | rfl | rfl
      · clear bad good sgood
        rw [List.cons_append, List.nil_append] at h ⊢
        rw [pv, if_neg hd, if_pos rfl] at h
        unfold obj0 at h
        have hle := ws_le (b :: r0)
        rcases tk_ws hT with e | ⟨w2, b2, r2, hw2, hb2, hT2, e⟩
        · rw [e] at h; cases h
        have hT3 : Tkn (ws (b :: r0)) := by rw [e]; exact .tok hw2 hb2 hT2
        obtain ⟨c2, q2, e3⟩ : ∃ c2 q2, ws (b :: r0) = c2 :: q2 := by
          obtain ⟨c, t', rfl, _⟩ := tok_head hw2
          exact ⟨_, _, e⟩
        rw [e3] at h hle
        simp only [] at h
        by_cases h125 : c2 = 125
        · rw [if_pos h125] at h
          injection h with h; injection h with _ h; subst h
          obtain ⟨_, rfl⟩ := tk_one hw2 (e.symm.trans e3) (by omega)
          refine ⟨hT2, by simp only [List.length_cons] at hle ⊢; omega, fun N n hn => ?_⟩
          obtain ⟨n', rfl⟩ : ∃ n', n = n' + 1 := ⟨n - 1, by omega⟩
          rw [val, if_pos rfl]
          unfold obj
          rw [skip_ws, e3, h125]
          simp only [J.take, if_pos]
          exact ⟨_, rfl⟩
        · rw [if_neg h125] at h
          cases hp : po m (d + 1) (c2 :: q2) with
          | none => rw [hp] at h; cases h
          | some x =>
            rw [hp] at h
            injection h with h; injection h with _ h; subst h
            obtain ⟨g1, g2, g3⟩ := io _ _ _ _ (e3 ▸ hT3) hp
            refine ⟨g1, by simp only [List.length_cons] at hle g2 ⊢; omega, fun N n hn => ?_⟩
            obtain ⟨n', rfl⟩ : ∃ n', n = n' + 1 := ⟨n - 1, by omega⟩
            rw [val, if_pos rfl]
            unfold obj
            rw [skip_ws, e3]
            have : J.take 125 (c2 :: q2) = none := by simp only [J.take]; rw [if_neg h125]
            rw [this]
            obtain ⟨ps, hps⟩ := g3 N n' ((b :: r0).length + 1) [] [] (by simp only [List.length_cons] at hle hn ⊢; omega) (by simp only [List.length_cons] at hle ⊢; omega)
            rw [← e3, ws_ws, e3] at hps
            simp only [hps]
            exact ⟨_, rfl⟩
      · exact (bad 125 rfl (by omega)).elim
      · clear bad good sgood
        rw [List.cons_append, List.nil_append] at h ⊢
        rw [pv, if_neg hd, if_neg (by decide), if_pos rfl] at h
        unfold arr0 at h
        have hle := ws_le (b :: r0)
        rcases tk_ws hT with e | ⟨w2, b2, r2, hw2, hb2, hT2, e⟩
        · rw [e] at h; cases h
        have hT3 : Tkn (ws (b :: r0)) := by rw [e]; exact .tok hw2 hb2 hT2
        obtain ⟨c2, q2, e3⟩ : ∃ c2 q2, ws (b :: r0) = c2 :: q2 := by
          obtain ⟨c, t', rfl, _⟩ := tok_head hw2
          exact ⟨_, _, e⟩
        rw [e3] at h hle
        simp only [] at h
        by_cases h125 : c2 = 93
        · rw [if_pos h125] at h
          injection h with h; injection h with _ h; subst h
          obtain ⟨_, rfl⟩ := tk_one hw2 (e.symm.trans e3) (by omega)
          refine ⟨hT2, by simp only [List.length_cons] at hle ⊢; omega, fun N n hn => ?_⟩
          obtain ⟨n', rfl⟩ : ∃ n', n = n' + 1 := ⟨n - 1, by omega⟩
          rw [val, if_neg (by decide), if_pos rfl]
          unfold arr
          rw [skip_ws, e3, h125]
          simp only [J.take, if_pos]
          exact ⟨_, rfl⟩
        · rw [if_neg h125] at h
          cases hp : pa m (d + 1) (c2 :: q2) with
          | none => rw [hp] at h; cases h
          | some x =>
            rw [hp] at h
            injection h with h; injection h with _ h; subst h
            obtain ⟨g1, g2, g3⟩ := ia _ _ _ _ (e3 ▸ hT3) hp
            refine ⟨g1, by simp only [List.length_cons] at hle g2 ⊢; omega, fun N n hn => ?_⟩
            obtain ⟨n', rfl⟩ : ∃ n', n = n' + 1 := ⟨n - 1, by omega⟩
            rw [val, if_neg (by decide), if_pos rfl]
            unfold arr
            rw [skip_ws, e3]
            have : J.take 93 (c2 :: q2) = none := by simp only [J.take]; rw [if_neg h125]
            rw [this]
            obtain ⟨ps, hps⟩ := g3 N n' ((b :: r0).length + 1) [] (by simp only [List.length_cons] at hle hn ⊢; omega) (by simp only [List.length_cons] at hle ⊢; omega)
            rw [← e3, ws_ws, e3] at hps
            simp only [hps]
            exact ⟨_, rfl⟩
      · exact (bad 93 rfl (by omega)).elim
      · exact (bad 44 rfl (by omega)).elim
      · exact (bad 58 rfl (by omega)).elim
      · exact sgood _ rfl
      · exact sgood _ rfl
      · exact sgood _ rfl
      · exact good (by simp)
      · exact good (by simp)
      · exact good (by simp)
      all_goals
        clear bad good sgood
        simp only [List.cons_append, List.nil_append] at h ⊢
        rw [pv, if_neg hd, if_neg (by decide), if_neg (by decide), if_neg (by decide)] at h
        try rw [if_neg (by decide)] at h
        try rw [if_neg (by decide)] at h
        rw [if_pos rfl, if_pos (by rfl)] at h
        injection h with h; injection h with _ h
        subst h
        refine ⟨hT, by simp only [List.length_cons, List.drop_succ_cons, List.drop_zero]; omega, fun N n hn => ?_⟩
        obtain ⟨n', rfl⟩ : ∃ n', n = n' + 1 := ⟨n - 1, by omega⟩
        rw [val, if_neg (by decide), if_neg (by decide), if_neg (by decide), if_neg (by decide)]
        exact ⟨_, rfl⟩
    · rw [pa] at h
      have hle := ws_le l
      rcases tk_ws hT with e | ⟨w, b, r0, hw, hb, hT2, e⟩
      · rw [e] at h
        have : pv m d [] = none := by cases m <;> rw [pv]
        rw [this] at h; cases h
      rw [e] at h hle
      cases hp : pv m d (w ++ b :: r0) with
      | none => rw [hp] at h; cases h
      | some x =>
        rw [hp] at h
        obtain ⟨g1, g2, g3⟩ := iv _ _ _ _ _ _ hw hb hT2 hp
        simp only [] at h
        have hle2 := ws_le x.2
        rcases tk_ws g1 with e2 | ⟨w2, b2, r2, hw2, hb2, hT3, e2⟩
        · rw [e2] at h; cases h
        obtain ⟨c2, q2, e3⟩ : ∃ c2 q2, ws x.2 = c2 :: q2 := by
          obtain ⟨c, t', rfl, _⟩ := tok_head hw2
          exact ⟨_, _, e2⟩
        rw [e3] at h hle2
        simp only [List.length_cons] at hle2
        simp only [] at h
        by_cases h44 : c2 = 44
        · rw [if_pos h44] at h
          obtain ⟨_, rfl⟩ := tk_one hw2 (e2.symm.trans e3) (by omega)
          cases hp2 : pa m d (b2 :: r2) with
          | none => rw [hp2] at h; cases h
          | some y =>
            rw [hp2] at h
            injection h with h; injection h with _ h; subst h
            obtain ⟨k1, k2, k3⟩ := ia _ _ _ _ hT3 hp2
            refine ⟨k1, by omega, fun N n k acc hn hk => ?_⟩
            obtain ⟨k', rfl⟩ : ∃ k', k = k' + 1 := ⟨k - 1, by omega⟩
            obtain ⟨p, hv⟩ := g3 N n (by omega)
            obtain ⟨ps, hps⟩ := k3 N n k' (acc ++ [p]) (by omega) (by omega)
            refine ⟨ps, ?_⟩
            rw [elems, e, hv, Option.bind_some, skip_ws, e3, h44]
            show (match J.take 93 (44 :: b2 :: r2) with | some t => some (acc ++ [p], t) | none => (J.take 44 (44 :: b2 :: r2)).bind fun t => elems (val N n) k' (J.skip t) (acc ++ [p])) = _
            have n1 : J.take 93 (44 :: b2 :: r2) = none := rfl
            have n2 : J.take 44 (44 :: b2 :: r2) = some (b2 :: r2) := rfl
            rw [n1, n2]
            show elems (val N n) k' (J.skip (b2 :: r2)) (acc ++ [p]) = _
            rw [skip_ws]; exact hps
        · rw [if_neg h44] at h
          split at h
          · rename_i h93
            injection h with h; injection h with _ h; subst h
            obtain ⟨_, rfl⟩ := tk_one hw2 (e2.symm.trans e3) (by omega)
            refine ⟨hT3, by omega, fun N n k acc hn hk => ?_⟩
            obtain ⟨k', rfl⟩ : ∃ k', k = k' + 1 := ⟨k - 1, by omega⟩
            obtain ⟨p, hv⟩ := g3 N n (by omega)
            refine ⟨acc ++ [p], ?_⟩
            rw [elems, e, hv, Option.bind_some, skip_ws, e3, h93]
            rfl
          · cases h
    · rw [po] at h
      have hle := ws_le l
      rcases tk_ws hT with e | ⟨w, b, r0, hw, hb, hT2, e⟩
      · rw [e] at h; cases h
      obtain ⟨c, q, e'⟩ : ∃ c q, ws l = c :: q := by
        obtain ⟨c, t', rfl, _⟩ := tok_head hw
        exact ⟨_, _, e⟩
      rw [e'] at h hle
      simp only [List.length_cons] at hle
      simp only [] at h
      split at h
      case isFalse => cases h
      rename_i h34
      subst h34
      obtain ⟨kk, s1, s2⟩ := tk_str hw (e.symm.trans e')
      have sl2 := str_lt' s2
      rw [s1] at h
      simp only [] at h
      have hle1 := ws_le (b :: r0)
      rcases tk_ws hT2 with e2 | ⟨w2, b2, r2, hw2, hb2, hT3, e2⟩
      · rw [e2] at h; cases h
      obtain ⟨c2, q2, e3⟩ : ∃ c2 q2, ws (b :: r0) = c2 :: q2 := by
        obtain ⟨c, t', rfl, _⟩ := tok_head hw2
        exact ⟨_, _, e2⟩
      rw [e3] at h hle1
      simp only [List.length_cons] at hle1 sl2
      simp only [] at h
      split at h
      case isFalse => cases h
      rename_i h58
      obtain ⟨_, rfl⟩ := tk_one hw2 (e2.symm.trans e3) (by omega)
      have hle3 := ws_le (b2 :: r2)
      rcases tk_ws hT3 with e4 | ⟨w3, b3, r3, hw3, hb3, hT4, e4⟩
      · rw [e4] at h
        have : pv m d [] = none := by cases m <;> rw [pv]
        rw [this] at h; cases h
      rw [e4] at h hle3
      simp only [List.length_cons] at hle3
      cases hp : pv m d (w3 ++ b3 :: r3) with
      | none => rw [hp] at h; cases h
      | some x =>
        rw [hp] at h
        obtain ⟨g1, g2, g3⟩ := iv _ _ _ _ _ _ hw3 hb3 hT4 hp
        simp only [] at h
        have hle5 := ws_le x.2
        simp only [List.length_cons] at hle1
        rcases tk_ws g1 with e5 | ⟨w4, b4, r4, hw4, hb4, hT5, e5⟩
        · rw [e5] at h; cases h
        obtain ⟨c3, q3, e6⟩ : ∃ c3 q3, ws x.2 = c3 :: q3 := by
          obtain ⟨c, t', rfl, _⟩ := tok_head hw4
          exact ⟨_, _, e5⟩
        rw [e6] at h hle5
        simp only [List.length_cons] at hle5
        simp only [] at h
        have t34 : J.take 34 (34 :: q) = some q := by simp only [J.take, if_pos]
        have t58 : J.take 58 (c2 :: b2 :: r2) = some (b2 :: r2) := by rw [h58]; simp only [J.take, if_pos]
        by_cases h44 : c3 = 44
        · rw [if_pos h44] at h
          obtain ⟨_, rfl⟩ := tk_one hw4 (e5.symm.trans e6) (by omega)
          simp only [List.length_cons] at hle5
          cases hp2 : po m d (b4 :: r4) with
          | none => rw [hp2] at h; cases h
          | some y =>
            rw [hp2] at h
            injection h with h; injection h with _ h; subst h
            obtain ⟨k1, k2, k3⟩ := io _ _ _ _ hT5 hp2
            simp only [List.length_cons] at k2
            refine ⟨k1, by omega, fun N n k a1 a2 hn hk => ?_⟩
            obtain ⟨k', rfl⟩ : ∃ k', k = k' + 1 := ⟨k - 1, by omega⟩
            obtain ⟨p, hv⟩ := g3 N n (by omega)
            obtain ⟨ps, hps⟩ := k3 N n k' (a1 ++ [⟨pos N (34 :: q), pos N (b :: r0)⟩]) (a2 ++ [p]) (by simp only [List.length_cons]; omega) (by simp only [List.length_cons]; omega)
            refine ⟨ps, ?_⟩
            rw [mems, e', t34, Option.bind_some, s2, Option.bind_some, skip_ws, e3, t58, Option.bind_some, skip_ws, e4, hv, Option.bind_some]
            simp only [skip_ws]
            rw [e6, h44]
            have n1 : J.take 125 (44 :: b4 :: r4) = none := rfl
            have n2 : J.take 44 (44 :: b4 :: r4) = some (b4 :: r4) := rfl
            rw [n1, n2]
            show mems N (val N n) k' (ws (b4 :: r4)) _ _ = _
            exact hps
        · rw [if_neg h44] at h
          split at h
          · rename_i h125
            injection h with h; injection h with _ h; subst h
            obtain ⟨_, rfl⟩ := tk_one hw4 (e5.symm.trans e6) (by omega)
            simp only [List.length_cons] at hle5 ⊢
            refine ⟨hT5, by omega, fun N n k a1 a2 hn hk => ?_⟩
            obtain ⟨k', rfl⟩ : ∃ k', k = k' + 1 := ⟨k - 1, by omega⟩
            obtain ⟨p, hv⟩ := g3 N n (by omega)
            refine ⟨(a1 ++ [⟨pos N (34 :: q), pos N (b :: r0)⟩], a2 ++ [p]), ?_⟩
            rw [mems, e', t34, Option.bind_some, s2, Option.bind_some, skip_ws, e3, t58, Option.bind_some, skip_ws, e4, hv, Option.bind_some]
            simp only [skip_ws]
            rw [e6, h125]
            rfl
          · cases h
/-- What Parse takes of tokens is a JSON text. -/
theorem parse_text {l : L} (h : Tkn l) {t : T} (hp : parse0 l = some t) : ∃ p, text l = some p := by
  unfold parse0 at hp
  have hle := ws_le l
  rcases tk_ws h with e | ⟨w, b, r0, hw, hb, hT2, e⟩
  · exfalso
    rw [e, pv] at hp; cases hp
  · rw [e] at hp hle
    cases hv : pv (2 * (w ++ b :: r0).length + 2) 0 (w ++ b :: r0) with
    | none => rw [hv] at hp; cases hp
    | some x =>
      rw [hv] at hp
      simp only [] at hp
      split at hp
      case isFalse => cases hp
      rename_i hr
      obtain ⟨g1, g2, g3⟩ := (conv _).1 _ _ _ _ _ _ hw hb hT2 hv
      obtain ⟨p, hpp⟩ := g3 l.length (l.length + 1) (by omega)
      refine ⟨p, ?_⟩
      unfold text
      rw [skip_ws, e, hpp, Option.bind_some]
      simp only [skip_ws]
      rw [if_pos hr]
end Go.Proofs.YtcaigeikdnoheaaGreatDoor.Fp

set_option linter.unusedVariables false
set_option linter.unusedSimpArgs false
namespace Go.Proofs.YtcaigeikdnoheaaGreatDoor.Fp
open Go.RowKit Go.Proofs.YtcaigeikdnoheaaGreatDoorW.PrintWords Go.Proofs.YtcaigeikdnoheaaGreatDoor.Aid Go.Proofs.YtcaigeikdnoheaaGreatDoor.J

def brk (c : Int) : Bool := c == 91 || c == 123
def cnt (l : L) : Nat := l.countP brk
theorem cnt_suf {a b : L} (h : a <:+ b) : cnt a ≤ cnt b := h.sublist.countP_le
theorem cnt_cons (c : Int) (l : L) : cnt (c :: l) = cnt l + if brk c = true then 1 else 0 := List.countP_cons
theorem lvs_append : ∀ a b : List Pl, lvs (a ++ b) = max (lvs a) (lvs b)
  | [], b => by rw [List.nil_append, lvs]; omega
  | p :: a, b => by rw [List.cons_append, lvs_cons, lvs_cons, lvs_append a b]; omega
def Cnt (v : L → Option (Pl × L)) : Prop := ∀ l x, v l = some x → x.2 <:+ l ∧ lv x.1 + cnt x.2 ≤ cnt l + 1
theorem elems_cnt {v : L → Option (Pl × L)} (hv : Cnt v) : ∀ (m : Nat) (l : L) (acc : List Pl) (x : List Pl × L), elems v m l acc = some x → x.2 <:+ l ∧ lvs x.1 + cnt x.2 ≤ max (lvs acc + cnt x.2) (cnt l + 1)
  | 0, _, _, _, h => by simp [elems] at h
  | m + 1, l, acc, x, h => by
    simp only [elems] at h
    obtain ⟨y, hy, h⟩ := Option.bind_eq_some_iff.1 h
    obtain ⟨h1, h2⟩ := hv l y hy
    have h3 : lvs (acc ++ [y.1]) = max (lvs acc) (lv y.1) := by rw [lvs_append, lvs_cons]; rw [show lvs [] = 0 by rw [lvs]]; omega
    split at h
    · rename_i t ht
      injection h with h; subst h
      have q1 : t <:+ y.2 := (take_suf ht).trans (skip_suf _)
      have := cnt_suf q1
      exact ⟨q1.trans h1, by simp only []; omega⟩
    · obtain ⟨t, ht, h⟩ := Option.bind_eq_some_iff.1 h
      have q1 : skip t <:+ y.2 := (skip_suf t).trans ((take_suf ht).trans (skip_suf _))
      obtain ⟨h5, h6⟩ := elems_cnt hv m _ _ _ h
      have := cnt_suf q1
      have := cnt_suf (q1.trans h1)
      have := cnt_suf h5
      exact ⟨h5.trans (q1.trans h1), by omega⟩
theorem mems_cnt {N : Nat} {v : L → Option (Pl × L)} (hv : Cnt v) : ∀ (m : Nat) (l : L) (ns : List Sp) (ks : List Pl) (x : (List Sp × List Pl) × L), mems N v m l ns ks = some x → x.2 <:+ l ∧ lvs x.1.2 + cnt x.2 ≤ max (lvs ks + cnt x.2) (cnt l + 1)
  | 0, _, _, _, _, h => by simp [mems] at h
  | m + 1, l, ns, ks, x, h => by
    simp only [mems] at h
    obtain ⟨t, ht, h⟩ := Option.bind_eq_some_iff.1 h
    obtain ⟨l1, h1, h⟩ := Option.bind_eq_some_iff.1 h
    obtain ⟨l2, h2, h⟩ := Option.bind_eq_some_iff.1 h
    obtain ⟨y, hy, h⟩ := Option.bind_eq_some_iff.1 h
    have q3 : skip l2 <:+ l := (skip_suf _).trans ((take_suf h2).trans ((skip_suf _).trans ((str_suf h1).trans (take_suf ht))))
    obtain ⟨g1, g2⟩ := hv _ y hy
    have c3 := cnt_suf q3
    have h3 : lvs (ks ++ [y.1]) = max (lvs ks) (lv y.1) := by rw [lvs_append, lvs_cons]; rw [show lvs [] = 0 by rw [lvs]]; omega
    split at h
    · rename_i t2 ht2
      injection h with h; subst h
      have q1 : t2 <:+ y.2 := (take_suf ht2).trans (skip_suf _)
      have := cnt_suf q1
      exact ⟨q1.trans (g1.trans q3), by simp only []; omega⟩
    · obtain ⟨u, hu, h⟩ := Option.bind_eq_some_iff.1 h
      have q1 : skip u <:+ y.2 := (skip_suf _).trans ((take_suf hu).trans (skip_suf _))
      obtain ⟨h5, h6⟩ := mems_cnt hv m _ _ _ _ h
      have := cnt_suf q1
      have := cnt_suf (q1.trans g1)
      have := cnt_suf h5
      exact ⟨h5.trans (q1.trans (g1.trans q3)), by omega⟩
theorem val_cnt (N : Nat) : ∀ n, Cnt (val N n)
  | 0 => fun l x h => by simp [val] at h
  | n + 1 => fun l x h => by
    cases l with
    | nil => simp [val] at h
    | cons c t =>
      have htl : t <:+ c :: t := List.suffix_cons _ _
      have ct := cnt_suf htl
      have leaf : ∀ (k b e : Int) (r : L), r <:+ c :: t → r <:+ c :: t ∧ lv (⟨k, b, e, [], []⟩ : Pl) + cnt r ≤ cnt (c :: t) + 1 := fun k b e r hr => by
        have := cnt_suf hr
        rw [lv, lvs]; exact ⟨hr, by omega⟩
      simp only [val] at h
      split at h
      · rename_i hc
        obtain ⟨y, hy, rfl⟩ := Option.map_eq_some_iff.1 h
        show y.2 <:+ c :: t ∧ lv (⟨6, _, _, y.1.1, y.1.2⟩ : Pl) + cnt y.2 ≤ _
        have cc : cnt (c :: t) = cnt t + 1 := by rw [cnt_cons, hc]; rfl
        unfold obj at hy
        split at hy
        · rename_i t' ht'
          injection hy with hy; subst hy
          have hr : t' <:+ t := (take_suf ht').trans (skip_suf _)
          have := cnt_suf hr
          rw [lv, lvs]
          exact ⟨hr.trans htl, by simp only []; omega⟩
        · obtain ⟨h1, h2⟩ := mems_cnt (val_cnt N n) _ _ _ _ _ hy
          have hr : y.2 <:+ t := h1.trans (skip_suf _)
          have := cnt_suf hr
          have := cnt_suf (skip_suf t)
          rw [show lvs [] = 0 by rw [lvs]] at h2
          rw [lv]
          exact ⟨hr.trans htl, by omega⟩
      split at h
      · rename_i hc
        obtain ⟨y, hy, rfl⟩ := Option.map_eq_some_iff.1 h
        show y.2 <:+ c :: t ∧ lv (⟨5, _, _, [], y.1⟩ : Pl) + cnt y.2 ≤ _
        have cc : cnt (c :: t) = cnt t + 1 := by rw [cnt_cons, hc]; rfl
        unfold arr at hy
        split at hy
        · rename_i t' ht'
          injection hy with hy; subst hy
          have hr : t' <:+ t := (take_suf ht').trans (skip_suf _)
          have := cnt_suf hr
          rw [lv, lvs]
          exact ⟨hr.trans htl, by simp only []; omega⟩
        · obtain ⟨h1, h2⟩ := elems_cnt (val_cnt N n) _ _ _ _ hy
          have hr : y.2 <:+ t := h1.trans (skip_suf _)
          have := cnt_suf hr
          have := cnt_suf (skip_suf t)
          rw [show lvs [] = 0 by rw [lvs]] at h2
          rw [lv]
          exact ⟨hr.trans htl, by omega⟩
      split at h
      · obtain ⟨r, hr, rfl⟩ := Option.map_eq_some_iff.1 h
        exact leaf _ _ _ r ((str_suf hr).trans htl)
      split at h
      · obtain ⟨r, hr, rfl⟩ := Option.map_eq_some_iff.1 h
        exact leaf _ _ _ r (num_suf hr)
      split at h
      · rename_i r hr; injection h with h; subst h; exact leaf _ _ _ r (word_suf hr)
      split at h
      · rename_i r hr; injection h with h; subst h; exact leaf _ _ _ r (word_suf hr)
      split at h
      · rename_i r hr; injection h with h; subst h; exact leaf _ _ _ r (word_suf hr)
      · cases h
theorem text_cnt {l : L} {p : Pl} (h : text l = some p) : lv p ≤ cnt l + 1 := by
  unfold text at h
  obtain ⟨x, hx, h⟩ := Option.bind_eq_some_iff.1 h
  split at h
  · injection h with h; subst h
    have := (val_cnt _ _ _ _ hx).2
    have := cnt_suf (skip_suf l)
    omega
  · cases h
end Go.Proofs.YtcaigeikdnoheaaGreatDoor.Fp

set_option linter.unusedVariables false
set_option linter.unusedSimpArgs false
namespace Go.Proofs.YtcaigeikdnoheaaGreatDoor.Fp
open Go.RowKit Go.Proofs.YtcaigeikdnoheaaGreatDoorW.PrintWords Go.Proofs.YtcaigeikdnoheaaGreatDoor.Aid Go.Proofs.YtcaigeikdnoheaaGreatDoor.J

def bls : List L := [[32], [10], [9, 32], [13, 10]]
def tokAt (k : Nat) : L := toks.getD (k % 16 % 15) []
def blAt (k : Nat) : L := bls.getD (k / 16 % 4) []
/-- The text of the tokens with these numbers. -/
def runs (l : List Nat) : L := l.flatMap fun k => tokAt k ++ blAt k
theorem runs_cons (k : Nat) (l : List Nat) : runs (k :: l) = tokAt k ++ (blAt k ++ runs l) := by simp [runs]
theorem runs_snoc (l : List Nat) (k : Nat) : runs (l ++ [k]) = runs l ++ (tokAt k ++ blAt k) := by simp [runs]
theorem tokAt_mem (k : Nat) : tokAt k ∈ toks := by
  unfold tokAt
  have h : k % 16 % 15 < toks.length := Nat.mod_lt _ (by decide)
  rw [List.getD_eq_getElem?_getD, List.getElem?_eq_getElem h]
  exact List.getElem_mem h
theorem blAt_cases (k : Nat) : blAt k = [32] ∨ blAt k = [10] ∨ blAt k = [9, 32] ∨ blAt k = [13, 10] := by
  unfold blAt
  have h : k / 16 % 4 < 4 := Nat.mod_lt _ (by decide)
  generalize k / 16 % 4 = m at h ⊢
  rcases m with _ | _ | _ | _ | m
  · exact .inl rfl
  · exact .inr (.inl rfl)
  · exact .inr (.inr (.inl rfl))
  · exact .inr (.inr (.inr rfl))
  · omega
theorem runs_tk : ∀ l : List Nat, Tkn (runs l)
  | [] => .nil
  | k :: l => by
    have h := runs_tk l
    rw [runs_cons]
    rcases blAt_cases k with e | e | e | e <;> rw [e]
    · exact .tok (tokAt_mem k) rfl (.blank rfl h)
    · exact .tok (tokAt_mem k) rfl (.blank rfl h)
    · exact .tok (tokAt_mem k) rfl (.blank rfl (.blank rfl h))
    · exact .tok (tokAt_mem k) rfl (.blank rfl (.blank rfl h))
theorem cnt_append (a b : L) : cnt (a ++ b) = cnt a + cnt b := List.countP_append
theorem tok_facts : ∀ w ∈ toks, w.length ≤ 5 ∧ cnt w ≤ 1 ∧ (∀ c ∈ w, c ≠ 92) ∧ (∀ c ∈ w, 0 ≤ c ∧ c < 256) := by
  intro w h
  rcases toks_cases h with rfl | rfl | rfl | rfl | rfl | rfl | rfl | rfl | rfl | rfl | rfl | rfl | rfl | rfl | rfl <;> decide
theorem bl_facts (k : Nat) : (blAt k).length ≤ 2 ∧ cnt (blAt k) = 0 ∧ (∀ c ∈ blAt k, c ≠ 92) ∧ (∀ c ∈ blAt k, 0 ≤ c ∧ c < 256) := by
  rcases blAt_cases k with e | e | e | e <;> rw [e] <;> decide
theorem runs_facts : ∀ l : List Nat, (runs l).length ≤ 7 * l.length ∧ cnt (runs l) ≤ l.length ∧ (∀ c ∈ runs l, c ≠ 92) ∧ (∀ c ∈ runs l, 0 ≤ c ∧ c < 256)
  | [] => ⟨Nat.le_refl _, Nat.le_refl _, (fun c h => by cases h), (fun c h => by cases h)⟩
  | k :: l => by
    obtain ⟨h1, h2, h3, h4⟩ := runs_facts l
    obtain ⟨a1, a2, a3, a4⟩ := tok_facts _ (tokAt_mem k)
    obtain ⟨b1, b2, b3, b4⟩ := bl_facts k
    rw [runs_cons]
    refine ⟨by simp only [List.length_append, List.length_cons]; omega, by rw [cnt_append, cnt_append, List.length_cons]; omega, fun c hc => ?_, fun c hc => ?_⟩
    · rcases List.mem_append.1 hc with hc | hc
      · exact a3 c hc
      rcases List.mem_append.1 hc with hc | hc
      · exact b3 c hc
      · exact h3 c hc
    · rcases List.mem_append.1 hc with hc | hc
      · exact a4 c hc
      rcases List.mem_append.1 hc with hc | hc
      · exact b4 c hc
      · exact h4 c hc
theorem runs_prd (l : List Nat) : prd (runs l) = true := by
  have := prd_run (p := runs l) (runs_facts l).2.2.1 []
  rw [List.append_nil] at this
  rw [this, prd]
/-- Parse takes of tokens what the reference takes, to the same tree. -/
theorem runs_read {s : ByteArray} {l : List Nat} (h : bytesOf s = runs l) (hl : l.length ≤ 200) :
    (∀ x, readT s = some x → ∃ t, parse0 (bytesOf s) = some t ∧ okN t ∧ tn t = x) ∧ (readT s = none → parse0 (bytesOf s) = none) := by
  obtain ⟨h1, h2, h3, h4⟩ := runs_facts l
  refine ⟨fun x hx => read_fj hx (by rw [h]; exact runs_prd l) (fun p hp => ?_), fun hx => ?_⟩
  · rw [h] at hp
    have := text_cnt hp
    omega
  · unfold readT at hx
    rw [Option.map_eq_none_iff] at hx
    cases hp : parse0 (bytesOf s) with
    | none => rfl
    | some t =>
      rw [h] at hp hx
      obtain ⟨p, hp⟩ := parse_text (runs_tk l) hp
      rw [hp] at hx; cases hx
end Go.Proofs.YtcaigeikdnoheaaGreatDoor.Fp
