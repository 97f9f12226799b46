/- Several texts in one. -/
import Derived.Test.YtalcjolomigedaaDoorZFp5
import Derived.Test.YtalcjolomigedaaDoorZGg
import Derived.Test.YtalcjolomigedaaDoorZGk
import Derived.Test.YtalcjolomigedaaDoorZGj
import Derived.Test.YtalcjolomigedaaDoorZGf
import Derived.Test.YtalcjolomigedaaDoorZShelf
import Derived.Lib.AtoiErrMem
set_option linter.unusedVariables false
set_option linter.unusedSimpArgs false
namespace Go.Proofs.YtalcjolomigedaaDoor.Fp
open Go.RowKit Go.Proofs.YtalcjolomigedaaDoorW.PrintWords Go.Proofs.YtalcjolomigedaaDoorW.PrintLast Go.Proofs.YtalcjolomigedaaDoorW.PrintMore Go.Proofs.YtalcjolomigedaaDoor.Aid Go.Proofs.YtalcjolomigedaaDoor.J

/-- But cells in P, all of them new since w0, nothing of W has turned; blocks stay what they are. -/
structure Ch (w0 : World) (P : Nat → Nat → Prop) (W W' : World) : Prop where
  os : W'.os = W.os
  tape : W'.tape = W.tape
  output : W'.output = W.output
  size : W.heap.size ≤ W'.heap.size
  low : ∀ i, i < w0.heap.size → W'.heap[i]? = W.heap[i]?
  cell : ∀ i j, i < W.heap.size → ¬ P i j → W'.cell? ⟨i, j, none⟩ = W.cell? ⟨i, j, none⟩
  ty : ∀ i t, ty W i t → ty W' i t
section
variable {w0 W W1 W2 : World} {P : Nat → Nat → Prop}
theorem Ch.refl (w0 : World) (P : Nat → Nat → Prop) (W : World) : Ch w0 P W W := ⟨rfl, rfl, rfl, Nat.le_refl _, fun _ _ => rfl, fun _ _ _ _ => rfl, fun _ _ h => h⟩
theorem Ch.below (h : Ch w0 P W W1) (hl : w0.heap.size ≤ W.heap.size) (k : Below W1.heap.size W1 W2) : Ch w0 P W W2 :=
  ⟨k.os.trans h.os, k.tape.trans h.tape, k.output.trans h.output, Nat.le_trans h.size k.size, fun i hi => (k.block i (by have := h.size; omega)).trans (h.low i hi),
    fun i j hi hp => (k.cell (p := ⟨i, j, none⟩) (Nat.lt_of_lt_of_le hi h.size)).trans (h.cell i j hi hp), fun i t ht => (h.ty i t ht).below k⟩
theorem Ch.set (h : Ch w0 P W W1) {i j : Nat} (hp : P i j) (hl : w0.heap.size ≤ i) (u : Value) : Ch w0 P W (W1.setCell ⟨i, j, none⟩ u) :=
  ⟨h.os, h.tape, h.output, by simpa [World.setCell] using h.size, fun k hk => (Below.heap_setCell W1 ⟨i, j, none⟩ u k (by show k ≠ i; omega)).trans (h.low k hk),
    fun k m hk hn => (World.cell?_setCell_other _ _ _ _ (fun e => by injection e with e1 e2 _; exact hn (by rw [← e1, ← e2]; exact hp))).trans (h.cell k m hk hn), fun k t ht => (h.ty k t ht).set _ _ _⟩
theorem Ch.trans {W3 : World} (h : Ch w0 P W W1) (k : Ch w0 P W1 W3) : Ch w0 P W W3 :=
  ⟨k.os.trans h.os, k.tape.trans h.tape, k.output.trans h.output, Nat.le_trans h.size k.size, fun i hi => (k.low i hi).trans (h.low i hi), fun i j hi hp => (k.cell i j (Nat.lt_of_lt_of_le hi h.size) hp).trans (h.cell i j hi hp), fun i t ht => k.ty i t (h.ty i t ht)⟩
theorem Ch.bel (h : Ch w0 P W W1) (hb : Below w0.heap.size w0 W) : Below w0.heap.size w0 W1 :=
  ⟨h.os.trans hb.os, h.tape.trans hb.tape, h.output.trans hb.output, Nat.le_trans hb.size h.size, fun i hi => (h.low i hi).trans (hb.block i hi)⟩
theorem Ch.mono {P' : Nat → Nat → Prop} (h : Ch w0 P W W1) (hp : ∀ i j, P i j → P' i j) : Ch w0 P' W W1 := ⟨h.os, h.tape, h.output, h.size, h.low, fun i j hi hn => h.cell i j hi (fun q => hn (hp i j q)), h.ty⟩
/-- Trees without cells in P stay. -/
theorem Ch.keep (h : Ch w0 P W W1) {O : Nat → Nat → Prop} (hO : ∀ i j, O i j → i < W.heap.size ∧ w0.heap.size ≤ i ∧ ¬ P i j) : Keep W O W1 (In2 w0 W1) := fun i j q => by
  obtain ⟨a, b, c⟩ := hO i j q
  exact ⟨⟨Nat.lt_of_lt_of_le a h.size, b⟩, h.cell i j a c, fun t ht => h.ty i t ht⟩
end
theorem okO_raw : ∀ {l : OL}, okO l → ∀ a ∈ l.raws, Rg a
  | .nil, _, a, h => by cases h
  | .cons b t l, ho, a, h => by
    rw [okO] at ho
    rcases List.mem_cons.1 h with rfl | h
    · exact ho.1.1
    · exact okO_raw ho.2 a h
theorem ty.cellfz {W : World} {b t : Nat} (h : ty W b t) (j : Nat) : W.frozen? ⟨b, j, none⟩ = false := by
  obtain ⟨Z, h⟩ := h
  exact blk_frozen h j
theorem ty.ne {W : World} {b c t u : Nat} (h : ty W b t) (k : ty W c u) (hn : t ≠ u) : b ≠ c := by
  rintro rfl
  obtain ⟨Z, h⟩ := h
  obtain ⟨Y, k⟩ := k
  rw [h] at k
  injection k with k; injection k with _ k _
  exact hn k
/-- What stands at a place of an object's row. -/
theorem repO_get {W : World} {O : Nat → Nat → Prop} {g : Nat} : ∀ {l : OL} {i0 : Nat}, repO W O l g i0 → ∀ i, i < l.len → ty W g tKv ∧ ∃ a t, l.raws[i]? = some a ∧ l.at? i = some t ∧ (W.cell? ⟨g, 2 * (i0 + i), none⟩ = some (.string (strOfNums a)) ∧ O g (2 * (i0 + i))) ∧
    ∃ b o, (W.cell? ⟨g, 2 * (i0 + i) + 1, none⟩ = some (.pointer (some ⟨b, o, none⟩)) ∧ O g (2 * (i0 + i) + 1)) ∧ rep W (fun x y => O x y ∧ x ≠ g) t b o
  | .nil, i0, h, i, hi => by rw [OL.len] at hi; omega
  | .cons a t l, i0, h, 0, hi => by
    rw [repO] at h
    obtain ⟨⟨h0, h1, b, o, h2, h3⟩, _⟩ := h
    exact ⟨h0, a, t, rfl, rfl, h1, b, o, h2, h3⟩
  | .cons a t l, i0, h, i + 1, hi => by
    rw [repO] at h
    rw [OL.len] at hi
    have := repO_get h.2 i (by omega)
    rw [show i0 + 1 + i = i0 + (i + 1) by omega] at this
    exact this
def PL (g n : Nat) (i j : Nat) : Prop := i = g ∧ j % 2 = 0 ∧ j < 2 * n
/-- An object's cells that unescaping writes. -/
def PK (b o g n : Nat) (i j : Nat) : Prop := (i = g ∧ j % 2 = 0 ∧ j < 2 * n) ∨ (i = b ∧ j = o + 1)

set_option maxHeartbeats 8000000 in
set_option maxRecDepth 100000 in
theorem unescapeKeys_any (w0 W : World) (b o g c : Nat) (ks : List L) (hE : ErrV w0) (hbel : Below w0.heap.size w0 W) (hb : w0.heap.size ≤ b) (hv : ty W b tV)
    (h1 : W.cell? ⟨b, o + 1, none⟩ = some (.bool false)) (h0 : W.cell? ⟨b, o, none⟩ = some (slc g ks.length c))
    (hk : ∀ i a, ks[i]? = some a → (w0.heap.size ≤ g ∧ ty W g tKv ∧ g < W.heap.size) ∧ W.cell? ⟨g, 2 * i, none⟩ = some (.string (strOfNums a)) ∧ (Rg a ∧ a.length ≤ 100000 ∧ J.lone a = false)) (hn : ks.length ≤ 2147483647) :
    Calls Tryd.prog 101 #[.pointer (some ⟨b, o, none⟩)] W fun e W' => e = .returned (.tuple #[]) ∧ Ch w0 (PK b o g ks.length) W W' ∧ ∀ i a, ks[i]? = some a → W'.cell? ⟨g, 2 * i, none⟩ = some (.string (strOfNums (kp a))) := by
  have f1 := hv.cellfz (o + 1)
  have HV := Lib.hid hv
  have HK := Lib.hid hk
  have HB := Lib.hid hbel
  have HE := Lib.hid hE
  have HL := Lib.hid hb
  obtain ⟨n, hn0⟩ : ∃ n, n = ks.length := ⟨_, rfl⟩
  rw [← hn0] at h0 hn ⊢
  have HN := Lib.hid hn0
  obtain ⟨base, cc, hsl⟩ : ∃ base cc, slc g n c = .slice base n cc := by
    unfold slc
    by_cases h : n = 0
    · rw [if_pos h, h]; exact ⟨_, _, rfl⟩
    · rw [if_neg h]; exact ⟨_, _, rfl⟩
  rw [hsl] at h0
  have HS := Lib.hid hsl
  clear hv hk hbel hE hb hn0 hsl
  go_enter Tryd.func101, Tryd.ntmps101
  go_wp2
  go_loopg [15] n (fun kq v15 w' => Hid (∃ i : Nat, v15 = .int .i64 (i : Nat) ∧ i + kq = n ∧ Ch w0 (PL g n) W w' ∧ (∀ j a, j < i → ks[j]? = some a → w'.cell? ⟨g, j * 2, none⟩ = some (.string (strOfNums (kp a)))) ∧ (∀ j a, i ≤ j → ks[j]? = some a → w'.cell? ⟨g, j * 2, none⟩ = some (.string (strOfNums a)))))
  case atStart => exact Lib.hid ⟨0, rfl, by omega, Ch.refl _ _ _, fun j a hj => by omega, fun j a _ hj => by rw [Nat.mul_comm]; exact (HK.out j a hj).2.1⟩
  case round =>
    obtain ⟨i, rfl, hik, hch, hlo, hhi⟩ := hrel.out
    clear hrel
    rcases Nat.lt_or_ge i n with hii | hii
    · obtain ⟨a, ha⟩ : ∃ a, ks[i]? = some a := ⟨_, List.getElem?_eq_getElem (by rw [← HN.out]; exact hii)⟩
      obtain ⟨⟨hg0, hgt, hgl⟩, _, hRa, hla, hlone⟩ := HK.out i a ha
      have hbase : base = some ⟨g, 0, none⟩ := by
        have := HS.out
        unfold slc at this
        rw [if_neg (by omega)] at this
        injection this with e; exact e.symm
      subst hbase
      have e0 := hhi i a (Nat.le_refl _) ha
      have tg := hch.ty g tKv hgt
      have fz := tg.cellfz (i * 2)
      have HEW := HE.out.below (hch.bel HB.out)
      have HU := Lib.hid (kept_walk (strOfNums a) wr (by rw [sz_of]; exact hla) (by rw [bytes_of_str a hRa]; exact hlone) HEW)
      rw [bytes_of_str a hRa] at HU
      obtain ⟨s, hs⟩ : ∃ s, s = strOfNums a := ⟨_, rfl⟩
      obtain ⟨q, hq⟩ : ∃ q, q = strOfNums (kp a) := ⟨_, rfl⟩
      rw [← hs] at e0 HU
      rw [← hq] at HU
      have HQ := Lib.hid hq
      have HX := Lib.hid (And.intro hik (And.intro hch (And.intro hlo hhi)))
      have HA := Lib.hid ha
      have HT := Lib.hid tg
      have HG := Lib.hid (And.intro hg0 hgl)
      clear hik hch hlo hhi ha hRa hla hlone hs hq tg hgt hg0 hgl HEW
      go_wp2_with (go_at_call 41; refine HU.out.mono ?_; rintro e w1 ⟨rfl, hb⟩; have HB1 := Lib.hid hb; have e1 := pw_cell_below hb e0; have fz1 := (HT.out.below hb).cellfz (i * 2); clear hb)
      go_roundg (n - (i + 1))
      case rel =>
        obtain ⟨hik, hch, hlo, hhi⟩ := HX.out
        have hgw : g < wr.heap.size := Nat.lt_of_lt_of_le HG.out.2 hch.size
        have oth : ∀ j, j ≠ i → (w1.setCell ⟨g, i * 2, none⟩ (.string q)).cell? ⟨g, j * 2, none⟩ = wr.cell? ⟨g, j * 2, none⟩ := fun j hj => (World.cell?_setCell_other _ _ _ _ (fun e => by injection e with _ e _; omega)).trans (HB1.out.cell (p := ⟨g, j * 2, none⟩) hgw)
        exact Lib.hid ⟨i + 1, by go_num, by omega, (hch.below HB.out.size HB1.out).set ⟨rfl, by omega, by omega⟩ HG.out.1 _, fun j a hj ha => by
          by_cases hji : j = i
          · subst hji
            rw [HA.out] at ha
            injection ha with ha; subst ha
            rw [← HQ.out]
            exact World.cell?_setCell_same' _ _ _ (by rw [e1]; rfl)
          · rw [oth j hji]; exact hlo j a (by omega) ha, fun j a hj ha => by
          rw [oth j (by omega)]; exact hhi j a (by omega) ha⟩
      case measure => have := HX.out.1; omega
    · obtain rfl : i = n := by omega
      have HX := Lib.hid (And.intro hch hlo)
      have HT := Lib.hid (hch.ty b tV HV.out)
      have fb := HT.out.cellfz (o + 1)
      have hbl : b < W.heap.size := HV.out.lt
      have hbg : ∀ j, ¬ (PL g i b j) := fun j h => by
        obtain ⟨rfl, _, h3⟩ := h
        obtain ⟨a, ha⟩ : ∃ a, ks[0]? = some a := ⟨_, List.getElem?_eq_getElem (by rw [← HN.out]; omega)⟩
        exact HV.out.ne (HK.out 0 a ha).1.2.1 (by decide) rfl
      have hu : wr.cell? ⟨b, o + 1, none⟩ = some (.bool false) := (hch.cell b (o + 1) hbl (hbg _)).trans h1
      have HBG := Lib.hid hbg
      clear hch hlo hhi hbg
      go_wp2
      go_end0
      refine ⟨rfl, (HX.out.1.mono fun x y h => .inl h).set (.inr ⟨rfl, rfl⟩) HL.out _, fun j a ha => ?_⟩
      have hji : j < i := by
        have := (List.getElem?_eq_some_iff.1 ha).1
        rw [← HN.out] at this; exact this
      have hne : b ≠ g := fun e => HBG.out 0 ⟨e, rfl, by omega⟩
      rw [World.cell?_setCell_other _ _ _ _ (fun e => by injection e with e _ _; exact hne e), Nat.mul_comm]
      exact HX.out.2 j a hji ha
/-- What Object.Get hands back: the pointer beside the name, or none. -/
def gptr (W : World) (g : Nat) (r : Option Nat) (v : Value) : Prop := match r with
  | some i => ∃ tb tq, W.cell? ⟨g, 2 * i + 1, none⟩ = some (.pointer (some ⟨tb, tq, none⟩)) ∧ v = .pointer (some ⟨tb, tq, none⟩)
  | none => v = .pointer none
set_option maxHeartbeats 8000000 in
set_option maxRecDepth 100000 in
theorem objGet_any (w0 W : World) (b o g c : Nat) (l : OL) (k : ByteArray) (hE : ErrV w0) (hbel : Below w0.heap.size w0 W) (hb : w0.heap.size ≤ b) (hv : ty W b tV)
    (h1 : W.cell? ⟨b, o + 1, none⟩ = some (.bool false)) (h0 : W.cell? ⟨b, o, none⟩ = some (slc g l.len c)) (hr : repO W (In2 w0 W) l g 0) (hN : okNO l) (hO : okO l) (hla : ∀ a ∈ l.raws, a.length ≤ 100000) (hn : l.len ≤ 2147483647) :
    Calls Tryd.prog 83 #[.pointer (some ⟨b, o, none⟩), .string k] W fun e W' => (∃ v, e = .returned v ∧ gptr W g (ogi l.raws k) v) ∧ Ch w0 (PK b o g l.len) W W' := by
  have hks : ∀ i a, l.raws[i]? = some a → (w0.heap.size ≤ g ∧ ty W g tKv ∧ g < W.heap.size) ∧ W.cell? ⟨g, 2 * i, none⟩ = some (.string (strOfNums a)) ∧ (Rg a ∧ a.length ≤ 100000 ∧ J.lone a = false) := fun i a ha => by
    have hil := (List.getElem?_eq_some_iff.1 ha).1
    rw [raws_len] at hil
    obtain ⟨q0, a', t, q1, q2, q3, _⟩ := repO_get hr i hil
    rw [q1] at ha
    injection ha with ha; subst ha
    have hm := List.mem_of_getElem? q1
    rw [Nat.zero_add] at q3
    exact ⟨⟨q3.2.2, q0, q3.2.1⟩, q3.1, okO_raw hO _ hm, hla _ hm, raw_lone (okNO_raw hN _ hm)⟩
  have hU := unescapeKeys_any w0 W b o g c l.raws hE hbel hb hv h1 (by rw [raws_len]; exact h0) hks (by rw [raws_len]; exact hn)
  rw [raws_len] at hU
  have HU := Lib.hid hU
  have HK := Lib.hid hks
  have HR := Lib.hid hr
  have HV := Lib.hid hv
  have HLN := Lib.hid (raws_len l)
  obtain ⟨n, hn0⟩ : ∃ n, n = l.len := ⟨_, rfl⟩
  rw [← hn0] at h0 hn HU HLN ⊢
  have HN := Lib.hid hn0
  obtain ⟨base, cc, hsl⟩ : ∃ base cc, slc g n c = .slice base n cc := by
    unfold slc
    by_cases h : n = 0
    · rw [if_pos h, h]; exact ⟨_, _, rfl⟩
    · rw [if_neg h]; exact ⟨_, _, rfl⟩
  rw [hsl] at h0
  have HS := Lib.hid hsl
  have HBL := Lib.hid hv.lt
  have hgb : 0 < n → b ≠ g := fun hp0 => by
    obtain ⟨q0, _⟩ := repO_get hr 0 (by omega)
    exact hv.ne q0 (by decide)
  have HGB := Lib.hid (show 0 < n → g = b → False from fun hp0 e => hgb hp0 e.symm)
  have HBP := Lib.hid (show ¬ PK b o g n b o from fun h => by
    rcases h with ⟨h1, _, h2⟩ | ⟨_, h⟩
    · exact hgb (by omega) h1
    · omega)
  have HIX := Lib.hid (fun W => Tryd.strings_IndexByte k 92 W)
  clear hv hbel hE hb hn0 hsl hr hN hO hla hks hU hgb
  rcases index_bs k with ⟨p, r, hp, hnp, hix⟩ | ⟨hno, hix⟩
  · have h92 : 92 ∈ bytesOf k := by rw [hp]; simp
    rw [hix] at HIX
    obtain ⟨m, hm⟩ : ∃ m, m = p.length := ⟨_, rfl⟩
    rw [← hm] at HIX
    have d0 : decide ((m : Int) < 0) = false := decide_eq_false (by omega)
    have OGS := Lib.hid (show ogi l.raws k = fidx k (l.raws.map fun a => strOfNums (kp a)) by unfold ogi; rw [if_pos h92])
    clear hp hnp hix hm h92
    go_enter Tryd.func83, Tryd.ntmps83
    go_wp2_with (first
      | (go_at_call 63; refine (HIX.out _).mono ?_; rintro e w1 ⟨rfl, hw⟩; replace hw := hw.symm; subst hw)
      | (go_at_call 101; refine HU.out.mono ?_; rintro e w2 ⟨rfl, hch, hky⟩; have c02 := (hch.cell b o HBL.out HBP.out).trans h0; have HC := Lib.hid hch; have HY := Lib.hid hky; clear hch hky))
    go_loopg [52] n (fun kq v w' => Hid (∃ i : Nat, v = .int .i64 (i : Nat) ∧ i + kq = n ∧ (∀ j, j < i → (l.raws.map fun a => strOfNums (kp a))[j]? ≠ some k) ∧ w' = w2))
    case atStart => exact Lib.hid ⟨0, rfl, by omega, fun j hj => by omega, rfl⟩
    case round =>
      obtain ⟨i, rfl, hik, hne, hw⟩ := hrel.out
      replace hw := hw.symm
      subst hw
      clear hrel
      rcases Nat.lt_or_ge i n with hii | hii
      · obtain ⟨q0, a, t, q1, q2, q3, tb, tq, q4, q5⟩ := repO_get HR.out i (by rw [← HN.out]; exact hii)
        rw [Nat.zero_add] at q4 q3
        have hbase : base = some ⟨g, 0, none⟩ := by
          have := HS.out
          unfold slc at this
          rw [if_neg (by omega)] at this
          injection this with e; exact e.symm
        subst hbase
        have hgw : g < W.heap.size := q3.2.1
        have e0 := HY.out i a q1
        have e1 := (HC.out.cell g (2 * i + 1) hgw (fun h => by rcases h with ⟨_, h, _⟩ | ⟨h, _⟩; omega; exact HGB.out (by omega) h)).trans q4.1
        rw [Nat.mul_comm] at e0 e1
        have hgk : (l.raws.map fun a => strOfNums (kp a))[i]? = some (strOfNums (kp a)) := by rw [List.getElem?_map, q1]; rfl
        obtain ⟨y, hy⟩ : ∃ y, y = strOfNums (kp a) := ⟨_, rfl⟩
        rw [← hy] at e0 hgk
        have HX := Lib.hid (And.intro hik (And.intro hne (And.intro hgk q4.1)))
        clear hik hne hgk hy q0 q1 q2 q3 q4 q5
        by_cases e : y = k
        · have b1 : (y.toList == k.toList) = true := by rw [e]; simp
          have HEQ := Lib.hid e
          clear e
          go_wp2
          go_ret
          obtain ⟨_, x2, x3, x4⟩ := HX.out
          exact ⟨⟨_, rfl, by rw [OGS.out, fidx_hit x2 (x3.trans (by rw [HEQ.out]))]; exact ⟨tb, tq, x4, rfl⟩⟩, HC.out⟩
        · have b1 : (y.toList == k.toList) = false := by
            rw [beq_eq_false_iff_ne]; exact fun h => e ((beq_toList y k).1 h)
          have HEQ := Lib.hid e
          clear e
          go_wp2
          go_roundg (n - (i + 1))
          case rel => exact Lib.hid ⟨i + 1, by go_num, by omega, fun j hj h => by
            obtain ⟨_, x2, x3, _⟩ := HX.out
            rcases Nat.lt_or_ge j i with hji | hji
            · exact x2 j hji h
            · obtain rfl : j = i := by omega
              rw [x3] at h
              exact HEQ.out (Option.some.inj h), rfl⟩
          case measure => have := HX.out.1; omega
      · obtain rfl : n = i := by omega
        have HX := Lib.hid hne
        clear hne hik
        go_wp2
        go_ret
        exact ⟨⟨_, rfl, by rw [OGS.out, fidx_miss (by rw [List.length_map, HLN.out]; exact HX.out)]; exact rfl⟩, HC.out⟩
  · rw [hix] at HIX
    have HNO := Lib.hid hno
    clear hno hix
    go_enter Tryd.func83, Tryd.ntmps83
    go_wp2_with (go_at_call 63; refine (HIX.out _).mono ?_; rintro e w1 ⟨rfl, hw⟩; replace hw := hw.symm; subst hw)
    go_loopg [27] n (fun kq v w' => Hid (∃ i : Nat, v = .int .i64 (i : Nat) ∧ i + kq = n ∧ (∀ j, j < i → (l.raws.map strOfNums)[j]? ≠ some k) ∧ w' = W))
    case atStart => exact Lib.hid ⟨0, rfl, by omega, fun j hj => by omega, rfl⟩
    case round =>
      obtain ⟨i, rfl, hik, hne, hw⟩ := hrel.out
      replace hw := hw.symm
      subst hw
      clear hrel
      rcases Nat.lt_or_ge i n with hii | hii
      · obtain ⟨q0, a, t, q1, q2, q3, tb, tq, q4, q5⟩ := repO_get HR.out i (by rw [← HN.out]; exact hii)
        rw [Nat.zero_add] at q4 q3
        have hbase : base = some ⟨g, 0, none⟩ := by
          have := HS.out
          unfold slc at this
          rw [if_neg (by omega)] at this
          injection this with e; exact e.symm
        subst hbase
        have e0 := q3.1
        have e1 := q4.1
        rw [Nat.mul_comm] at e0 e1
        have hgk : (l.raws.map strOfNums)[i]? = some (strOfNums a) := by rw [List.getElem?_map, q1]; rfl
        obtain ⟨y, hy⟩ : ∃ y, y = strOfNums a := ⟨_, rfl⟩
        rw [← hy] at e0 hgk
        have HX := Lib.hid (And.intro hik (And.intro hne (And.intro hgk q4.1)))
        clear hik hne hgk hy q0 q1 q2 q3 q4 q5
        by_cases e : y = k
        · have b1 : (y.toList == k.toList) = true := by rw [e]; simp
          have HEQ := Lib.hid e
          clear e
          go_wp2
          go_ret
          obtain ⟨_, x2, x3, x4⟩ := HX.out
          exact ⟨⟨_, rfl, by unfold ogi; rw [if_neg HNO.out, fidx_hit x2 (x3.trans (by rw [HEQ.out]))]; exact ⟨tb, tq, x4, rfl⟩⟩, Ch.refl _ _ _⟩
        · have b1 : (y.toList == k.toList) = false := by
            rw [beq_eq_false_iff_ne]; exact fun h => e ((beq_toList y k).1 h)
          have HEQ := Lib.hid e
          clear e
          go_wp2
          go_roundg (n - (i + 1))
          case rel => exact Lib.hid ⟨i + 1, by go_num, by omega, fun j hj h => by
            obtain ⟨_, x2, x3, _⟩ := HX.out
            rcases Nat.lt_or_ge j i with hji | hji
            · exact x2 j hji h
            · obtain rfl : j = i := by omega
              rw [x3] at h
              exact HEQ.out (Option.some.inj h), rfl⟩
          case measure => have := HX.out.1; omega
      · obtain rfl : n = i := by omega
        have HX := Lib.hid hne
        clear hne hik
        have OGS := Lib.hid (show ogi l.raws k = fidx k (l.raws.map fun a => strOfNums (kp a)) by unfold ogi; rw [if_neg HNO.out, fidx_miss (by rw [List.length_map, HLN.out]; exact HX.out)])
        go_wp2_with (go_at_call 101; refine HU.out.mono ?_; rintro e w2 ⟨rfl, hch, hky⟩; have c02 := (hch.cell b o HBL.out HBP.out).trans h0; have HC := Lib.hid hch; have HY := Lib.hid hky; clear hch hky)
        go_loopg [52] n (fun kq v w' => Hid (∃ i : Nat, v = .int .i64 (i : Nat) ∧ i + kq = n ∧ (∀ j, j < i → (l.raws.map fun a => strOfNums (kp a))[j]? ≠ some k) ∧ w' = w2))
        case atStart => exact Lib.hid ⟨0, rfl, by omega, fun j hj => by omega, rfl⟩
        case round =>
          obtain ⟨i, rfl, hik, hne, hw⟩ := hrel.out
          replace hw := hw.symm
          subst hw
          clear hrel
          rcases Nat.lt_or_ge i n with hii | hii
          · obtain ⟨q0, a, t, q1, q2, q3, tb, tq, q4, q5⟩ := repO_get HR.out i (by rw [← HN.out]; exact hii)
            rw [Nat.zero_add] at q4 q3
            have hbase : base = some ⟨g, 0, none⟩ := by
              have := HS.out
              unfold slc at this
              rw [if_neg (by omega)] at this
              injection this with e; exact e.symm
            subst hbase
            have hgw : g < W.heap.size := q3.2.1
            have e0 := HY.out i a q1
            have e1 := (HC.out.cell g (2 * i + 1) hgw (fun h => by rcases h with ⟨_, h, _⟩ | ⟨h, _⟩; omega; exact HGB.out (by omega) h)).trans q4.1
            rw [Nat.mul_comm] at e0 e1
            have hgk : (l.raws.map fun a => strOfNums (kp a))[i]? = some (strOfNums (kp a)) := by rw [List.getElem?_map, q1]; rfl
            obtain ⟨y, hy⟩ : ∃ y, y = strOfNums (kp a) := ⟨_, rfl⟩
            rw [← hy] at e0 hgk
            have HX := Lib.hid (And.intro hik (And.intro hne (And.intro hgk q4.1)))
            clear hik hne hgk hy q0 q1 q2 q3 q4 q5
            by_cases e : y = k
            · have b1 : (y.toList == k.toList) = true := by rw [e]; simp
              have HEQ := Lib.hid e
              clear e
              go_wp2
              go_ret
              obtain ⟨_, x2, x3, x4⟩ := HX.out
              exact ⟨⟨_, rfl, by rw [OGS.out, fidx_hit x2 (x3.trans (by rw [HEQ.out]))]; exact ⟨tb, tq, x4, rfl⟩⟩, HC.out⟩
            · have b1 : (y.toList == k.toList) = false := by
                rw [beq_eq_false_iff_ne]; exact fun h => e ((beq_toList y k).1 h)
              have HEQ := Lib.hid e
              clear e
              go_wp2
              go_roundg (n - (i + 1))
              case rel => exact Lib.hid ⟨i + 1, by go_num, by omega, fun j hj h => by
                obtain ⟨_, x2, x3, _⟩ := HX.out
                rcases Nat.lt_or_ge j i with hji | hji
                · exact x2 j hji h
                · obtain rfl : j = i := by omega
                  rw [x3] at h
                  exact HEQ.out (Option.some.inj h), rfl⟩
              case measure => have := HX.out.1; omega
          · obtain rfl : n = i := by omega
            have HX := Lib.hid hne
            clear hne hik
            go_wp2
            go_ret
            exact ⟨⟨_, rfl, by rw [OGS.out, fidx_miss (by rw [List.length_map, HLN.out]; exact HX.out)]; exact rfl⟩, HC.out⟩
end Go.Proofs.YtalcjolomigedaaDoor.Fp

set_option linter.unusedVariables false
set_option linter.unusedSimpArgs false
namespace Go.Proofs.YtalcjolomigedaaDoor.Fp
open Go.RowKit Go.Proofs.YtalcjolomigedaaDoorW.PrintWords Go.Proofs.YtalcjolomigedaaDoorW.PrintLast Go.Proofs.YtalcjolomigedaaDoorW.PrintMore Go.Proofs.YtalcjolomigedaaDoor.Aid Go.Proofs.YtalcjolomigedaaDoor.J

/-- One name of a row of names. -/
theorem at_str {w : World} {A : Option Addr} {n : Nat} {xs : List ByteArray} (h : Kd.string.C w A n xs) (i : Nat) (h1 : i < n) : ∃ ad, A = some ad ∧ w.cell? (ad.add i) = some (.string (xs.getD i ⟨#[]⟩)) := by
  obtain ⟨ad, c, e, hz, hK, hc⟩ := Kd.C_get h (⟨#[]⟩ : ByteArray) (i : Int) (by omega) (by omega)
  refine ⟨ad, e, ?_⟩
  have hK' : c = [.string (xs.getD i ⟨#[]⟩)] := hK
  have := hc 0 _ (by rw [hK']; rfl)
  have hsz : Kd.string.sz = 1 := rfl
  rw [hsz] at this
  simpa using this
def memV (k : ByteArray) (xs : List ByteArray) : Int := match fidx k xs with | some i => (i : Nat) | none => -1
theorem memV_hit {k : ByteArray} {xs : List ByteArray} {i : Nat} (hne : ∀ j, j < i → xs[j]? ≠ some k) (hl : i < xs.length) (h : xs.getD i ⟨#[]⟩ = k) : memV k xs = (i : Nat) := by
  unfold memV
  rw [fidx_drop xs i hne (by omega), List.drop_eq_getElem_cons hl, fidx, if_pos (by rw [← h, List.getD_eq_getElem?_getD, List.getElem?_eq_getElem hl]; rfl)]
  show ((0 + i : Nat) : Int) = i
  omega
theorem memV_miss {k : ByteArray} {xs : List ByteArray} (hne : ∀ j, j < xs.length → xs[j]? ≠ some k) : memV k xs = -1 := by
  unfold memV
  rw [fidx_drop xs xs.length hne (Nat.le_refl _), List.drop_length]
  rfl

set_option maxHeartbeats 8000000 in
set_option maxRecDepth 100000 in
theorem Member_any (x : Tn) (k : ByteArray) (w : World) (A2 A3 : Option Addr) (c2 n3 c3 : Nat) (hx : x.keys.length ≤ 2147483647) (h2 : x.keys.length ≤ c2) (g2 : Kd.string.C w A2 x.keys.length x.keys) :
    Calls Tryd.prog 59 #[.agg #[.int .i64 x.kind, .string x.text, .slice A2 x.keys.length c2, .slice A3 n3 c3], .string k] w fun e w' => e = .returned (.int .i64 (memV k x.keys)) ∧ Below w.heap.size w w' := by
  have G2 := Lib.hid g2
  obtain ⟨n, hn⟩ : ∃ n, n = x.keys.length := ⟨_, rfl⟩
  rw [← hn] at h2 hx G2 ⊢
  have HN := Lib.hid hn
  clear g2 hn
  go_enter Tryd.func59, Tryd.ntmps59
  go_wp2
  have HB := Lib.hid (Dw.start w #[.int .i64 x.kind, .string x.text, .slice A2 n c2, .slice A3 n3 c3]).b
  go_loopg [10] n (fun kq v10 w' => Hid (∃ i : Nat, v10 = .int .i64 (i : Nat) ∧ i + kq = n ∧ (∀ j, j < i → x.keys[j]? ≠ some k) ∧ w' = w.alloc (.cells #[.int .i64 x.kind, .string x.text, .slice A2 n c2, .slice A3 n3 c3] tNd)))
  case atStart => exact Lib.hid ⟨0, rfl, by omega, fun j hj => by omega, rfl⟩
  case round =>
    obtain ⟨i, rfl, hik, hne, rfl⟩ := hrel.out
    clear hrel
    rcases Nat.lt_or_ge i n with hii | hii
    · obtain ⟨ad, rfl, e0⟩ := at_str G2.out i hii
      replace e0 := (HB.out.cell (World.block_lt_of_cell? w _ e0)).trans e0
      obtain ⟨y, hy⟩ : ∃ y, y = x.keys.getD i ⟨#[]⟩ := ⟨_, rfl⟩
      rw [← hy] at e0
      have HI := Lib.hid hik
      have HY := Lib.hid hy
      have HNE := Lib.hid hne
      clear hik hy hne
      by_cases e : y = k
      · have b : (y.toList == k.toList) = true := by rw [e]; simp
        have HE := Lib.hid e
        clear e
        go_wp2
        go_ret
        exact ⟨by rw [memV_hit HNE.out (by rw [← HN.out]; exact hii) (HY.out.symm.trans HE.out)]; rfl, HB.out⟩
      · have b : (y.toList == k.toList) = false := by
          rw [beq_eq_false_iff_ne]; exact fun h => e ((beq_toList y k).1 h)
        have HE := Lib.hid e
        clear e
        go_wp2
        go_roundg (n - (i + 1))
        case rel => exact Lib.hid ⟨i + 1, by go_num, by omega, fun j hj h => by
          rcases Nat.lt_or_ge j i with hji | hji
          · exact HNE.out j hji h
          · obtain rfl : j = i := by omega
            refine HE.out ?_
            rw [HY.out, List.getD_eq_getElem?_getD, h]; rfl, rfl⟩
        case measure => have := HI.out; omega
    · obtain rfl : i = n := by omega
      have HNE := Lib.hid hne
      clear hne
      go_wp2
      go_ret
      exact ⟨by rw [memV_miss (by rw [← HN.out]; exact HNE.out)]; rfl, HB.out⟩
set_option maxHeartbeats 8000000 in
set_option maxRecDepth 100000 in
theorem at_any (x : Tn) (k : ByteArray) (w : World) (A2 A3 : Option Addr) (c2 n3 c3 : Nat) (hx : x.keys.length ≤ 2147483647) (h2 : x.keys.length ≤ c2) (g2 : Kd.string.C w A2 x.keys.length x.keys) :
    Calls Tryd.prog 58 #[.agg #[.int .i64 x.kind, .string x.text, .slice A2 x.keys.length c2, .slice A3 n3 c3], .string k] w fun e w' => (∃ r : Int, e = .returned (.int .i64 r) ∧ ∀ i : Nat, r = (i : Int) → ∀ j, i < j → j < x.keys.length → x.keys[j]? ≠ some k) ∧ Below w.heap.size w w' := by
  have G2 := Lib.hid g2
  obtain ⟨n, hn⟩ : ∃ n, n = x.keys.length := ⟨_, rfl⟩
  rw [← hn] at h2 hx G2 ⊢
  clear g2 hn
  have HB := Lib.hid (Dw.start w #[.int .i64 x.kind, .string x.text, .slice A2 n c2, .slice A3 n3 c3]).b
  have HP := Lib.hid (Dw.start w #[.int .i64 x.kind, .string x.text, .slice A2 n c2, .slice A3 n3 c3]).p
  go_enter Tryd.func58, Tryd.ntmps58
  go_wp2
  go_loopg [5] n (fun kq v5 w' => Hid (v5 = .int .i64 ((kq : Int) - 1) ∧ kq ≤ n ∧ (∀ j, kq ≤ j → j < n → x.keys[j]? ≠ some k) ∧ w' = w.alloc (.cells #[.int .i64 x.kind, .string x.text, .slice A2 n c2, .slice A3 n3 c3] tNd)))
  case atStart => exact Lib.hid ⟨rfl, Nat.le_refl _, fun j h1 h2 => by omega, rfl⟩
  case round =>
    obtain ⟨rfl, hkn, hne, rfl⟩ := hrel.out
    clear hrel
    cases gk with
    | zero =>
      rw [show (((0 : Nat) : Int) - 1) = -1 from rfl]
      go_wp2
      go_ret
      exact ⟨⟨-1, rfl, fun i hi => by omega⟩, HB.out⟩
    | succ i =>
      rw [show (((i + 1 : Nat) : Int) - 1) = (i : Int) by omega]
      have c2' : (w.alloc (.cells #[.int .i64 x.kind, .string x.text, .slice A2 n c2, .slice A3 n3 c3] tNd)).cell? ⟨w.heap.size, 2, none⟩ = some (.slice A2 n c2) := (blk_cell HP.out 2).trans rfl
      have hii : i < n := by omega
      obtain ⟨ad, rfl, e0⟩ := at_str G2.out i hii
      replace e0 := (HB.out.cell (World.block_lt_of_cell? w _ e0)).trans e0
      obtain ⟨y, hy⟩ : ∃ y, y = x.keys.getD i ⟨#[]⟩ := ⟨_, rfl⟩
      rw [← hy] at e0
      have HY := Lib.hid hy
      have HNE := Lib.hid hne
      clear hy hne
      by_cases e : y = k
      · have b : (y.toList == k.toList) = true := by rw [e]; simp
        clear e
        go_wp2
        go_ret
        exact ⟨⟨(i : Int), rfl, fun m hm j h1 h2 => HNE.out j (by omega) h2⟩, HB.out⟩
      · have b : (y.toList == k.toList) = false := by
          rw [beq_eq_false_iff_ne]; exact fun h => e ((beq_toList y k).1 h)
        have HE := Lib.hid e
        clear e
        go_wp2
        go_roundg i
        case rel => exact Lib.hid ⟨by go_num, by omega, fun j h1 h2 h => by
          rcases Nat.lt_or_ge i j with hji | hji
          · exact HNE.out j hji h2 h
          · obtain rfl : j = i := by omega
            refine HE.out ?_
            rw [HY.out, List.getD_eq_getElem?_getD, h]; rfl, rfl⟩
        case measure => omega
mutual
/-- No object of the tree has a name twice. -/
def uq : Tn → Prop
  | ⟨_, _, ns, ks⟩ => ns.Nodup ∧ uqs ks
def uqs : List Tn → Prop
  | [] => True
  | x :: t => uq x ∧ uqs t
end
theorem uqs_all : ∀ {ks : List Tn}, (∀ p ∈ ks, uq p) → uqs ks
  | [], _ => by rw [uqs]; trivial
  | q :: ks, h => by rw [uqs]; exact ⟨h q List.mem_cons_self, uqs_all fun p hp => h p (List.mem_cons_of_mem _ hp)⟩
theorem nodup_of_last {xs : List ByteArray} (h : ∀ i j : Nat, i < j → j < xs.length → ∀ k, xs[i]? = some k → xs[j]? ≠ some k) : xs.Nodup := by
  refine List.pairwise_iff_getElem.2 fun i j hi hj hij e => ?_
  exact h i j hij hj _ (List.getElem?_eq_getElem hi) (by rw [List.getElem?_eq_getElem hj, e])
def UqC (x : Tn) : Prop := smT x → ∀ (w : World) (A2 A3 : Option Addr) (c2 c3 : Nat), x.keys.length ≤ c2 → Kd.string.C w A2 x.keys.length x.keys → x.kids.length ≤ c3 → kTn.C w A3 x.kids.length x.kids →
  Calls Tryd.prog 38 #[.agg #[.int .i64 x.kind, .string x.text, .slice A2 x.keys.length c2, .slice A3 x.kids.length c3]] w fun e w' => (∃ b : Bool, e = .returned (.bool b) ∧ (b = true → uq x)) ∧ Below w.heap.size w w'
set_option maxHeartbeats 8000000 in
set_option maxRecDepth 100000 in
theorem uq_step (k : Int) (x : ByteArray) (ns : List ByteArray) (ks : List Tn) (hk : ∀ p ∈ ks, UqC p) : UqC ⟨k, x, ns, ks⟩ := by
  intro hsm w A2 A3 c2 c3 h2 g2 h3 g3
  rw [smT] at hsm
  have hlenN := hsm.1
  have hlenK := hsm.2.1
  have HK := Lib.hid (fun p hp => hk p hp (smTs_mem hsm.2.2 p hp))
  have G2 := Lib.hid g2
  have G3 := Lib.hid g3
  clear hsm hk g2 g3
  go_enter Tryd.func38, Tryd.ntmps38
  go_wp2
  have HT0 := Lib.hid (Dw.start w #[.int .i64 k, .string x, .slice A2 ns.length c2, .slice A3 ks.length c3])
  go_loopg [3] ns.length (fun kq v3 w' => Hid (∃ i : Nat, v3 = .int .i64 (i : Nat) ∧ i + kq = ns.length ∧ (∀ a j : Nat, a < i → a < j → j < ns.length → ∀ kk, ns[a]? = some kk → ns[j]? ≠ some kk) ∧ Dw w w' #[.int .i64 k, .string x, .slice A2 ns.length c2, .slice A3 ks.length c3]))
  case atStart => exact Lib.hid ⟨0, rfl, by omega, fun a j ha => by omega, HT0.out⟩
  case round =>
    obtain ⟨i, rfl, hik, hno, hT⟩ := hrel.out
    clear hrel HT0
    have p0 : wr.cell? ⟨w.heap.size, 0, none⟩ = some (.int .i64 k) := (blk_cell hT.p 0).trans rfl
    have p1 : wr.cell? ⟨w.heap.size, 1, none⟩ = some (.string x) := (blk_cell hT.p 1).trans rfl
    have p2 : wr.cell? ⟨w.heap.size, 2, none⟩ = some (.slice A2 ns.length c2) := (blk_cell hT.p 2).trans rfl
    have p3 : wr.cell? ⟨w.heap.size, 3, none⟩ = some (.slice A3 ks.length c3) := (blk_cell hT.p 3).trans rfl
    have HT := Lib.hid hT
    have HNO := Lib.hid hno
    have HIK := Lib.hid hik
    rcases Nat.lt_or_ge i ns.length with hii | hii
    · obtain ⟨ad, rfl, e0⟩ := at_str G2.out i hii
      replace e0 := (hT.b.cell (World.block_lt_of_cell? w _ e0)).trans e0
      obtain ⟨y, hy⟩ : ∃ y, y = ns.getD i ⟨#[]⟩ := ⟨_, rfl⟩
      rw [← hy] at e0
      have hyi : ns[i]? = some y := by rw [hy, List.getD_eq_getElem?_getD, List.getElem?_eq_getElem hii]; rfl
      have HY := Lib.hid hyi
      have HAT := Lib.hid (at_any ⟨k, x, ns, ks⟩ y wr (some ad) A3 c2 ks.length c3 hlenN h2 (Kd.C_below G2.out hT.b))
      have eb := World.block_lt_of_cell? wr _ e0
      have q0 : wr.drew.cell? ⟨w.heap.size, 0, none⟩ = some (.int .i64 k) := p0
      have q1 : wr.drew.cell? ⟨w.heap.size, 1, none⟩ = some (.string x) := p1
      have q2 : wr.drew.cell? ⟨w.heap.size, 2, none⟩ = some (.slice (some ad) ns.length c2) := p2
      have q3 : wr.drew.cell? ⟨w.heap.size, 3, none⟩ = some (.slice A3 ks.length c3) := p3
      have e1 : wr.drew.cell? (ad.add i) = some (.string y) := e0
      have HE0 := Lib.hid e0
      have HTD := Lib.hid (HT.out.below (below_drew (Below.refl _ _)))
      replace HAT := Lib.hid (at_any ⟨k, x, ns, ks⟩ y wr.drew (some ad) A3 c2 ks.length c3 hlenN h2 (Kd.C_below G2.out HTD.out.b))
      have hl0 : Hid (w.heap.size < wr.drew.heap.size) := Lib.hid HTD.out.size
      have hl1 : Hid ((ad.add i).block < wr.drew.heap.size) := Lib.hid eb
      clear hT hno hik hy hyi eb
      go_wp2_with fail
      go_region_with (go_at_call 58; refine HAT.out.mono ?_; rintro e w1 ⟨⟨r, rfl, hr⟩, hb⟩; have HX := Lib.hid (HTD.out.below hb); have HRR := Lib.hid hr; have r0 := (hb.cell (p := ⟨w.heap.size, 0, none⟩) hl0.out).trans q0; have r1 := (hb.cell (p := ⟨w.heap.size, 1, none⟩) hl0.out).trans q1; have r2 := (hb.cell (p := ⟨w.heap.size, 2, none⟩) hl0.out).trans q2; have r3 := (hb.cell (p := ⟨w.heap.size, 3, none⟩) hl0.out).trans q3; have r4 := (hb.cell (p := ad.add i) hl1.out).trans e1; clear hb hr)
      all_goals
        by_cases hre : r = (i : Int)
        · have b1 : (r != (i : Int)) = false := by rw [hre]; simp
          have HRE := Lib.hid hre
          clear hre
          go_wp2
          go_roundg (ns.length - (i + 1))
          case rel => exact Lib.hid ⟨i + 1, by go_num, by omega, fun a j ha haj hj kk hkk => by
            rcases Nat.lt_or_ge a i with hai | hai
            · exact HNO.out a j hai haj hj kk hkk
            · obtain rfl : a = i := by omega
              rw [HY.out] at hkk
              injection hkk with hkk; subst hkk
              exact HRR.out a HRE.out j haj hj, HX.out⟩
          case measure => have := HIK.out; omega
        · have b1 : (r != (i : Int)) = true := bne_iff_ne.mpr hre
          clear hre
          go_wp2
          go_ret
          exact ⟨⟨false, rfl, fun h => by cases h⟩, HX.out.b⟩
    · obtain rfl : i = ns.length := by omega
      have HND := Lib.hid (nodup_of_last (xs := ns) fun a j haj hj kk hkk => HNO.out a j (by omega) haj hj kk hkk)
      clear hT hno hik HNO HIK
      go_wp2
      go_loopg [4] ks.length (fun kq v4 w' => Hid (∃ i : Nat, v4 = .int .i64 (i : Nat) ∧ i + kq = ks.length ∧ (∀ p ∈ ks.take i, uq p) ∧ Dw w w' #[.int .i64 k, .string x, .slice A2 ns.length c2, .slice A3 ks.length c3]))
      case atStart => exact Lib.hid ⟨0, rfl, by omega, fun p hp => by (rw [List.take_zero] at hp; cases hp), HT.out⟩
      case round =>
        obtain ⟨i, rfl, hik, hno, hT⟩ := hrel.out
        clear hrel HT p0 p1 p2 p3
        have p3 : wr.cell? ⟨w.heap.size, 3, none⟩ = some (.slice A3 ks.length c3) := (blk_cell hT.p 3).trans rfl
        have HT := Lib.hid hT
        have HNO := Lib.hid hno
        have HIK := Lib.hid hik
        rcases Nat.lt_or_ge i ks.length with hii | hii
        · have HB0 := hT.b
          obtain ⟨ad, B2, d2, B3, d3, rfl, e0, e1, e2, e3, l2, g2, l3, g3⟩ := at_Tn G3.out i hii
          have eb := World.block_lt_of_cell? w _ e0
          replace e0 := (HB0.cell eb).trans e0
          replace e1 := (HB0.cell (by exact eb)).trans e1
          replace e2 := (HB0.cell (by exact eb)).trans e2
          replace e3 := (HB0.cell (by exact eb)).trans e3
          obtain ⟨q, hq⟩ : ∃ q, q = ks.getD i zTn := ⟨_, rfl⟩
          rw [← hq] at e0 e1 e2 e3 l2 g2 l3 g3
          have KU := Lib.hid (HK.out q (by rw [hq]; exact getD_mem zTn hii) wr B2 B3 d2 d3 l2 (Kd.C_below g2 HB0) l3 (Kd.C_below g3 HB0))
          have HE := Lib.hid hq
          replace l2 := Lib.hid l2
          replace l3 := Lib.hid l3
          clear hT hno hik hq g2 g3 HB0
          go_wp2_with (go_at_call 38; refine KU.out.mono ?_; rintro e' w1 ⟨⟨b, rfl, hb2⟩, hb⟩; have HX := Lib.hid (HT.out.below hb); have HD := Lib.hid hb2; clear hb hb2)
          · go_ret
            exact ⟨⟨false, rfl, fun h => by cases h⟩, HX.out.b⟩
          · have hb := ‹(!b) = false›
            have HBT := Lib.hid (show b = true by cases b <;> simp_all)
            clear hb
            go_roundg (ks.length - (i + 1))
            case rel => exact Lib.hid ⟨i + 1, by go_num, by omega, fun p hp => by
              rw [List.take_add_one, List.getElem?_eq_getElem hii] at hp
              rcases List.mem_append.1 hp with hp | hp
              · exact HNO.out p hp
              · obtain rfl : p = ks[i] := List.mem_singleton.1 hp
                have e : q = ks[i] := by rw [HE.out, List.getD_eq_getElem?_getD, List.getElem?_eq_getElem hii]; rfl
                rw [← e]; exact HD.out HBT.out, HX.out⟩
            case measure => have := HIK.out; omega
        · obtain rfl : i = ks.length := by omega
          clear hT hno hik
          go_wp2
          go_ret
          exact ⟨⟨true, rfl, fun _ => by rw [uq]; exact ⟨HND.out, uqs_all (by have := HNO.out; rwa [List.take_length] at this)⟩⟩, HT.out.b⟩
mutual
theorem uq_any : ∀ x : Tn, UqC x
  | ⟨k, x, ns, ks⟩ => uq_step k x ns ks (uq_kids ks)
theorem uq_kids : ∀ ks : List Tn, ∀ p ∈ ks, UqC p
  | [], p, hp => by cases hp
  | q :: ks, p, hp => by
      rcases List.mem_cons.1 hp with e | hp
      · rw [e]; exact uq_any q
      · exact uq_kids ks p hp
end
end Go.Proofs.YtalcjolomigedaaDoor.Fp

set_option linter.unusedVariables false
set_option linter.unusedSimpArgs false
namespace Go.Proofs.YtalcjolomigedaaDoor.Fp
open Go.RowKit Go.Proofs.YtalcjolomigedaaDoorW.PrintWords Go.Proofs.YtalcjolomigedaaDoorW.PrintLast Go.Proofs.YtalcjolomigedaaDoorW.PrintMore Go.Proofs.YtalcjolomigedaaDoor.Aid Go.Proofs.YtalcjolomigedaaDoor.J

/-- What strconv's variable ErrRange holds. -/
def ErrR (w : World) : Prop := ∃ ev, w.cell? ⟨2, 0, none⟩ = some ev ∧ (ev = .nilIface ∨ ∃ te pe, ev = .iface te pe)
theorem ErrR.below {w w' : World} (h : ErrR w) (k : Below w.heap.size w w') : ErrR w' := by
  obtain ⟨ev, h1, h2⟩ := h
  exact ⟨ev, pw_cell_below k h1, h2⟩
end Go.Proofs.YtalcjolomigedaaDoor.Fp

set_option linter.unusedVariables false
set_option linter.unusedSimpArgs false
namespace Go.Proofs.YtalcjolomigedaaDoor.Fp
open Go.RowKit Go.Proofs.YtalcjolomigedaaDoorW.PrintWords Go.Proofs.YtalcjolomigedaaDoorW.PrintLast Go.Proofs.YtalcjolomigedaaDoorW.PrintMore Go.Proofs.YtalcjolomigedaaDoor.Aid Go.Proofs.YtalcjolomigedaaDoor.J

/-- What strconv.Atoi takes a key for, if that is no error and not negative. -/
def atoiN (k : ByteArray) : Option Nat := match Lib.atoiAll k.data.toList with
  | .ok v => if 0 ≤ v then some v.toNat else none
  | _ => none
/-- Whether keys lead to a value. -/
def getB : T → List ByteArray → Bool
  | _, [] => true
  | .leaf _ _, _ :: _ => false
  | .arr l, k :: ks => match atoiN k with
    | some i => match l.at? i with
      | some u => getB u ks
      | none => false
    | none => false
  | .obj l, k :: ks => match ogi l.raws k with
    | some i => match l.at? i with
      | some u => getB u ks
      | none => false
    | none => false
theorem repL_get {W : World} {O : Nat → Nat → Prop} {g : Nat} : ∀ {l : TL} {i0 : Nat}, repL W O l g i0 → ∀ i, i < l.len → ty W g tVp ∧ ∃ t, l.at? i = some t ∧ ∃ b o, (W.cell? ⟨g, i0 + i, none⟩ = some (.pointer (some ⟨b, o, none⟩)) ∧ O g (i0 + i)) ∧ rep W O t b o
  | .nil, i0, h, i, hi => by rw [TL.len] at hi; omega
  | .cons t l, i0, h, 0, hi => by
    rw [repL] at h
    obtain ⟨⟨h0, b, o, h2, h3⟩, _⟩ := h
    exact ⟨h0, t, rfl, b, o, h2, h3⟩
  | .cons t l, i0, h, i + 1, hi => by
    rw [repL] at h
    rw [TL.len] at hi
    have := repL_get h.2 i (by omega)
    rw [show i0 + 1 + i = i0 + (i + 1) by omega] at this
    exact this
theorem len_at : ∀ {l : OL} {i : Nat} {u : T}, l.at? i = some u → (out u).length ≤ (outO l).length
  | .nil, i, u, h => by cases h
  | .cons k t l, 0, u, h => by
    injection h with h; subst h
    cases l with
    | nil => rw [outO1]; simp; omega
    | cons j v m => rw [outO2]; simp; omega
  | .cons k t l, i + 1, u, h => by
    have := len_at (l := l) h
    cases l with
    | nil => cases h
    | cons j v m => rw [outO2]; simp; omega
theorem lenL_at : ∀ {l : TL} {i : Nat} {u : T}, l.at? i = some u → (out u).length ≤ (outL l).length
  | .nil, i, u, h => by cases h
  | .cons t l, 0, u, h => by
    injection h with h; subst h
    cases l with
    | nil => rw [outL1]; exact Nat.le_refl _
    | cons v m => rw [outL2]; simp
  | .cons t l, i + 1, u, h => by
    have := lenL_at (l := l) h
    cases l with
    | nil => cases h
    | cons v m => rw [outL2]; simp; omega
theorem raw_le : ∀ {l : OL}, ∀ a ∈ l.raws, a.length ≤ (outO l).length
  | .nil, a, h => by cases h
  | .cons k t l, a, h => by
    rcases List.mem_cons.1 h with rfl | h
    · cases l with
      | nil => rw [outO1]; simp; omega
      | cons j v m => rw [outO2]; simp; omega
    · have := raw_le (l := l) a h
      cases l with
      | nil => cases h
      | cons j v m => rw [outO2]; simp; omega
theorem okO_at : ∀ {l : OL}, okO l → ∀ {i t}, l.at? i = some t → okT t
  | .nil, _, i, t, h => by cases h
  | .cons b u l, ho, 0, t, h => by rw [okO] at ho; injection h with h; rw [← h]; exact ho.1.2
  | .cons b u l, ho, i + 1, t, h => by rw [okO] at ho; exact okO_at ho.2 h
theorem okL_at : ∀ {l : TL}, okL l → ∀ {i t}, l.at? i = some t → okT t
  | .nil, _, i, t, h => by cases h
  | .cons u l, ho, 0, t, h => by rw [okL] at ho; injection h with h; rw [← h]; exact ho.1
  | .cons u l, ho, i + 1, t, h => by rw [okL] at ho; exact okL_at ho.2 h
/-- A value of Parse's tree, new since w0. -/
structure GW (w0 W : World) (t : T) (b o : Nat) : Prop where
  bel : Below w0.heap.size w0 W
  rp : rep W (In2 w0 W) t b o
  n : okN t
  k : okT t
  len : (out t).length ≤ 90000
theorem GW.below {w0 W W1 : World} {t : T} {b o : Nat} (h : GW w0 W t b o) (k : Below W.heap.size W W1) : GW w0 W1 t b o :=
  ⟨below_step h.bel k, rep_keep (fun i j q => ⟨⟨Nat.lt_of_lt_of_le q.1 k.size, q.2⟩, k.cell (p := ⟨i, j, none⟩) q.1, fun _ ht => ht.below k⟩) _ _ _ h.rp, h.n, h.k, h.len⟩
/-- An element. -/
theorem GW.elem {w0 W : World} {l : TL} {b o g c i : Nat} (h : GW w0 W (.arr l) b o) (h2 : W.cell? ⟨b, o + 2, none⟩ = some (slc g l.len c)) (hr : repL W (In2 w0 W) l g 0) (hi : i < l.len) : ∃ u tb tq, l.at? i = some u ∧ W.cell? ⟨g, i, none⟩ = some (.pointer (some ⟨tb, tq, none⟩)) ∧ GW w0 W u tb tq := by
  obtain ⟨_, u, e, tb, tq, hc, hu⟩ := repL_get hr i hi
  rw [Nat.zero_add] at hc
  have hn := h.n
  have hk := h.k
  have hl := h.len
  rw [okN] at hn
  rw [okT] at hk
  rw [out] at hl
  have := lenL_at e
  simp only [List.length_cons, List.length_append] at hl
  exact ⟨u, tb, tq, e, hc.1, h.bel, hu, okNL_at hn e, okL_at hk e, by omega⟩
/-- Object.Get of a value. -/
theorem GW.get {w0 W : World} {l : OL} {b o : Nat} (h : GW w0 W (.obj l) b o) (hE : ErrV w0) (k : ByteArray) :
    Calls Tryd.prog 83 #[.pointer (some ⟨b, o, none⟩), .string k] W fun e W' => Below w0.heap.size w0 W' ∧ match ogi l.raws k with
      | some i => ∃ u tb tq, l.at? i = some u ∧ e = .returned (.pointer (some ⟨tb, tq, none⟩)) ∧ GW w0 W' u tb tq
      | none => e = .returned (.pointer none) := by
  have hn := h.n
  have hk := h.k
  have hl := h.len
  have hr := h.rp
  rw [okN] at hn
  rw [okT] at hk
  rw [out] at hl
  rw [rep] at hr
  obtain ⟨hv, h4, h1, g, c, h0, hrO⟩ := hr
  simp only [List.length_cons, List.length_append] at hl
  have hll := outO_len l
  refine (objGet_any w0 W b o g c l k hE h.bel h4.2.2 hv.1 h1.1 h0.1 (repO_keep (Keep.drop W _ _) _ _ _ hrO) hn hk (fun a ha => by have := raw_le a ha; omega) (by omega)).mono ?_
  rintro e W' ⟨⟨v, rfl, hg⟩, hch⟩
  refine ⟨hch.bel h.bel, ?_⟩
  cases hi : ogi l.raws k with
  | none => rw [hi] at hg; rw [show v = .pointer none from hg]
  | some i =>
    rw [hi] at hg
    obtain ⟨tb, tq, hc, rfl⟩ := hg
    have hil : i < l.len := by
      rw [← raws_len]
      unfold ogi at hi
      split at hi
      · have := (fidx_lt hi).1; rwa [List.length_map] at this
      · split at hi
        · rename_i j hj
          injection hi with hi; subst hi
          have := (fidx_lt hj).1; rwa [List.length_map] at this
        · have := (fidx_lt hi).1; rwa [List.length_map] at this
    obtain ⟨_, a, u, _, hu, _, tb', tq', hc', hru⟩ := repO_get hrO i hil
    rw [Nat.zero_add] at hc'
    rw [hc'.1] at hc
    injection hc with hc; injection hc with hc; injection hc with hc; injection hc with e1 e2 _
    subst e1; subst e2
    have := len_at hu
    refine ⟨u, tb', tq', hu, rfl, hch.bel h.bel, rep_keep (hch.keep fun x y q => ⟨q.1.1.1, q.1.1.2, fun hp => ?_⟩) _ _ _ hru, okNO_at hn hu, okO_at hk hu, by omega⟩
    rcases hp with ⟨hp, _⟩ | ⟨hp, hp2⟩
    · exact q.2 hp
    · exact q.1.2 ⟨hp, by omega, by omega⟩
set_option maxHeartbeats 8000000 in
set_option maxRecDepth 100000 in
theorem vGet_any (w0 W : World) (b o : Nat) (t : T) (A : Option Addr) (n cc : Nat) (keys : List ByteArray) (hE : ErrV w0) (hR : ErrR w0) (hg : GW w0 W t b o)
    (hA : Kd.string.C w0 A n keys) (hks : ∀ k ∈ keys, k.size ≤ 1000) (hn : n ≤ 2147483647) (hc : n ≤ cc) :
    Calls Tryd.prog 62 #[.pointer (some ⟨b, o, none⟩), .slice A n cc] W fun e W' => (∃ r : Option Addr, e = .returned (.pointer r) ∧ r.isSome = getB t keys) ∧ Below w0.heap.size w0 W' := by
  have HA := Lib.hid hA
  have HE := Lib.hid hE
  have HR := Lib.hid hR
  have HKS := Lib.hid hks
  have HG := Lib.hid hg
  have HL := Lib.hid (Kd.C_len hA)
  obtain ⟨G, hG⟩ : ∃ G, G = getB t keys := ⟨_, rfl⟩
  rw [← hG]
  have HGB := Lib.hid hG
  clear hA hE hR hks hg hG
  go_enter Tryd.func62, Tryd.ntmps62
  go_wp2
  go_loopg [0, 13] n (fun kq v0 v13 w' => Hid (∃ (i b' o' : Nat) (t' : T), v0 = .pointer (some ⟨b', o', none⟩) ∧ v13 = .int .i64 (i : Nat) ∧ i + kq = n ∧ GW w0 w' t' b' o' ∧ G = getB t' (keys.drop i)))
  case atStart => exact Lib.hid ⟨0, b, o, t, rfl, rfl, by omega, HG.out, HGB.out⟩
  case round =>
    obtain ⟨i, b', o', t', rfl, rfl, hik, hgw, hgb⟩ := hrel.out
    clear hrel
    have HGW := Lib.hid hgw
    have HIK := Lib.hid hik
    rcases Nat.lt_or_ge i n with hii | hii
    · obtain ⟨ad, rfl, e0⟩ := at_str HA.out i hii
      have eb := World.block_lt_of_cell? w0 _ e0
      replace e0 := (hgw.bel.cell eb).trans e0
      obtain ⟨k, hk⟩ : ∃ k, k = keys.getD i ⟨#[]⟩ := ⟨_, rfl⟩
      rw [← hk] at e0
      have hil : i < keys.length := by rw [HL.out]; exact hii
      have hkm : k ∈ keys := by rw [hk, List.getD_eq_getElem?_getD, List.getElem?_eq_getElem hil]; exact List.getElem_mem hil
      have hdr : keys.drop i = k :: keys.drop (i + 1) := by
        rw [List.drop_eq_getElem_cons hil, hk, List.getD_eq_getElem?_getD, List.getElem?_eq_getElem hil]; rfl
      have hsz := HKS.out k hkm
      rw [hdr] at hgb
      have HQ := Lib.hid hgb
      have HKM := Lib.hid hkm
      clear hk hkm hdr hgb hik hil
      cases t' with
      | leaf kk a =>
        have hrp := hgw.rp
        have hok := hgw.k
        rw [rep] at hrp
        rw [okT] at hok
        have c4 := hrp.2.2.1
        have b1 : (kk == 1) = false := beq_eq_false_iff_ne.mpr (by rcases hok.1 with h | h | h | h | h <;> omega)
        have b2 : (kk == 2) = false := beq_eq_false_iff_ne.mpr (by rcases hok.1 with h | h | h | h | h <;> omega)
        clear hrp hok hgw
        go_wp2
        go_ret
        exact ⟨⟨none, rfl, by rw [HQ.out, getB]; rfl⟩, HGW.out.bel⟩
      | obj l =>
        have hrp := hgw.rp
        rw [rep] at hrp
        have c4 := hrp.2.1.1
        have HO := Lib.hid (hgw.get HE.out k)
        clear hrp hgw
        cases ho : ogi l.raws k with
        | none =>
          rw [ho] at HO
          have HF := Lib.hid (show G = false by rw [HQ.out, getB, ho])
          clear ho
          go_wp2_with (go_at_call 83; refine HO.out.mono ?_; rintro e w1 ⟨hb, rfl⟩; have HB := Lib.hid hb; clear hb)
          go_ret
          exact ⟨⟨none, rfl, by rw [HF.out]; rfl⟩, HB.out⟩
        | some m =>
          rw [ho] at HO
          have HF := Lib.hid (show ∀ u, l.at? m = some u → G = getB u (keys.drop (i + 1)) from fun u hu => by rw [HQ.out, getB, ho]; simp only [hu])
          clear ho
          go_wp2_with (go_at_call 83; refine HO.out.mono ?_; rintro e w1 ⟨_, u, tb, tq, hu, rfl, hgu⟩; have HU := Lib.hid (And.intro hu hgu); clear hu hgu)
          go_roundg (n - (i + 1))
          case rel => exact Lib.hid ⟨i + 1, tb, tq, u, rfl, by go_num, by omega, HU.out.2, HF.out u HU.out.1⟩
          case measure => have := HIK.out; omega
      | arr l =>
        have hrp := hgw.rp
        rw [rep] at hrp
        obtain ⟨_, ⟨c4, _⟩, g, c, ⟨c2, c2o⟩, hrl⟩ := hrp
        have HEL := Lib.hid (fun m (hm : m < l.len) => hgw.elem c2 hrl hm)
        obtain ⟨base, c5, hsl⟩ : ∃ base c5, slc g l.len c = .slice base l.len c5 := by
          unfold slc
          by_cases h : l.len = 0
          · rw [if_pos h, h]; exact ⟨_, _, rfl⟩
          · rw [if_neg h]; exact ⟨_, _, rfl⟩
        rw [hsl] at c2
        have HSL := Lib.hid hsl
        have hll : l.len ≤ 100000 := by
          have h1 := outL_len l
          have h2 := hgw.len
          rw [out] at h2
          simp only [List.length_cons, List.length_append] at h2
          omega
        have HEW := HE.out.below hgw.bel
        have HRW := HR.out.below hgw.bel
        have hb4 := World.block_lt_of_cell? _ _ c4
        obtain ⟨ln, hln⟩ : ∃ ln, ln = l.len := ⟨_, rfl⟩
        rw [← hln] at c2 hll HSL
        have HLN := Lib.hid hln
        clear hln hsl hrl hgw c2o
        cases ha : Lib.atoiAll k.data.toList with
        | «syntax» =>
          have HAT := Lib.hid (show Calls Tryd.prog 84 #[.string k] wr fun e w' => (∃ x u v, e = .returned (.tuple #[.int .i64 x, .iface u v])) ∧ Below wr.heap.size wr w' from by
            obtain ⟨ev, h1, h2⟩ := HEW
            refine (Tryd.strconv_Atoi_syntax k (by omega) ha ev wr h1 h2).mono ?_
            rintro e w' ⟨N, rfl, _, _, hb⟩
            exact ⟨⟨_, _, _, rfl⟩, hb⟩)
          have HF := Lib.hid (show G = false by rw [HQ.out, getB, atoiN, ha])
          clear ha HEW HRW
          go_wp2_with (go_at_call 84; refine HAT.out.mono ?_; rintro e w1 ⟨⟨x, u, v, rfl⟩, hb⟩; have HB := Lib.hid (below_step HGW.out.bel hb); clear hb)
          go_ret
          exact ⟨⟨none, rfl, by rw [HF.out]; rfl⟩, HB.out⟩
        | range =>
          have HAT := Lib.hid (show Calls Tryd.prog 84 #[.string k] wr fun e w' => (∃ x u v, e = .returned (.tuple #[.int .i64 x, .iface u v])) ∧ Below wr.heap.size wr w' from by
            obtain ⟨ev, h1, h2⟩ := HRW
            refine (Tryd.strconv_Atoi_range k (by omega) ha ev wr h1 h2).mono ?_
            rintro e w' ⟨N, rfl, _, _, hb⟩
            exact ⟨⟨_, _, _, rfl⟩, hb⟩)
          have HF := Lib.hid (show G = false by rw [HQ.out, getB, atoiN, ha])
          clear ha HEW HRW
          go_wp2_with (go_at_call 84; refine HAT.out.mono ?_; rintro e w1 ⟨⟨x, u, v, rfl⟩, hb⟩; have HB := Lib.hid (below_step HGW.out.bel hb); clear hb)
          go_ret
          exact ⟨⟨none, rfl, by rw [HF.out]; rfl⟩, HB.out⟩
        | ok v =>
          have HAT := Lib.hid (show Calls Tryd.prog 84 #[.string k] wr fun e w' => e = .returned (.tuple #[.int .i64 v, .nilIface]) ∧ Below wr.heap.size wr w' from by
            refine (Tryd.strconv_Atoi_ok k (by omega) v ha wr).mono ?_
            rintro e w' ⟨rfl, hw⟩
            refine ⟨rfl, ?_⟩
            rcases hw with rfl | ⟨t, rfl⟩
            · exact Below.refl _ _
            · exact Lib.bytesWorld_below _ _ _)
          have HAK := Lib.hid (show atoiN k = if 0 ≤ v then some v.toNat else none by rw [atoiN, ha])
          clear ha HEW HRW
          by_cases hv0 : v < 0
          · have d0 : decide (v < 0) = true := decide_eq_true hv0
            have HF := Lib.hid (show G = false by rw [HQ.out, getB, HAK.out, if_neg (by omega)])
            go_wp2_with (go_at_call 84; refine HAT.out.mono ?_; rintro e w1 ⟨rfl, hb⟩; have HB := Lib.hid (below_step HGW.out.bel hb); clear hb)
            go_ret
            exact ⟨⟨none, rfl, by rw [HF.out]; rfl⟩, HB.out⟩
          have d0 : decide (v < 0) = false := decide_eq_false hv0
          obtain ⟨m, rfl⟩ : ∃ m : Nat, v = (m : Int) := ⟨v.toNat, by omega⟩
          have HAM := Lib.hid (show atoiN k = some m by rw [HAK.out, if_pos (by omega), Int.toNat_natCast])
          rcases Nat.lt_or_ge m ln with hml | hml
          · obtain ⟨u, tb, tq, hu, hc, hgu⟩ := HEL.out m (by rw [← HLN.out]; exact hml)
            have hbase : base = some ⟨g, 0, none⟩ := by
              have := HSL.out
              unfold slc at this
              rw [if_neg (by omega)] at this
              injection this with e; exact e.symm
            subst hbase
            have HGU := Lib.hid hgu
            have HF := Lib.hid (show G = getB u (keys.drop (i + 1)) by rw [HQ.out, getB, HAM.out]; simp only [hu])
            have hb0 : (0 : Int) ≤ (m : Int) := Int.natCast_nonneg _
            clear hu hgu hv0
            go_wp2_with (go_at_call 84; refine HAT.out.mono ?_; rintro e w1 ⟨rfl, hb⟩; have HGX := Lib.hid (HGU.out.below hb); have c2' := pw_cell_below hb c2; have c4' := pw_cell_below hb c4; have hc' := pw_cell_below hb hc; clear hb)
            go_roundg (n - (i + 1))
            case rel => exact Lib.hid ⟨i + 1, tb, tq, u, rfl, by go_num, by omega, HGX.out, HF.out⟩
            case measure => have := HIK.out; omega
          · have hno : l.at? m = none := by
              cases h : l.at? m with
              | none => rfl
              | some u =>
                have := tnL_at l m
                rw [h] at this
                have h2 := (List.getElem?_eq_some_iff.1 this).1
                rw [tnL_len, ← HLN.out] at h2
                omega
            have HF := Lib.hid (show G = false by rw [HQ.out, getB, HAM.out]; simp only [hno])
            clear hno hv0
            go_wp2_with (go_at_call 84; refine HAT.out.mono ?_; rintro e w1 ⟨rfl, hb⟩; have HB := Lib.hid (below_step HGW.out.bel hb); have c2' := pw_cell_below hb c2; clear hb)
            go_ret
            exact ⟨⟨none, rfl, by rw [HF.out]; rfl⟩, HB.out⟩
    · obtain rfl : n = i := by omega
      have HQ := Lib.hid (show G = true by rw [hgb, List.drop_of_length_le (by rw [HL.out]; exact Nat.le_refl _), getB])
      clear hgw hgb hik
      go_wp2
      go_ret
      exact ⟨⟨_, rfl, by rw [HQ.out]; rfl⟩, HGW.out.bel⟩
set_option maxRecDepth 100000 in
theorem vExists_any (w0 W : World) (b o : Nat) (t : T) (A : Option Addr) (n cc : Nat) (keys : List ByteArray) (hE : ErrV w0) (hR : ErrR w0) (hg : GW w0 W t b o)
    (hA : Kd.string.C w0 A n keys) (hks : ∀ k ∈ keys, k.size ≤ 1000) (hn : n ≤ 2147483647) (hc : n ≤ cc) :
    Calls Tryd.prog 40 #[.pointer (some ⟨b, o, none⟩), .slice A n cc] W fun e W' => e = .returned (.bool (getB t keys)) ∧ Below w0.heap.size w0 W' := by
  have HV := Lib.hid (vGet_any w0 W b o t A n cc keys hE hR hg hA hks hn hc)
  clear hE hR hg hA hks
  cases hG : getB t keys with
  | true =>
    rw [hG] at HV
    go_enter Tryd.func40, Tryd.ntmps40
    go_wp2_with (go_at_call 62; refine HV.out.mono ?_; rintro e w1 ⟨⟨r, rfl, hr⟩, hb⟩; obtain ⟨⟨pb, po, pn⟩, rfl⟩ := Option.isSome_iff_exists.1 hr; have HB := Lib.hid hb; clear hb hr)
    go_ret
    exact ⟨rfl, HB.out⟩
  | false =>
    rw [hG] at HV
    go_enter Tryd.func40, Tryd.ntmps40
    go_wp2_with (go_at_call 62; refine HV.out.mono ?_; rintro e w1 ⟨⟨r, rfl, hr⟩, hb⟩; obtain rfl : r = none := Option.not_isSome_iff_eq_none.1 (by rw [hr]; exact Bool.false_ne_true); have HB := Lib.hid hb; clear hb hr)
    go_ret
    exact ⟨rfl, HB.out⟩
/-- What FjExists says. -/
def exB (l : L) (keys : List ByteArray) : Bool := match parse0 l with | some t => getB t keys | none => false
set_option maxHeartbeats 4000000 in
set_option maxRecDepth 100000 in
theorem FjExists_any (w : World) (s : ByteArray) (A : Option Addr) (n cc : Nat) (keys : List ByteArray) (hs : s.size ≤ 90000) (hE : ErrV w) (hR : ErrR w) (hN : ∀ t, parse0 (bytesOf s) = some t → okN t)
    (hA : Kd.string.C w A n keys) (hks : ∀ k ∈ keys, k.size ≤ 1000) (hn : n ≤ 2147483647) (hc : n ≤ cc) :
    Calls Tryd.prog 19 #[.string s, .slice A n cc] w fun e w' => e = .returned (.bool (exB (bytesOf s) keys)) ∧ Below w.heap.size w w' := by
  have HP := Lib.hid (parse_new2 w s hs)
  have hbl := bytesOf_length s
  cases hr : parse0 (bytesOf s) with
  | none =>
    rw [hr] at HP
    have HX := Lib.hid (show exB (bytesOf s) keys = false by unfold exB; rw [hr])
    clear hr hE hR hN hA hks
    go_enter Tryd.func19, Tryd.ntmps19
    go_wp2_with (go_at_call 26; refine HP.out.mono ?_; rintro e w1 ⟨hb, N, rfl⟩; have HB := Lib.hid hb; clear hb)
    go_ret
    exact ⟨by rw [HX.out]; rfl, HB.out⟩
  | some t =>
    rw [hr] at HP
    have HX := Lib.hid (show exB (bytesOf s) keys = getB t keys by unfold exB; rw [hr])
    have HV := Lib.hid (fun (W : World) (b o : Nat) (hk : okT t) (hl : (out t).length ≤ 90000) (hp : rep W (In2 w W) t b o) (hb : Below w.heap.size w W) => vExists_any w W b o t A n cc keys hE hR ⟨hb, hp, hN t hr, hk, hl⟩ hA hks hn hc)
    clear hr hE hR hN hA hks
    go_enter Tryd.func19, Tryd.ntmps19
    go_wp2_with (first
      | (go_at_call 26; refine HP.out.mono ?_; rintro e w1 ⟨hb, b, o, rfl, hk, hrp, hl⟩; have HI := Lib.hid (HV.out w1 b o hk (by omega) hrp hb); clear hb hk hrp hl)
      | (go_at_call 40; refine HI.out.mono ?_; rintro e w2 ⟨rfl, hb⟩; have HB := Lib.hid hb; clear hb))
    go_ret
    exact ⟨by rw [HX.out]; rfl, HB.out⟩
end Go.Proofs.YtalcjolomigedaaDoor.Fp
