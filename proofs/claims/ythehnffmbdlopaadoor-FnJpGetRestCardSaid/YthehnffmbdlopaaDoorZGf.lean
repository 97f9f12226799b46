/- Several texts in one. -/
import Derived.Test.YthehnffmbdlopaaDoorZGx5
import Derived.Test.YthehnffmbdlopaaDoorZGd
import Derived.Test.YthehnffmbdlopaaDoorZGa
import Derived.Test.YthehnffmbdlopaaDoorZPFnJpGetRestx0
import Derived.Test.YthehnffmbdlopaaDoorZGx7
import Derived.Test.YthehnffmbdlopaaDoorZGb
import Derived.Deep.LoopGhost
import Derived.Deep.DeepCutAuto
set_option linter.unusedVariables false
set_option linter.unusedSimpArgs false
namespace Go.Proofs.YthehnffmbdlopaaDoor.Jp
open Go.RowKit Go.Proofs.YthehnffmbdlopaaDoorW.PrintWords Go.Proofs.YthehnffmbdlopaaDoorW.PrintLast Go.Proofs.YthehnffmbdlopaaDoorW.PrintMore Go.Proofs.YthehnffmbdlopaaDoor.Aid Go.Proofs.YthehnffmbdlopaaDoor.J
open Go.Proofs.YthehnffmbdlopaaDoor.Fp (dstep dval dig_iff)

/-- An index in decimal digits without a needless zero. -/
def ixN (s : ByteArray) : Option Nat := if bytesOf s ≠ [] ∧ (bytesOf s).all dig = true ∧ ((bytesOf s).length > 1 → (bytesOf s).head? ≠ some 48) then some (dval (bytesOf s)).toNat else none
def rel58 (a D : Int) : Prop := a = D ∨ (288230376151711744 ≤ a ∧ 288230376151711744 ≤ D)
theorem fold_nonneg : ∀ (l : L) (a : Int), 0 ≤ a → l.all dig = true → a ≤ l.foldl dstep a
  | [], a, h, _ => Int.le_refl _
  | c :: l, a, h, hd => by
    rw [List.all_cons, Bool.and_eq_true] at hd
    have hc := dig_iff.1 hd.1
    have := fold_nonneg l (dstep a c) (by unfold dstep; omega) hd.2
    rw [List.foldl_cons]
    have : a ≤ dstep a c := by unfold dstep; omega
    omega
open Go.Proofs.YthehnffmbdlopaaDoor.PFnJpGetRest in
theorem ix_l0 (s : ByteArray) (hs : s.size ≤ 2147483647) : ∀ (m i k : Nat) (n : Int), i + m = s.size → 2 * m + 2 ≤ k → 0 ≤ n → n ≤ 4611686018427387904 → ∃ r, spec_Index.l0 k s n (i : Int) = some r ∧
    (((bytesOf s).drop i).all dig = true → r.2 = true ∧ 0 ≤ r.1 ∧ ∀ D, 0 ≤ D → rel58 n D → rel58 r.1 (((bytesOf s).drop i).foldl dstep D)) ∧ (((bytesOf s).drop i).all dig = false → r.2 = false) := by
  intro m
  induction m with
  | zero =>
    intro i k n hi hk h0 h1
    obtain ⟨k, rfl⟩ : ∃ j, k = j + 1 := ⟨k - 1, by omega⟩
    refine ⟨(n, true), ?_, ?_, ?_⟩
    · rw [spec_Index.l0, if_neg (by omega)]
    · rw [List.drop_of_length_le (by rw [bytesOf_length]; omega)]
      exact fun _ => ⟨rfl, h0, fun D _ h => h⟩
    · rw [List.drop_of_length_le (by rw [bytesOf_length]; omega)]
      intro h; cases h
  | succ m ih =>
    intro i k n hi hk h0 h1
    obtain ⟨k, rfl⟩ : ∃ j, k = j + 2 := ⟨k - 2, by omega⟩
    have hg := bytesOf_get? s i (by omega)
    have hlt : i < (bytesOf s).length := by rw [bytesOf_length]; omega
    have hdr : (bytesOf s).drop i = bt s i :: (bytesOf s).drop (i + 1) := by
      rw [List.drop_eq_getElem_cons hlt]
      rw [List.getElem?_eq_getElem hlt] at hg
      injection hg with hg; rw [hg]
    rw [hdr]
    have hw : wrap64 ((i : Int) + 1) = ((i + 1 : Nat) : Int) := by unfold wrap64; omega
    obtain ⟨c, hc⟩ : ∃ c, c = bt s i := ⟨_, rfl⟩
    have hrc : 0 ≤ c ∧ c < 256 := by
      rw [hc]; exact bytesOf_range s _ (List.mem_of_getElem? hg)
    rw [← hc]
    by_cases hd : dig c = true
    · have hd2 := dig_iff.1 hd
      obtain ⟨n2, hn2, h20, h21, hrel⟩ : ∃ n2 : Int, spec_Index.l0 (k + 2) s n (i : Int) = spec_Index.l0 k s n2 ((i + 1 : Nat) : Int) ∧ 0 ≤ n2 ∧ n2 ≤ 4611686018427387904 ∧ ∀ D, 0 ≤ D → rel58 n D → rel58 n2 (dstep D c) := by
        by_cases hn : n < 288230376151711744
        · refine ⟨dstep n c, ?_, by unfold dstep; omega, by unfold dstep; omega, fun D hD h => ?_⟩
          · rw [spec_Index.l0, if_pos (by omega), if_pos (by omega), ← hc, if_neg (by omega), spec_Index.j2]
            rw [if_neg (by rw [decide_eq_true_iff]; omega), if_pos hn, hw]
            congr 1
            unfold dstep wrap64; omega
          · unfold rel58 dstep at *; omega
        · refine ⟨4611686018427387904, ?_, by omega, by omega, fun D hD h => ?_⟩
          · rw [spec_Index.l0, if_pos (by omega), if_pos (by omega), ← hc, if_neg (by omega), spec_Index.j2]
            rw [if_neg (by rw [decide_eq_true_iff]; omega), if_neg hn, hw]
          · unfold rel58 dstep at *; omega
      obtain ⟨r, hr, h2, h3⟩ := ih (i + 1) k n2 (by omega) (by omega) h20 h21
      refine ⟨r, hn2.trans hr, ?_, ?_⟩
      · intro h
        rw [List.all_cons, Bool.and_eq_true] at h
        obtain ⟨e1, e2, e3⟩ := h2 h.2
        exact ⟨e1, e2, fun D hD hh => by rw [List.foldl_cons]; exact e3 _ (by unfold dstep; omega) (hrel D hD hh)⟩
      · intro h
        rw [List.all_cons, hd, Bool.true_and] at h
        exact h3 h
    · have hd2 : c < 48 ∨ 57 < c := by
        rcases Int.lt_or_le c 48 with h | h
        · exact .inl h
        · rcases Int.lt_or_le 57 c with h' | h'
          · exact .inr h'
          · exact absurd (dig_iff.2 ⟨h, h'⟩) hd
      refine ⟨(0, false), ?_, ?_, fun _ => rfl⟩
      · rw [spec_Index.l0, if_pos (by omega), if_pos (by omega), ← hc]
        by_cases h48 : c < 48
        · rw [if_pos h48, spec_Index.j2, if_pos rfl]
        · rw [if_neg h48, spec_Index.j2, if_pos (by rw [decide_eq_true_iff]; omega)]
      · intro h
        rw [List.all_cons, Bool.and_eq_true] at h
        exact absurd h.1 hd
theorem toList_nil (s : ByteArray) : s.toList = [] ↔ s.size = 0 := by
  rw [ByteArray.toList_eq]
  constructor
  · intro h
    have h2 : s.data.toList.length = s.size := Array.length_toList
    rw [h] at h2
    exact h2.symm
  · intro h
    exact List.eq_nil_of_length_eq_zero (Array.length_toList.trans h)
/-- What Index hands back. -/
def IdxP (s : ByteArray) (r : Int × Bool) : Prop := (r.2 = true ∧ ∃ m : Nat, ixN s = some m ∧ 0 ≤ r.1 ∧ rel58 r.1 m) ∨ (r.2 = false ∧ ixN s = none)
theorem bt_head {s : ByteArray} (h : 0 < s.size) : (bytesOf s).head? = some (bt s 0) := by
  rw [List.head?_eq_getElem?]
  exact bytesOf_get? s 0 h
open Go.Proofs.YthehnffmbdlopaaDoor.PFnJpGetRest in
theorem ix_f (s : ByteArray) (hs : s.size ≤ 2147483647) : ∀ k, 2 * s.size + 3 ≤ k → ∃ r, spec_Index.f k s = some r ∧ IdxP s r := by
  intro k hk
  obtain ⟨k, rfl⟩ : ∃ j, k = j + 1 := ⟨k - 1, by omega⟩
  have hbl := bytesOf_length s
  by_cases h0 : s.size = 0
  · have hb : bytesOf s = [] := List.eq_nil_of_length_eq_zero (by omega)
    refine ⟨(0, false), ?_, .inr ⟨rfl, by unfold ixN; rw [if_neg (by rw [hb]; simp)]⟩⟩
    have e : s.toList = [] := (toList_nil s).2 h0
    unfold spec_Index.f
    rw [if_pos e, spec_Index.j0, if_pos rfl]
  have hne : ¬ s.toList = [] := fun e => h0 ((toList_nil s).1 e)
  have hb0 : bytesOf s ≠ [] := fun e => by rw [e] at hbl; simp at hbl; omega
  obtain ⟨r, hr, h2, h3⟩ := ix_l0 s hs s.size 0 k 0 (by omega) (by omega) (by omega) (by omega)
  rw [List.drop_zero] at h2 h3
  have main : ∀ (hz : (bytesOf s).length > 1 → (bytesOf s).head? ≠ some 48), IdxP s r := fun hz => by
    cases hd : (bytesOf s).all dig with
    | true =>
      obtain ⟨e1, e2, e3⟩ := h2 hd
      have hn := fold_nonneg (bytesOf s) 0 (by omega) hd
      refine .inl ⟨e1, (dval (bytesOf s)).toNat, ?_, e2, ?_⟩
      · unfold ixN; rw [if_pos ⟨hb0, hd, hz⟩]
      · have := e3 0 (by omega) (.inl rfl)
        rw [show (((dval (bytesOf s)).toNat : Nat) : Int) = dval (bytesOf s) from Int.toNat_of_nonneg hn]
        exact this
    | false => exact .inr ⟨h3 hd, by unfold ixN; rw [if_neg (by rw [hd]; simp)]⟩
  by_cases h1 : s.size > 1
  · by_cases hz : bt s 0 = 48
    · refine ⟨(0, false), ?_, .inr ⟨rfl, ?_⟩⟩
      · unfold spec_Index.f
        rw [if_neg hne, if_pos (by omega), if_pos (by omega), spec_Index.j0, if_pos (by rw [hz]; rfl)]
      · unfold ixN; rw [if_neg ?_]
        rintro ⟨_, _, h⟩
        exact h (by omega) (by rw [bt_head (by omega), hz])
    · refine ⟨r, ?_, main fun _ e => hz ?_⟩
      · unfold spec_Index.f
        rw [if_neg hne, if_pos (by omega), if_pos (by omega), spec_Index.j0, if_neg (by rw [beq_iff_eq]; exact hz)]
        exact hr
      · rw [bt_head (by omega)] at e
        exact Option.some.inj e
  · refine ⟨r, ?_, main fun h => by omega⟩
    unfold spec_Index.f
    rw [if_neg hne, if_neg (by omega), spec_Index.j0, if_neg (by decide)]
    exact hr
end Go.Proofs.YthehnffmbdlopaaDoor.Jp

set_option linter.unusedVariables false
set_option linter.unusedSimpArgs false
namespace Go.Proofs.YthehnffmbdlopaaDoor.Jp
open Go.RowKit Go.Proofs.YthehnffmbdlopaaDoorW.PrintWords Go.Proofs.YthehnffmbdlopaaDoorW.PrintLast Go.Proofs.YthehnffmbdlopaaDoorW.PrintMore Go.Proofs.YthehnffmbdlopaaDoor.Aid Go.Proofs.YthehnffmbdlopaaDoor.J
open Go.Proofs.YthehnffmbdlopaaDoor.PFnJpGetRest (S43 S27 k43 k27 F27 z43 z27)

def toSp (x : Sp) : S43 := ⟨x.b, x.e⟩
mutual
def toS : Pl → S27
  | ⟨k, b, e, ns, ks⟩ => ⟨k, b, e, ns.map toSp, toSs ks⟩
def toSs : List Pl → List S27
  | [] => []
  | p :: ks => toS p :: toSs ks
end
theorem toSs_map : ∀ ks, toSs ks = ks.map toS
  | [] => by rw [toSs]; rfl
  | p :: ks => by rw [toSs, toSs_map ks]; rfl
theorem toS_eq (p : Pl) : toS p = ⟨p.kind, p.b, p.e, p.names.map toSp, toSs p.kids⟩ := by cases p; rw [toS]
theorem C_map {α β : Type} {d : Kd α} {d' : Kd β} (f : α → β) (hsz : d.sz = d'.sz) {w : World} (hK : ∀ x cs, d.K w x cs → d'.K w (f x) cs) {A : Option Addr} {n : Nat} {xs : List α} (h : Kd.C d w A n xs) : Kd.C d' w A n (xs.map f) := by
  obtain ⟨h1, h2, h3⟩ := h
  refine ⟨by rw [List.length_map]; exact h1, h2, fun hn => ?_⟩
  obtain ⟨ad, e, hc⟩ := h3 hn
  refine ⟨ad, e, fun j p hp => ?_⟩
  rw [List.getElem?_map] at hp
  obtain ⟨q, hq, rfl⟩ := Option.map_eq_some_iff.1 hp
  obtain ⟨c, c1, c2, c3⟩ := hc j q hq
  exact ⟨c, c1.trans hsz, hK q c c2, by rw [← hsz]; exact c3⟩
theorem K_sp (w : World) (x : Sp) (cs : List Value) (h : kSp.K w x cs) : k43.K w (toSp x) cs := by
  have := kSp_open h
  subst this
  exact ⟨[.int .i64 x.b], [.int .i64 x.e], rfl, rfl, rfl⟩
theorem K_pl_n : ∀ (n : Nat) (w : World) (x : Pl) (cs : List Value), (Kd.upto FPl 5 [tPl, tSp] n).K w x cs → (Kd.upto F27 5 [27, 43] n).K w (toS x) cs
  | 0, w, x, cs, h => h.elim
  | n + 1, w, x, cs, h => by
    obtain ⟨_, _, rfl, rfl, ⟨_, _, rfl, rfl, ⟨_, _, rfl, rfl, ⟨_, _, rfl, ⟨A3, c3, rfl, l3, g3⟩, ⟨A4, c4, rfl, l4, g4⟩⟩⟩⟩⟩ := h
    rw [toS_eq]
    have e3 : (x.names.map toSp).length = x.names.length := List.length_map ..
    have e4 : (toSs x.kids).length = x.kids.length := by rw [toSs_map, List.length_map]
    have q3 := C_map toSp (by rfl) (K_sp w) g3
    have q4 := C_map toS (by rw [szPl, Go.Proofs.YthehnffmbdlopaaDoor.PFnJpGetRest.sz27]) (K_pl_n n w) g4
    rw [← toSs_map] at q4
    refine ⟨[.int .i64 x.kind], _, rfl, rfl, ⟨[.int .i64 x.b], _, rfl, rfl, ⟨[.int .i64 x.e], _, rfl, rfl, ⟨[.slice A3 x.names.length c3], [.slice A4 x.kids.length c4], rfl, ⟨A3, c3, by rw [e3], by rw [e3]; exact l3, by rw [e3]; exact q3⟩, ⟨A4, c4, by rw [e4], by rw [e4]; exact l4, by rw [e4]; exact q4⟩⟩⟩⟩⟩
theorem K_pl (w : World) (x : Pl) (cs : List Value) (h : kPl.K w x cs) : k27.K w (toS x) cs := by
  obtain ⟨n, h⟩ := h
  exact ⟨n, K_pl_n n w x cs h⟩
theorem V_pl {e : Nat} {W : World} {base : Nat} {ok : Nat → Prop} {v : Value} {xs : List Pl} (h : Kd.V kPl e W base ok v xs) : Kd.V k27 e W base ok v (toSs xs) := by
  obtain ⟨A, c, rfl, hl, hf⟩ := h
  have e4 : (toSs xs).length = xs.length := by rw [toSs_map, List.length_map]
  refine ⟨A, c, by rw [e4], by rw [e4]; exact hl, ?_⟩
  rw [e4]
  exact Kd.F_imp hf (fun W' hc => by rw [toSs_map]; exact C_map toS rfl (K_pl W') hc)
theorem V_sp {e : Nat} {W : World} {base : Nat} {ok : Nat → Prop} {v : Value} {xs : List Sp} (h : Kd.V kSp e W base ok v xs) : Kd.V k43 e W base ok v (xs.map toSp) := by
  obtain ⟨A, c, rfl, hl, hf⟩ := h
  have e4 : (xs.map toSp).length = xs.length := List.length_map ..
  refine ⟨A, c, by rw [e4], by rw [e4]; exact hl, ?_⟩
  rw [e4]
  exact Kd.F_imp hf (fun W' hc => C_map toSp rfl (K_sp W') hc)
end Go.Proofs.YthehnffmbdlopaaDoor.Jp

set_option linter.unusedVariables false
set_option linter.unusedSimpArgs false
namespace Go.Proofs.YthehnffmbdlopaaDoor.Jp
open Go.RowKit Go.Proofs.YthehnffmbdlopaaDoorW.PrintWords Go.Proofs.YthehnffmbdlopaaDoorW.PrintLast Go.Proofs.YthehnffmbdlopaaDoorW.PrintMore Go.Proofs.YthehnffmbdlopaaDoor.Aid Go.Proofs.YthehnffmbdlopaaDoor.J
open Go.Proofs.YthehnffmbdlopaaDoor.PFnJpGetRest

theorem wr64 (n : Int) (h0 : -9223372036854775808 ≤ n) (h1 : n ≤ 9223372036854775807) : wrap64 n = n := by unfold wrap64; omega
theorem rd_sp (ns : List Sp) (i : Nat) (hi : i < ns.length) : rd_T43 (ns.map toSp) (i : Int) = toSp (ns.getD i zSp) := by
  unfold rd_T43
  rw [Int.toNat_natCast, List.getD_eq_getElem?_getD, List.getElem?_map, List.getD_eq_getElem?_getD, List.getElem?_eq_getElem hi]; rfl
theorem rd_pl (ks : List Pl) (i : Nat) (hi : i < ks.length) : rd_T27 (toSs ks) (i : Int) = toS (ks.getD i zPl) := by
  unfold rd_T27
  rw [toSs_map, Int.toNat_natCast, List.getD_eq_getElem?_getD, List.getElem?_map, List.getD_eq_getElem?_getD, List.getElem?_eq_getElem hi]; rfl
/-- A name of a place, unquoted. -/
theorem unq_f {s : ByteArray} (hs : s.size ≤ 2147483647) {n : Sp} (h : okQ s n.b n.e) (k : Nat) : (0 ≤ n.b ∧ n.b ≤ n.e ∧ n.e ≤ (s.size : Int)) ∧ spec_Unquote.f k (s.extract n.b.toNat n.e.toNat) = some (key s n) := by
  obtain ⟨⟨h1, h2, h3⟩, h4⟩ := h
  refine ⟨⟨h1, by omega, h3⟩, ?_⟩
  unfold spec_Unquote.f
  have hsz : (s.extract n.b.toNat n.e.toNat).size = n.e.toNat - n.b.toNat := by
    rw [← bytesOf_length, bytesOf_extract, List.length_take, List.length_drop, bytesOf_length]; omega
  rw [if_pos (show okU (s.extract n.b.toNat n.e.toNat) from ⟨by omega, by omega, h4⟩)]; rfl
theorem named_l0 {s : ByteArray} (hs : s.size ≤ 2147483647) (K : ByteArray) {ns : List Sp} (hn : ns.length ≤ 2147483647) (hq : ∀ n ∈ ns, okQ s n.b n.e) (a b c : Int) (l4 : List S27) : ∀ (m i k : Nat), i + m = ns.length → m + 1 ≤ k →
    spec_Named.l0 k s K (i : Int) a b c (ns.map toSp) l4 = some (match fidx K ((ns.map (key s)).drop i) with | some j => ((i + j : Nat) : Int) | none => -1)
  | 0, i, k, hi, hk => by
    obtain ⟨k, rfl⟩ : ∃ j, k = j + 1 := ⟨k - 1, by omega⟩
    rw [spec_Named.l0, if_neg (by rw [List.length_map]; omega), List.drop_eq_nil_of_le (by rw [List.length_map]; omega), fidx]
  | m + 1, i, k, hi, hk => by
    obtain ⟨k, rfl⟩ : ∃ j, k = j + 1 := ⟨k - 1, by omega⟩
    have hlt : i < ns.length := by omega
    have hmem : ns.getD i zSp ∈ ns := by rw [List.getD_eq_getElem?_getD, List.getElem?_eq_getElem hlt]; exact List.getElem_mem _
    obtain ⟨⟨g1, g2, g3⟩, g4⟩ := unq_f hs (hq _ hmem) k
    rw [spec_Named.l0, if_pos (by rw [List.length_map]; omega), if_pos (by omega), rd_sp ns i hlt]
    show (if 0 ≤ (ns.getD i zSp).b then (if (ns.getD i zSp).b ≤ (ns.getD i zSp).e then (if (ns.getD i zSp).e ≤ (s.size : Int) then ((spec_Unquote.f k (s.extract (ns.getD i zSp).b.toNat (ns.getD i zSp).e.toNat)).bind fun t => if t.toList = K.toList then some (i : Int) else spec_Named.l0 k s K (wrap64 ((i : Int) + 1)) a b c (ns.map toSp) l4) else none) else none) else none) = _
    rw [if_pos g1, if_pos g2, if_pos g3, g4]
    have hd : (ns.map (key s)).drop i = key s (ns.getD i zSp) :: (ns.map (key s)).drop (i + 1) := by
      rw [List.drop_eq_getElem_cons (by rw [List.length_map]; exact hlt), List.getElem_map, List.getD_eq_getElem?_getD, List.getElem?_eq_getElem hlt]; rfl
    rw [hd, fidx]
    simp only [Option.bind_some]
    have hbt : (key s (ns.getD i zSp)).toList = K.toList ↔ key s (ns.getD i zSp) = K := by
      constructor
      · intro h
        rw [ByteArray.toList_eq, ByteArray.toList_eq] at h
        generalize key s (ns.getD i zSp) = x at h ⊢
        cases x; cases K; congr; exact Array.toList_inj.1 h
      · intro h; rw [h]
    by_cases he : key s (ns.getD i zSp) = K
    · rw [if_pos (hbt.2 he), if_pos he]; simp
    · rw [if_neg (fun h => he (hbt.1 h)), if_neg he, wr64 _ (by omega) (by omega), show (i : Int) + 1 = ((i + 1 : Nat) : Int) by omega, named_l0 hs K hn hq a b c l4 m (i + 1) k (by omega) (by omega)]
      cases fidx K ((ns.map (key s)).drop (i + 1)) with
      | none => rfl
      | some j => show some ((i + 1 + j : Nat) : Int) = some ((i + (j + 1) : Nat) : Int); congr 2; omega
theorem named_f {s : ByteArray} (hs : s.size ≤ 2147483647) (K : ByteArray) {ns : List Sp} (hn : ns.length ≤ 2147483647) (hq : ∀ n ∈ ns, okQ s n.b n.e) (a b c : Int) (l4 : List S27) (k : Nat) (hk : ns.length + 1 ≤ k) :
    spec_Named.f k s a b c (ns.map toSp) l4 K = some (match fidx K (ns.map (key s)) with | some j => (j : Int) | none => -1) := by
  unfold spec_Named.f
  have := named_l0 hs K hn hq a b c l4 ns.length 0 k (by omega) hk
  rw [List.drop_zero] at this
  simp only [Nat.zero_add] at this
  exact this
theorem bracket_f (K : ByteArray) (hK : K.size ≤ 2147483647) (k : Nat) (hk : 2 * K.size + 9 ≤ k) : ∃ r, spec_Bracket.f k K = some r ∧ (r.2 = true → 0 ≤ r.1) ∧ (nameK K = true → r.2 = false) := by
  unfold spec_Bracket.f
  by_cases h3 : (K.size : Int) < 3
  · exact ⟨_, if_pos h3, (fun h => by cases h), fun _ => rfl⟩
  rw [if_neg h3, if_pos (by omega)]
  by_cases h91 : bt K 0 = 91
  · rw [if_pos h91, wr64 _ (by omega) (by omega), if_pos (by omega), if_pos (by omega)]
    by_cases h93 : bt K ((K.size : Int) - 1) = 93
    · rw [if_pos h93, if_pos (by omega), if_pos (by omega)]
      have hsz : (K.extract 1 ((K.size : Int) - 1).toNat).size ≤ K.size := by
        rw [← bytesOf_length, bytesOf_extract, List.length_take, List.length_drop, bytesOf_length]; omega
      obtain ⟨r, hr, hp⟩ := ix_f (K.extract 1 ((K.size : Int) - 1).toNat) (by omega) k (by omega)
      rw [hr]
      refine ⟨(r.1, r.2), rfl, fun ht => ?_, fun hn => ?_⟩
      · rcases hp with ⟨_, m, _, h0, _⟩ | ⟨h1, h2⟩
        · exact h0
        · exact absurd (ht : r.2 = true) (by rw [h1]; decide)
      · exfalso
        unfold nameK at hn
        rw [List.head?_eq_getElem?, bytesOf_get? K 0 (by omega)] at hn
        have h2 : bt K ((0 : Nat) : Int) = 91 := h91
        rw [h2] at hn
        exact absurd hn (by decide)
    · rw [if_neg h93]; exact ⟨_, rfl, (fun h => by cases h), fun _ => rfl⟩
  · rw [if_neg h91]; exact ⟨_, rfl, (fun h => by cases h), fun _ => rfl⟩

/-- A place as the print's functions hand it over. -/
def tup (q : Pl) : Int × Int × Int × List S43 × List S27 × Bool := (q.kind, q.b, q.e, q.names.map toSp, toSs q.kids, true)
theorem rd_tup (ks : List Pl) (i : Nat) (hi : i < ks.length) : ((rd_T27 (toSs ks) (i : Int)).f0, (rd_T27 (toSs ks) (i : Int)).f1, (rd_T27 (toSs ks) (i : Int)).f2, (rd_T27 (toSs ks) (i : Int)).f3, (rd_T27 (toSs ks) (i : Int)).f4, true) = tup (ks.getD i zPl) := by
  rw [rd_pl ks i hi, toS_eq]; rfl
theorem kid_mem {ks : List Pl} {i : Nat} (hi : i < ks.length) : ks.getD i zPl ∈ ks := by rw [List.getD_eq_getElem?_getD, List.getElem?_eq_getElem hi]; exact List.getElem_mem _
theorem kid_get {ks : List Pl} {i : Nat} (hi : i < ks.length) : ks[i]? = some (ks.getD i zPl) := by rw [List.getD_eq_getElem?_getD, List.getElem?_eq_getElem hi]; rfl
def none6 : Int × Int × Int × List S43 × List S27 × Bool := (0, 0, 0, [], [], false)
/-- A step: to a kid, or nowhere; by a name as the plain step says. -/
def SR1 (s : ByteArray) (p : Pl) (K : ByteArray) (R : Int × Int × Int × List S43 × List S27 × Bool) : Prop :=
  (R = none6 ∧ (nameK K = true → step s p K = none)) ∨ (∃ q, q ∈ p.kids ∧ R = tup q ∧ (nameK K = true → step s p K = some q))
theorem step_f {s : ByteArray} (hs : s.size ≤ 2147483647) {p : Pl} (ho : okT s p) (hl : okL p) (K : ByteArray) (hK : K.size ≤ 2147483647) (k : Nat) (hk : s.size + 2 * K.size + 20 ≤ k) :
    ∃ R, spec_Step.f k s p.kind p.b p.e (p.names.map toSp) (toSs p.kids) K = some R ∧ SR1 s p K R := by
  have hon : (p.names.length ≤ s.size ∧ p.kids.length ≤ s.size) ∧ ∀ n ∈ p.names, okQ s n.b n.e := by
    cases p; rw [okT] at ho; exact ⟨ho.1.2, ho.2.2.1⟩
  have hol := (okL_eq p).1 hl
  have hkl : (toSs p.kids).length = p.kids.length := by rw [toSs_map, List.length_map]
  unfold spec_Step.f
  by_cases h6 : p.kind = 6
  · rw [if_pos h6, named_f hs K (by omega) hon.2 _ _ _ _ k (by omega)]
    simp only [Option.bind_some]
    have hst : step s p K = (fidx K (p.names.map (key s))).bind fun k => p.kids[k]? := by unfold step; rw [if_pos h6]
    cases hf : fidx K (p.names.map (key s)) with
    | none =>
      simp only []
      rw [if_pos (by omega)]
      exact ⟨_, rfl, .inl ⟨rfl, fun _ => by rw [hst, hf]; rfl⟩⟩
    | some j =>
      simp only []
      have hj := (fidx_lt hf).1
      rw [List.length_map, hol.1 h6] at hj
      rw [if_neg (by omega), if_pos (by omega), if_pos (by rw [hkl]; omega), rd_tup _ _ hj]
      exact ⟨_, rfl, .inr ⟨_, kid_mem hj, rfl, fun _ => by rw [hst, hf]; exact kid_get hj⟩⟩
  · rw [if_neg h6]
    have hst0 : nameK K = true → step s p K = none := fun hn => by
      unfold step; rw [if_neg h6, brk_name hn]; split <;> rfl
    by_cases h5 : p.kind = 5
    · rw [if_pos h5]
      obtain ⟨r, hr, hr1, hr2⟩ := bracket_f K hK k (by omega)
      rw [hr]
      simp only [Option.bind_some]
      obtain ⟨k, rfl⟩ : ∃ j, k = j + 1 := ⟨k - 1, by omega⟩
      by_cases ht : r.2 = true
      · rw [if_pos ht, spec_Step.j0]
        by_cases hlt : r.1 < ((toSs p.kids).length : Int)
        · rw [if_pos (decide_eq_true hlt), if_neg (by have := hr1 ht; omega), if_pos (hr1 ht), if_pos hlt]
          obtain ⟨j, hj⟩ : ∃ j : Nat, r.1 = (j : Int) := ⟨r.1.toNat, by have := hr1 ht; omega⟩
          rw [hj] at hlt ⊢
          have hj2 : j < p.kids.length := by rw [hkl] at hlt; omega
          rw [rd_tup _ _ hj2]
          exact ⟨_, rfl, .inr ⟨_, kid_mem hj2, rfl, fun hn => absurd (hr2 hn) (by rw [ht]; decide)⟩⟩
        · rw [if_neg (by rw [decide_eq_true_iff]; exact hlt), if_pos (by decide)]
          exact ⟨_, rfl, .inl ⟨rfl, hst0⟩⟩
      · rw [if_neg ht, spec_Step.j0, if_neg (by decide), if_pos (by decide)]
        exact ⟨_, rfl, .inl ⟨rfl, hst0⟩⟩
    · rw [if_neg h5, if_pos (by decide)]
      exact ⟨_, rfl, .inl ⟨rfl, hst0⟩⟩
/-- Once always answers. -/
def Ev (f : Nat → Option Bool) : Prop := ∃ r k0, ∀ k, k0 ≤ k → f k = some r
theorem okT_kid {s : ByteArray} {p q : Pl} (h : okT s p) (hq : q ∈ p.kids) : okT s q := by
  cases p; rw [okT] at h; exact okTs_mem h.2.2.2 q hq
theorem okL_kid {p q : Pl} (h : okL p) (hq : q ∈ p.kids) : okL q := ((okL_eq p).1 h).2 q hq
theorem rdOf_nat (keys : List ByteArray) (i : Nat) (hi : i < keys.length) : rdOf ByteArray.empty keys (i : Int) ∈ keys := by
  unfold rdOf
  rw [Int.toNat_natCast, List.getD_eq_getElem?_getD, List.getElem?_eq_getElem hi]; exact List.getElem_mem _
theorem once_l1 {s : ByteArray} (hs : s.size ≤ 2147483647) {p : Pl} (ho : okT s p) (hl : okL p) (K : ByteArray) (hK : K.size ≤ 2147483647) (keys : List ByteArray) (n : Int) (i : Nat) (hi : i ≤ 2147483647)
    (next : ∀ q, q ∈ p.kids → Ev fun k => spec_Once.l0 k s keys n ((i : Int) + 1) q.kind q.b q.e (q.names.map toSp) (toSs q.kids)) : ∀ (m j : Nat) (c : Int), j + m = p.names.length → 0 ≤ c → c ≤ (j : Int) →
    Ev fun k => spec_Once.l1 k s K c (j : Int) keys n (i : Int) p.kind p.b p.e (p.names.map toSp) (toSs p.kids) := by
  have hon : (p.names.length ≤ s.size ∧ p.kids.length ≤ s.size) ∧ ∀ n ∈ p.names, okQ s n.b n.e := by
    cases p; rw [okT] at ho; exact ⟨ho.1.2, ho.2.2.1⟩
  intro m
  induction m with
  | zero =>
    intro j c hj hc0 hc1
    by_cases hc : c > 1
    · refine ⟨false, 1, fun k hk => ?_⟩
      obtain ⟨k, rfl⟩ : ∃ z, k = z + 1 := ⟨k - 1, by omega⟩
      simp only []
      rw [spec_Once.l1, if_neg (by rw [List.length_map]; omega), if_pos hc]
    · obtain ⟨R, hR, hR2⟩ := step_f hs ho hl K hK (s.size + 2 * K.size + 20) (Nat.le_refl _)
      have hRk : ∀ k, s.size + 2 * K.size + 20 ≤ k → spec_Step.f k s p.kind p.b p.e (p.names.map toSp) (toSs p.kids) K = some R := by
        intro k hk
        induction k with
        | zero => omega
        | succ k ih =>
          rcases Nat.lt_or_ge k (s.size + 2 * K.size + 20) with h | h
          · rw [show k + 1 = s.size + 2 * K.size + 20 by omega]; exact hR
          · exact spec_Step.mono _ _ _ _ _ _ _ _ _ (ih h)
      rcases hR2 with ⟨rfl, _⟩ | ⟨q, hq, rfl, _⟩
      · refine ⟨true, s.size + 2 * K.size + 21, fun k hk => ?_⟩
        obtain ⟨k, rfl⟩ : ∃ z, k = z + 1 := ⟨k - 1, by omega⟩
        simp only []
        rw [spec_Once.l1, if_neg (by rw [List.length_map]; omega), if_neg hc, hRk k (by omega)]
        rfl
      · obtain ⟨r, k0, h0⟩ := next q hq
        refine ⟨r, max k0 (s.size + 2 * K.size + 20) + 1, fun k hk => ?_⟩
        obtain ⟨k, rfl⟩ : ∃ z, k = z + 1 := ⟨k - 1, by omega⟩
        simp only []
        rw [spec_Once.l1, if_neg (by rw [List.length_map]; omega), if_neg hc, hRk k (by omega)]
        simp only [Option.bind_some]
        show (if true = true then _ else _) = _
        rw [if_pos rfl, wr64 _ (by omega) (by omega)]
        exact h0 k (by omega)
  | succ m ih =>
    intro j c hj hc0 hc1
    have hlt : j < p.names.length := by omega
    have hmem : p.names.getD j zSp ∈ p.names := by rw [List.getD_eq_getElem?_getD, List.getElem?_eq_getElem hlt]; exact List.getElem_mem _
    obtain ⟨r1, k1, h1⟩ := ih (j + 1) (c + 1) (by omega) (by omega) (by omega)
    obtain ⟨r2, k2, h2⟩ := ih (j + 1) c (by omega) (by omega) (by omega)
    have body : ∀ k, spec_Once.l1 (k + 1) s K c (j : Int) keys n (i : Int) p.kind p.b p.e (p.names.map toSp) (toSs p.kids) = (if (key s (p.names.getD j zSp)).toList = K.toList then spec_Once.l1 k s K (c + 1) ((j + 1 : Nat) : Int) keys n (i : Int) p.kind p.b p.e (p.names.map toSp) (toSs p.kids) else spec_Once.l1 k s K c ((j + 1 : Nat) : Int) keys n (i : Int) p.kind p.b p.e (p.names.map toSp) (toSs p.kids)) := by
      intro k
      obtain ⟨⟨g1, g2, g3⟩, g4⟩ := unq_f hs (hon.2 _ hmem) k
      rw [spec_Once.l1, if_pos (by rw [List.length_map]; omega), if_pos (by omega), rd_sp p.names j hlt]
      show (if 0 ≤ (p.names.getD j zSp).b then (if (p.names.getD j zSp).b ≤ (p.names.getD j zSp).e then (if (p.names.getD j zSp).e ≤ (s.size : Int) then ((spec_Unquote.f k (s.extract (p.names.getD j zSp).b.toNat (p.names.getD j zSp).e.toNat)).bind fun t => if t.toList = K.toList then spec_Once.l1 k s K (wrap64 (c + 1)) (wrap64 ((j : Int) + 1)) keys n (i : Int) p.kind p.b p.e (p.names.map toSp) (toSs p.kids) else spec_Once.l1 k s K c (wrap64 ((j : Int) + 1)) keys n (i : Int) p.kind p.b p.e (p.names.map toSp) (toSs p.kids)) else none) else none) else none) = _
      rw [if_pos g1, if_pos g2, if_pos g3, g4, wr64 (c + 1) (by omega) (by omega), wr64 ((j : Int) + 1) (by omega) (by omega), show (j : Int) + 1 = ((j + 1 : Nat) : Int) by omega]
      rfl
    by_cases he : (key s (p.names.getD j zSp)).toList = K.toList
    · refine ⟨r1, k1 + 1, fun k hk => ?_⟩
      obtain ⟨k, rfl⟩ : ∃ z, k = z + 1 := ⟨k - 1, by omega⟩
      simp only []
      rw [body, if_pos he]; exact h1 k (by omega)
    · refine ⟨r2, k2 + 1, fun k hk => ?_⟩
      obtain ⟨k, rfl⟩ : ∃ z, k = z + 1 := ⟨k - 1, by omega⟩
      simp only []
      rw [body, if_neg he]; exact h2 k (by omega)
theorem once_l0 {s : ByteArray} (hs : s.size ≤ 2147483647) (keys : List ByteArray) (hK : ∀ K ∈ keys, K.size ≤ 2147483647) (hk : keys.length ≤ 2147483647) : ∀ (m i : Nat) (p : Pl), i + m = keys.length → okT s p → okL p →
    Ev fun k => spec_Once.l0 k s keys (keys.length : Int) (i : Int) p.kind p.b p.e (p.names.map toSp) (toSs p.kids)
  | 0, i, p, hi, ho, hl => by
    refine ⟨true, 1, fun k hk => ?_⟩
    obtain ⟨k, rfl⟩ : ∃ z, k = z + 1 := ⟨k - 1, by omega⟩
    simp only []
    rw [spec_Once.l0, if_neg (by omega)]
  | m + 1, i, p, hi, ho, hl => by
    have hlt : i < keys.length := by omega
    have hKi := hK _ (rdOf_nat keys i hlt)
    have next : ∀ q, q ∈ p.kids → Ev fun k => spec_Once.l0 k s keys (keys.length : Int) ((i : Int) + 1) q.kind q.b q.e (q.names.map toSp) (toSs q.kids) := fun q hq => by
      have := once_l0 hs keys hK hk m (i + 1) q (by omega) (okT_kid ho hq) (okL_kid hl hq)
      rwa [show ((i + 1 : Nat) : Int) = (i : Int) + 1 by omega] at this
    by_cases h6 : p.kind = 6
    · obtain ⟨r, k0, h0⟩ := once_l1 hs ho hl _ hKi keys (keys.length : Int) i (by omega) next p.names.length 0 0 (by omega) (by omega) (by omega)
      refine ⟨r, k0 + 1, fun k hk => ?_⟩
      obtain ⟨k, rfl⟩ : ∃ z, k = z + 1 := ⟨k - 1, by omega⟩
      simp only []
      rw [spec_Once.l0, if_pos (by omega), if_pos (by omega), if_pos (by omega), if_pos h6]
      exact h0 k (by omega)
    · obtain ⟨R, hR, hR2⟩ := step_f hs ho hl _ hKi (s.size + 2 * (rdOf ByteArray.empty keys (i : Int)).size + 20) (Nat.le_refl _)
      have hRk : ∀ k, s.size + 2 * (rdOf ByteArray.empty keys (i : Int)).size + 20 ≤ k → spec_Step.f k s p.kind p.b p.e (p.names.map toSp) (toSs p.kids) (rdOf ByteArray.empty keys (i : Int)) = some R := by
        intro k hk
        induction k with
        | zero => omega
        | succ k ih =>
          rcases Nat.lt_or_ge k (s.size + 2 * (rdOf ByteArray.empty keys (i : Int)).size + 20) with h | h
          · rw [show k + 1 = s.size + 2 * (rdOf ByteArray.empty keys (i : Int)).size + 20 by omega]; exact hR
          · exact spec_Step.mono _ _ _ _ _ _ _ _ _ (ih h)
      rcases hR2 with ⟨rfl, _⟩ | ⟨q, hq, rfl, _⟩
      · refine ⟨true, s.size + 2 * (rdOf ByteArray.empty keys (i : Int)).size + 21, fun k hk => ?_⟩
        obtain ⟨k, rfl⟩ : ∃ z, k = z + 1 := ⟨k - 1, by omega⟩
        simp only []
        rw [spec_Once.l0, if_pos (by omega), if_pos (by omega), if_pos (by omega), if_neg h6, hRk k (by omega)]
        rfl
      · obtain ⟨r, k0, h0⟩ := next q hq
        refine ⟨r, max k0 (s.size + 2 * (rdOf ByteArray.empty keys (i : Int)).size + 20) + 1, fun k hk => ?_⟩
        obtain ⟨k, rfl⟩ : ∃ z, k = z + 1 := ⟨k - 1, by omega⟩
        simp only []
        rw [spec_Once.l0, if_pos (by omega), if_pos (by omega), if_pos (by omega), if_neg h6, hRk k (by omega)]
        simp only [Option.bind_some]
        show (if true = true then _ else _) = _
        rw [if_pos rfl, wr64 _ (by omega) (by omega)]
        exact h0 k (by omega)
theorem once_f {s : ByteArray} (hs : s.size ≤ 2147483647) (keys : List ByteArray) (hK : ∀ K ∈ keys, K.size ≤ 2147483647) (hk : keys.length ≤ 2147483647) (p : Pl) (ho : okT s p) (hl : okL p) :
    ∃ k r, spec_Once.f k s p.kind p.b p.e (p.names.map toSp) (toSs p.kids) keys = some r := by
  obtain ⟨r, k0, h⟩ := once_l0 hs keys hK hk keys.length 0 p (by omega) ho hl
  exact ⟨k0, r, h k0 (Nat.le_refl _)⟩
end Go.Proofs.YthehnffmbdlopaaDoor.Jp

set_option linter.unusedVariables false
set_option linter.unusedSimpArgs false
namespace Go.Proofs.YthehnffmbdlopaaDoor.Jp
open Go.RowKit Go.Proofs.YthehnffmbdlopaaDoorW.PrintWords Go.Proofs.YthehnffmbdlopaaDoorW.PrintLast Go.Proofs.YthehnffmbdlopaaDoorW.PrintMore Go.Proofs.YthehnffmbdlopaaDoor.Aid Go.Proofs.YthehnffmbdlopaaDoor.J
open Go.Proofs.YthehnffmbdlopaaDoor.PFnJpGetRest

theorem V_but {α : Type} {d : Kd α} {e base g : Nat} {ok : Nat → Prop} {W W' : World} {v : Value} {xs : List α} (h : Kd.V d e W base ok v xs) (k : But g W W') (hok : ∀ i, ok i → i ≠ g) : Kd.V d e W' base ok v xs := Kd.V_step h (fun i hi hl => k.block i hl (hok i hi))
/-- The result's block is as it was made. -/
structure Qw (w W : World) : Prop where
  r : W.heap[w.heap.size]? = some (.cells #[.int .i64 0, .int .i64 0, .int .i64 0, .slice none 0 0, .slice none 0 0] tPl (0, 0))
  b : Below w.heap.size w W
theorem Qw.start (w : World) : Qw w (w.alloc (.cells #[.int .i64 0, .int .i64 0, .int .i64 0, .slice none 0 0, .slice none 0 0] tPl)) := ⟨blk_new _ _, (Below.refl _ _).alloc (Nat.le_refl _) _⟩
theorem Qw.below {w W W' : World} (h : Qw w W) (k : Below W.heap.size W W') : Qw w W' := ⟨blk_below h.r k, below_then h.b h.b.size k⟩
theorem Qw.size {w W : World} (h : Qw w W) : w.heap.size + 1 ≤ W.heap.size := blk_lt h.r
theorem Qw.done {w W W' : World} (h : Qw w W) (k : But w.heap.size W W') : Below w.heap.size w W' := h.b.trans (k.to_below (Nat.le_refl _) h.b.size)
theorem Qw.cells {w W : World} (h : Qw w W) :
    (W.cell? ⟨w.heap.size, 0, none⟩ = some (.int .i64 0) ∧ W.cell? ⟨w.heap.size, 1, none⟩ = some (.int .i64 0) ∧ W.cell? ⟨w.heap.size, 2, none⟩ = some (.int .i64 0) ∧ W.cell? ⟨w.heap.size, 3, none⟩ = some (.slice none 0 0) ∧ W.cell? ⟨w.heap.size, 4, none⟩ = some (.slice none 0 0)) ∧
    W.frozen? ⟨w.heap.size, 0, none⟩ = false ∧ W.frozen? ⟨w.heap.size, 1, none⟩ = false ∧ W.frozen? ⟨w.heap.size, 2, none⟩ = false ∧ W.frozen? ⟨w.heap.size, 3, none⟩ = false ∧ W.frozen? ⟨w.heap.size, 4, none⟩ = false :=
  ⟨⟨(blk_cell h.r 0).trans rfl, (blk_cell h.r 1).trans rfl, (blk_cell h.r 2).trans rfl, (blk_cell h.r 3).trans rfl, (blk_cell h.r 4).trans rfl⟩, blk_frozen h.r 0, blk_frozen h.r 1, blk_frozen h.r 2, blk_frozen h.r 3, blk_frozen h.r 4⟩
/-- What jpPlaces gives. -/
def jpPl (s : ByteArray) : Option Pl := if 65536 < s.size then none else text (bytesOf s)
def PlV (w : World) : Option Pl → Ending → World → Prop
  | some p, e, w' => ∃ A3 c3 A4 c4, Below w.heap.size w w' ∧ Kd.V kSp tSp w' 0 (fun k => w.heap.size + 1 ≤ k) (.slice A3 p.names.length c3) p.names ∧ Kd.V kPl tPl w' 0 (fun k => w.heap.size + 1 ≤ k) (.slice A4 p.kids.length c4) p.kids ∧
      e = .returned (.tuple #[.agg #[.int .i64 p.kind, .int .i64 p.b, .int .i64 p.e, .slice A3 p.names.length c3, .slice A4 p.kids.length c4], .bool true])
  | none, e, w' => Below w.heap.size w w' ∧ e = .returned (.tuple #[.agg #[.int .i64 0, .int .i64 0, .int .i64 0, .slice none 0 0, .slice none 0 0], .bool false])

set_option maxHeartbeats 4000000 in
set_option maxRecDepth 100000 in
theorem jpPlaces_any (s : ByteArray) (hs : s.size ≤ 2147483647) (w : World) : Calls Tryd.prog 19 #[.string s] w (PlV w (jpPl s)) := by
  by_cases hbig : 65536 < s.size
  · have e0 : jpPl s = none := by unfold jpPl; rw [if_pos hbig]
    rw [e0]
    have g1 : decide ((65536 : Int) < (s.size : Int)) = true := decide_eq_true (by omega)
    have g2 : decide (65536 < s.size) = true := decide_eq_true hbig
    have HT := Lib.hid (Qw.start w)
    clear e0 hbig
    go_enter Tryd.func19, Tryd.ntmps19
    go_wp2
    obtain ⟨⟨r0, r1, r2, r3, r4⟩, g0, g1, g2, g3, g4⟩ := HT.out.cells
    refine bodyPost_ret (v := .tuple #[.agg #[.int .i64 0, .int .i64 0, .int .i64 0, .slice none 0 0, .slice none 0 0], .bool false]) ?_ rfl ?_
    · simp [results, Tryd.results19, go_sem, r0, r1, r2, r3, r4, g0, g1, g2, g3, g4]
    · exact ⟨HT.out.done (by repeat (first | with_reducible exact But.refl _ _ | with_reducible apply But.set)), rfl⟩
  · have g1 : decide ((65536 : Int) < (s.size : Int)) = false := decide_eq_false (by omega)
    have g2 : decide (65536 < s.size) = false := decide_eq_false hbig
    have e0 : jpPl s = text (bytesOf s) := by unfold jpPl; rw [if_neg hbig]
    rw [e0]
    have KP := Lib.hid (fun W => Places_any s hs W)
    cases F : text (bytesOf s) with
    | none =>
      rw [F] at KP
      clear F e0 hbig
      go_enter Tryd.func19, Tryd.ntmps19
      go_wp2_with (go_at_call 31; refine (KP.out _).mono ?_; rintro e w1 ⟨hb, rfl⟩; have HT := Lib.hid ((Qw.start w).below hb); clear hb; obtain ⟨⟨r0, r1, r2, r3, r4⟩, g0, g1, g2, g3, g4⟩ := HT.out.cells)
      refine bodyPost_ret (v := .tuple #[.agg #[.int .i64 0, .int .i64 0, .int .i64 0, .slice none 0 0, .slice none 0 0], .bool false]) ?_ rfl ?_
      · simp [results, Tryd.results19, go_sem, r0, r1, r2, r3, r4, g0, g1, g2, g3, g4]
      · exact ⟨HT.out.done (by repeat (first | with_reducible exact But.refl _ _ | with_reducible apply But.set)), rfl⟩
    | some p =>
      rw [F] at KP
      clear F e0 hbig
      go_enter Tryd.func19, Tryd.ntmps19
      go_wp2_with (go_at_call 31; refine (KP.out _).mono ?_; rintro e w1 ⟨A3, c3, A4, c4, hb, h3, h4, rfl⟩; have HT := Lib.hid ((Qw.start w).below hb); have HV3 := Lib.hid (Kd.V_mono (Kd.R_V (base' := 0) (Kd.R_bound h3)) (ok' := fun k => w.heap.size + 1 ≤ k) (fun k hk => by have := hk.2.1; simpa using this)); have HV4 := Lib.hid (Kd.V_mono (Kd.R_V (base' := 0) (Kd.R_bound h4)) (ok' := fun k => w.heap.size + 1 ≤ k) (fun k hk => by have := hk.2.1; simpa using this)); clear hb h3 h4; obtain ⟨⟨r0, r1, r2, r3, r4⟩, g0, g1, g2, g3, g4⟩ := HT.out.cells)
      refine bodyPost_ret (v := .tuple #[.agg #[.int .i64 p.kind, .int .i64 p.b, .int .i64 p.e, .slice A3 p.names.length c3, .slice A4 p.kids.length c4], .bool true]) ?_ rfl ?_
      · simp [results, Tryd.results19, go_sem, r0, r1, r2, r3, r4, g0, g1, g2, g3, g4]
      · refine ⟨A3, c3, A4, c4, HT.out.done (by repeat (first | with_reducible exact But.refl _ _ | with_reducible apply But.set)), ?_, ?_, rfl⟩
        · exact V_but (g := w.heap.size) HV3.out (by repeat (first | with_reducible exact But.refl _ _ | with_reducible apply But.set)) (fun i hi => by omega)
        · exact V_but (g := w.heap.size) HV4.out (by repeat (first | with_reducible exact But.refl _ _ | with_reducible apply But.set)) (fun i hi => by omega)
end Go.Proofs.YthehnffmbdlopaaDoor.Jp

set_option linter.unusedVariables false
set_option linter.unusedSimpArgs false
namespace Go.Proofs.YthehnffmbdlopaaDoor.Jp
open Go.RowKit Go.Proofs.YthehnffmbdlopaaDoorW.PrintWords Go.Proofs.YthehnffmbdlopaaDoorW.PrintLast Go.Proofs.YthehnffmbdlopaaDoorW.PrintMore Go.Proofs.YthehnffmbdlopaaDoor.Aid Go.Proofs.YthehnffmbdlopaaDoor.J
open Go.Proofs.YthehnffmbdlopaaDoor.PFnJpGetRest

/-- What jpFound hands back. -/
def FdP (w : World) (s : ByteArray) (keys : List ByteArray) (e : Ending) (w' : World) : Prop :=
  Below w.heap.size w w' ∧ ((e = .returned (.tuple #[.agg #[.int .i64 0, .int .i64 0, .int .i64 0, .slice none 0 0, .slice none 0 0], .bool false])) ∨
    (∃ (q : Pl) (A3 : Option Addr) (n3 c3 : Nat) (A4 : Option Addr) (n4 c4 : Nat), e = .returned (.tuple #[.agg #[.int .i64 q.kind, .int .i64 q.b, .int .i64 q.e, .slice A3 n3 c3, .slice A4 n4 c4], .bool true]) ∧ s.size ≤ 65536 ∧
      ∃ p, text (bytesOf s) = some p ∧ ((∀ K ∈ keys, nameK K = true) → seek s p keys = some q)))
def okG (g4 g6 : Nat) (k : Nat) : Prop := k ≠ g4 ∧ k ≠ g6
/-- The box of the place where the walk is. -/
structure Fw (w W : World) (g6 : Nat) (q : Pl) (A3 : Option Addr) (c3 : Nat) (A4 : Option Addr) (c4 : Nat) : Prop where
  qw : Qw w W
  g : w.heap.size < g6
  b : W.heap[g6]? = some (.cells #[.int .i64 q.kind, .int .i64 q.b, .int .i64 q.e, .slice A3 q.names.length c3, .slice A4 q.kids.length c4] tPl (0, 0))
  v3 : Kd.V k43 tSp W 0 (okG w.heap.size g6) (.slice A3 q.names.length c3) (q.names.map toSp)
  v4 : Kd.V k27 tPl W 0 (okG w.heap.size g6) (.slice A4 q.kids.length c4) (toSs q.kids)
theorem Fw.below {w W W' : World} {g6 : Nat} {q : Pl} {A3 A4 : Option Addr} {c3 c4 : Nat} (h : Fw w W g6 q A3 c3 A4 c4) (k : Below W.heap.size W W') : Fw w W' g6 q A3 c3 A4 c4 :=
  ⟨h.qw.below k, h.g, blk_below h.b k, Kd.V_below h.v3 k, Kd.V_below h.v4 k⟩
theorem len_sp (ns : List Sp) : (ns.map toSp).length = ns.length := List.length_map ..
theorem len_pl (ks : List Pl) : (toSs ks).length = ks.length := by rw [toSs_map, List.length_map]
/-- jpIndex of a key. -/
theorem jpIndex_any (K : ByteArray) (w : World) : Calls Tryd.prog 25 #[.string K] w fun e w' => e = .returned (.bool (!(nameK K))) ∧ Below w.heap.size w w' := by
  have h : laws_jpIndex.f K = some (!(nameK K)) := by
    unfold laws_jpIndex.f nameK
    by_cases h0 : K.size = 0
    · have e : K.toList = [] := (toList_nil K).2 h0
      have hb : bytesOf K = [] := List.eq_nil_of_length_eq_zero (by rw [bytesOf_length]; exact h0)
      rw [if_pos e, hb]; rfl
    · have hne : ¬ K.toList = [] := fun e => h0 ((toList_nil K).1 e)
      rw [if_neg hne, if_pos (by omega), List.head?_eq_getElem?, bytesOf_get? K 0 (by omega)]
      by_cases h91 : bt K 0 = 91
      · have : bt K ((0 : Nat) : Int) = 91 := h91
        rw [h91, this]; rfl
      · have : bt K ((0 : Nat) : Int) ≠ 91 := h91
        rw [beq_eq_false_iff_ne.mpr h91]
        have e2 : (some (bt K ((0 : Nat) : Int)) != some 91) = true := by
          rw [bne_iff_ne]; intro e; exact this (Option.some.inj e)
        rw [e2]; rfl
  refine (laws_jpIndex.calls K _ w h).mono ?_
  rintro e w' ⟨rfl, hd⟩
  obtain ⟨n, rfl⟩ := hd.out
  exact ⟨rfl, pw_below_drewN (Below.refl _ _) n⟩
/-- Once of a place. -/
theorem once_any (s : ByteArray) (hs : s.size ≤ 2147483647) (keys : List ByteArray) (hK : ∀ K ∈ keys, K.size ≤ 2147483647) (hk : keys.length ≤ 2147483647) (p : Pl) (ho : okT s p) (hl : okL p) (w W : World) (g6 : Nat) (A3 A4 A : Option Addr) (c3 c4 ck : Nat)
    (hF : Fw w W g6 p A3 c3 A4 c4) (hA : Kd.string.C W A keys.length keys) (hck : keys.length ≤ ck) :
    ∃ r, Calls Tryd.prog 24 #[.string s, .agg #[.int .i64 p.kind, .int .i64 p.b, .int .i64 p.e, .slice A3 p.names.length c3, .slice A4 p.kids.length c4], .slice A keys.length ck] W fun e w' => e = .returned (.bool r) ∧ Below W.heap.size W w' := by
  obtain ⟨k, r, hr⟩ := once_f hs keys hK hk p ho hl
  refine ⟨r, ?_⟩
  have h3 := hF.v3
  have h4 := hF.v4
  rw [← len_sp p.names] at h3 ⊢
  rw [← len_pl p.kids] at h4 ⊢
  exact spec_Once.calls k s p.kind p.b p.e (okG w.heap.size g6) A3 c3 _ (okG w.heap.size g6) A4 c4 _ A ck keys r W h3 h4 hA hck hr
def StN (W : World) (e : Ending) (w' : World) : Prop := Below W.heap.size W w' ∧ ∃ (A3 : Option Addr) (n3 c3 : Nat) (A4 : Option Addr) (n4 c4 : Nat), e = .returned (.tuple #[.agg #[.int .i64 0, .int .i64 0, .int .i64 0, .slice A3 n3 c3, .slice A4 n4 c4], .bool false])
def StY (w W : World) (g6 : Nat) (q : Pl) (e : Ending) (w' : World) : Prop := Below W.heap.size W w' ∧ ∃ A3 c3 A4 c4, e = .returned (.tuple #[.agg #[.int .i64 q.kind, .int .i64 q.b, .int .i64 q.e, .slice A3 q.names.length c3, .slice A4 q.kids.length c4], .bool true]) ∧
      Kd.V k43 tSp w' 0 (okG w.heap.size g6) (.slice A3 q.names.length c3) (q.names.map toSp) ∧ Kd.V k27 tPl w' 0 (okG w.heap.size g6) (.slice A4 q.kids.length c4) (toSs q.kids)
theorem step_any2 (s : ByteArray) (hs : s.size ≤ 2147483647) (K : ByteArray) (hK : K.size ≤ 2147483647) (p : Pl) (ho : okT s p) (hl : okL p) (w : World) (g6 : Nat) :
    ((nameK K = true → step s p K = none) ∧ ∀ (W : World) (A3 A4 : Option Addr) (c3 c4 : Nat), Fw w W g6 p A3 c3 A4 c4 → Calls Tryd.prog 26 #[.string s, .agg #[.int .i64 p.kind, .int .i64 p.b, .int .i64 p.e, .slice A3 p.names.length c3, .slice A4 p.kids.length c4], .string K] W (StN W)) ∨
    (∃ q, q ∈ p.kids ∧ (nameK K = true → step s p K = some q) ∧ ∀ (W : World) (A3 A4 : Option Addr) (c3 c4 : Nat), Fw w W g6 p A3 c3 A4 c4 → Calls Tryd.prog 26 #[.string s, .agg #[.int .i64 p.kind, .int .i64 p.b, .int .i64 p.e, .slice A3 p.names.length c3, .slice A4 p.kids.length c4], .string K] W (StY w W g6 q)) := by
  obtain ⟨R, hR, hR2⟩ := step_f hs ho hl K hK _ (Nat.le_refl _)
  have key : ∀ (W : World) (A3 A4 : Option Addr) (c3 c4 : Nat), Fw w W g6 p A3 c3 A4 c4 → Calls Tryd.prog 26 #[.string s, .agg #[.int .i64 p.kind, .int .i64 p.b, .int .i64 p.e, .slice A3 p.names.length c3, .slice A4 p.kids.length c4], .string K] W fun e w' => ∃ a3 d3 a4 d4, e = .returned (.tuple #[.agg #[.int .i64 R.1, .int .i64 R.2.1, .int .i64 R.2.2.1, .slice a3 R.2.2.2.1.length d3, .slice a4 R.2.2.2.2.1.length d4], .bool R.2.2.2.2.2]) ∧
      Kd.V k43 tSp w' 0 (okG w.heap.size g6) (.slice a3 R.2.2.2.1.length d3) R.2.2.2.1 ∧ Kd.V k27 tPl w' 0 (okG w.heap.size g6) (.slice a4 R.2.2.2.2.1.length d4) R.2.2.2.2.1 ∧ Below W.heap.size W w' := by
    intro W A3 A4 c3 c4 hF
    have h3 := hF.v3
    have h4 := hF.v4
    have hlt : g6 < W.heap.size := blk_lt hF.b
    have hlt2 := hF.g
    obtain ⟨r1, r2, r3, r4, r5, r6⟩ := R
    have key := spec_Step.calls _ s p.kind p.b p.e A3 c3 (p.names.map toSp) (okG w.heap.size g6) A4 c4 (toSs p.kids) K r1 r2 r3 r4 r5 r6 W (Kd.V_reads' h3).2.2 (by rw [len_sp]; exact (Kd.V_reads' h3).2.1) (by rw [len_pl]; exact h4) hR
    rw [len_sp, len_pl] at key
    refine key.mono ?_
    rintro e w' ⟨v3, v4, rfl, q3, q4, hb⟩
    have hok : ∀ k, (okG w.heap.size g6 k ∨ W.heap.size ≤ k) → okG w.heap.size g6 k := fun k hk => by
      rcases hk with hk | hk
      · exact hk
      · exact ⟨by omega, by omega⟩
    have q3' := Kd.V_mono q3 hok
    have q4' := Kd.V_mono q4 hok
    obtain ⟨a3, d3, rfl⟩ := Kd.V_slice q3'
    obtain ⟨a4, d4, rfl⟩ := Kd.V_slice q4'
    exact ⟨a3, d3, a4, d4, rfl, q3', q4', hb⟩
  rcases hR2 with ⟨hn, hst⟩ | ⟨q, hq, ht, hst⟩
  · subst hn
    refine .inl ⟨hst, fun W A3 A4 c3 c4 hF => (key W A3 A4 c3 c4 hF).mono ?_⟩
    rintro e w' ⟨a3, d3, a4, d4, rfl, _, _, hb⟩
    exact ⟨hb, a3, _, d3, a4, _, d4, rfl⟩
  · subst ht
    refine .inr ⟨q, hq, hst, fun W A3 A4 c3 c4 hF => (key W A3 A4 c3 c4 hF).mono ?_⟩
    rintro e w' ⟨a3, d3, a4, d4, rfl, h3, h4, hb⟩
    have e3 : (tup q).2.2.2.1.length = q.names.length := len_sp _
    have e4 : (tup q).2.2.2.2.1.length = q.kids.length := len_pl _
    rw [e3] at h3
    rw [e4] at h4
    exact ⟨hb, a3, d3, a4, d4, by rw [e3, e4]; rfl, h3, h4⟩
theorem Fw.cells {w W : World} {g6 : Nat} {q : Pl} {A3 A4 : Option Addr} {c3 c4 : Nat} (h : Fw w W g6 q A3 c3 A4 c4) :
    (W.cell? ⟨g6, 0, none⟩ = some (.int .i64 q.kind) ∧ W.cell? ⟨g6, 1, none⟩ = some (.int .i64 q.b) ∧ W.cell? ⟨g6, 2, none⟩ = some (.int .i64 q.e) ∧ W.cell? ⟨g6, 3, none⟩ = some (.slice A3 q.names.length c3) ∧ W.cell? ⟨g6, 4, none⟩ = some (.slice A4 q.kids.length c4)) ∧
    W.frozen? ⟨g6, 0, none⟩ = false ∧ W.frozen? ⟨g6, 1, none⟩ = false ∧ W.frozen? ⟨g6, 2, none⟩ = false ∧ W.frozen? ⟨g6, 3, none⟩ = false ∧ W.frozen? ⟨g6, 4, none⟩ = false :=
  ⟨⟨(blk_cell h.b 0).trans rfl, (blk_cell h.b 1).trans rfl, (blk_cell h.b 2).trans rfl, (blk_cell h.b 3).trans rfl, (blk_cell h.b 4).trans rfl⟩, blk_frozen h.b 0, blk_frozen h.b 1, blk_frozen h.b 2, blk_frozen h.b 3, blk_frozen h.b 4⟩
/-- The box is written anew. -/
theorem Fw.put {w W : World} {g6 : Nat} {q r : Pl} {A3 A4 B3 B4 : Option Addr} {c3 c4 d3 d4 : Nat} (h : Fw w W g6 q A3 c3 A4 c4) (q3 : Kd.V k43 tSp W 0 (okG w.heap.size g6) (.slice B3 r.names.length d3) (r.names.map toSp)) (q4 : Kd.V k27 tPl W 0 (okG w.heap.size g6) (.slice B4 r.kids.length d4) (toSs r.kids)) :
    Fw w (((((W.setCell ⟨g6, 0, none⟩ (.int .i64 r.kind)).setCell ⟨g6, 1, none⟩ (.int .i64 r.b)).setCell ⟨g6, 2, none⟩ (.int .i64 r.e)).setCell ⟨g6, 3, none⟩ (.slice B3 r.names.length d3)).setCell ⟨g6, 4, none⟩ (.slice B4 r.kids.length d4)) g6 r B3 d3 B4 d4 := by
  have hb : But g6 W (((((W.setCell ⟨g6, 0, none⟩ (.int .i64 r.kind)).setCell ⟨g6, 1, none⟩ (.int .i64 r.b)).setCell ⟨g6, 2, none⟩ (.int .i64 r.e)).setCell ⟨g6, 3, none⟩ (.slice B3 r.names.length d3)).setCell ⟨g6, 4, none⟩ (.slice B4 r.kids.length d4)) := by
    repeat (first | with_reducible exact But.refl _ _ | with_reducible apply But.set)
  have h1 := blk_set h.b 0 (.int .i64 r.kind)
  have h2 := blk_set h1 1 (.int .i64 r.b)
  have h3 := blk_set h2 2 (.int .i64 r.e)
  have h4 := blk_set h3 3 (.slice B3 r.names.length d3)
  have h5 := blk_set h4 4 (.slice B4 r.kids.length d4)
  refine ⟨⟨(hb.block _ (by have := h.qw.size; omega) (by have := h.g; omega)).trans h.qw.r, ?_⟩, h.g, h5.trans rfl, V_but q3 hb (fun i hi => hi.2), V_but q4 hb (fun i hi => hi.2)⟩
  exact h.qw.b.trans (hb.to_below (by have := h.g; omega) h.qw.b.size)
theorem Fw.start {w W : World} {p : Pl} {A3 A4 : Option Addr} {c3 c4 : Nat} (hq : Qw w W) (h3 : Kd.V kSp tSp W 0 (fun k => w.heap.size + 1 ≤ k) (.slice A3 p.names.length c3) p.names) (h4 : Kd.V kPl tPl W 0 (fun k => w.heap.size + 1 ≤ k) (.slice A4 p.kids.length c4) p.kids) :
    Fw w (W.alloc (.cells #[.int .i64 p.kind, .int .i64 p.b, .int .i64 p.e, .slice A3 p.names.length c3, .slice A4 p.kids.length c4] tPl)) W.heap.size p A3 c3 A4 c4 := by
  have hok : ∀ k, (w.heap.size + 1 ≤ k ∧ k < W.heap.size) → okG w.heap.size W.heap.size k := fun k hk => ⟨by omega, by omega⟩
  refine ⟨hq.below (below_alloc (Below.refl _ _) _), by have := hq.size; omega, blk_new _ _, ?_, ?_⟩
  · exact V_sp (Kd.V_alloc (Kd.V_mono (Kd.V_bound h3) hok) _)
  · exact V_pl (Kd.V_alloc (Kd.V_mono (Kd.V_bound h4) hok) _)
end Go.Proofs.YthehnffmbdlopaaDoor.Jp

set_option linter.unusedVariables false
set_option linter.unusedSimpArgs false
namespace Go.Proofs.YthehnffmbdlopaaDoor.Jp
open Go.RowKit Go.Proofs.YthehnffmbdlopaaDoorW.PrintWords Go.Proofs.YthehnffmbdlopaaDoorW.PrintLast Go.Proofs.YthehnffmbdlopaaDoorW.PrintMore Go.Proofs.YthehnffmbdlopaaDoor.Aid Go.Proofs.YthehnffmbdlopaaDoor.J

theorem fd_no {w W W' : World} {s : ByteArray} {keys : List ByteArray} (h : Qw w W) (k : But w.heap.size W W') : FdP w s keys (.returned (.tuple #[.agg #[.int .i64 0, .int .i64 0, .int .i64 0, .slice none 0 0, .slice none 0 0], .bool false])) W' := ⟨h.done k, .inl rfl⟩

set_option maxHeartbeats 8000000 in
set_option maxRecDepth 100000 in
theorem jpFound_any (s : ByteArray) (hs : s.size ≤ 2147483647) (keys : List ByteArray) (hK : ∀ K ∈ keys, K.size ≤ 2147483647) (hk : keys.length ≤ 2147483647) (w : World) (A : Option Addr) (ck : Nat) (hA : Kd.string.C w A keys.length keys) (hck : keys.length ≤ ck) :
    Calls Tryd.prog 9 #[.string s, .slice A keys.length ck] w (FdP w s keys) := by
  have KP := Lib.hid (fun W => jpPlaces_any s hs W)
  have HA := Lib.hid hA
  have HK := Lib.hid hK
  clear hA hK
  cases F : jpPl s with
  | none =>
    rw [F] at KP
    clear F
    go_enter Tryd.func9, Tryd.ntmps9
    go_wp2_with (go_at_call 19; refine (KP.out _).mono ?_; rintro e w1 ⟨hb, rfl⟩; have HT := Lib.hid (((Qw.start w).below hb).below (below_alloc (Below.refl _ _) (.cells #[.int .i64 0, .int .i64 0, .int .i64 0, .slice none 0 0, .slice none 0 0] tPl))); clear hb; obtain ⟨⟨r0, r1, r2, r3, r4⟩, g0, g1, g2, g3, g4⟩ := HT.out.cells)
    refine bodyPost_ret (v := .tuple #[.agg #[.int .i64 0, .int .i64 0, .int .i64 0, .slice none 0 0, .slice none 0 0], .bool false]) ?_ rfl ?_
    · simp [results, Tryd.results9, go_sem, r0, r1, r2, r3, r4, g0, g1, g2, g3, g4]
    · exact fd_no HT.out (by repeat (first | with_reducible exact But.refl _ _ | with_reducible apply But.set))
  | some p =>
    rw [F] at KP
    have hsz : s.size ≤ 65536 := by
      unfold jpPl at F
      split at F
      · cases F
      · omega
    have htx : text (bytesOf s) = some p := by unfold jpPl at F; rw [if_neg (by omega)] at F; exact F
    have HTX := Lib.hid htx
    have hoT := Lib.hid (text_okT htx)
    have hoL := Lib.hid (text_okL htx)
    clear F htx
    go_enter Tryd.func9, Tryd.ntmps9
    go_upto_region 2 with (go_at_call 19; refine (KP.out _).mono ?_; rintro e w1 ⟨A3, c3, A4, c4, hb, h3, h4, rfl⟩; have HT := Lib.hid (Fw.start ((Qw.start w).below hb) (Kd.V_mono (ok' := fun k => w.heap.size + 1 ≤ k) h3 (fun k hk => by have : (w.alloc (.cells #[.int .i64 0, .int .i64 0, .int .i64 0, .slice none 0 0, .slice none 0 0] tPl)).heap.size + 1 ≤ k := hk; simp at this; omega)) (Kd.V_mono (ok' := fun k => w.heap.size + 1 ≤ k) h4 (fun k hk => by have : (w.alloc (.cells #[.int .i64 0, .int .i64 0, .int .i64 0, .slice none 0 0, .slice none 0 0] tPl)).heap.size + 1 ≤ k := hk; simp at this; omega))); clear hb h3 h4)
    obtain ⟨g6, hg6⟩ : ∃ g, g = w1.heap.size := ⟨_, rfl⟩
    obtain ⟨W2, hW2⟩ : ∃ z, z = w1.alloc (.cells #[.int .i64 p.kind, .int .i64 p.b, .int .i64 p.e, .slice A3 p.names.length c3, .slice A4 p.kids.length c4] tPl) := ⟨_, rfl⟩
    rw [← hW2, ← hg6] at HT
    rw [← hW2, ← hg6]
    clear hW2 hg6
    obtain ⟨r, KO⟩ := once_any s hs keys HK.out hk p hoT.out hoL.out w W2 g6 A3 A4 A c3 c4 ck HT.out (Kd.C_below HA.out HT.out.qw.b) hck
    have KO := Lib.hid KO
    obtain ⟨⟨b0, b1, b2, b3, b4⟩, z0, z1, z2, z3, z4⟩ := HT.out.cells
    cases r with
    | false =>
      go_wp2_with (go_at_call 24; refine KO.out.mono ?_; rintro e w3 ⟨rfl, hb3⟩; have HT3 := Lib.hid (HT.out.below hb3).qw; clear hb3; obtain ⟨⟨r0, r1, r2, r3, r4⟩, g0, g1, g2, g3, g4⟩ := HT3.out.cells)
      refine bodyPost_ret (v := .tuple #[.agg #[.int .i64 0, .int .i64 0, .int .i64 0, .slice none 0 0, .slice none 0 0], .bool false]) ?_ rfl ?_
      · simp [results, Tryd.results9, go_sem, r0, r1, r2, r3, r4, g0, g1, g2, g3, g4]
      · exact fd_no HT3.out (by repeat (first | with_reducible exact But.refl _ _ | with_reducible apply But.set))
    | true =>
      go_upto_block 0 with (go_at_call 24; refine KO.out.mono ?_; rintro e w3 ⟨rfl, hb3⟩; have HT3 := Lib.hid (HT.out.below hb3); clear hb3)
      clear b0 b1 b2 b3 b4 z0 z1 z2 z3 z4 KO
      go_wp2_with fail
      go_loopg [27] keys.length (fun kq v27 W => Hid (∃ (i : Nat) (q : Pl) (A3 : Option Addr) (c3 : Nat) (A4 : Option Addr) (c4 : Nat), v27 = .int .i64 (i : Int) ∧ i + kq = keys.length ∧ Fw w W g6 q A3 c3 A4 c4 ∧ okT s q ∧ okL q ∧ ((∀ K ∈ keys, nameK K = true) → seek s p keys = seek s q (keys.drop i))))
      case atStart => exact Lib.hid ⟨0, p, A3, c3, A4, c4, rfl, by omega, HT3.out, hoT.out, hoL.out, fun _ => rfl⟩
      case round =>
        obtain ⟨i, q, B3, d3, B4, d4, rfl, hi, hF, hq1, hq2, hsk⟩ := hrel.out
        have HF := Lib.hid hF
        have HQ1 := Lib.hid hq1
        have HQ2 := Lib.hid hq2
        have HSK := Lib.hid hsk
        have HIK := Lib.hid hi
        clear hrel hF hq1 hq2 hsk hi HT3 HT
        have hgne : w.heap.size ≠ g6 := by have := HF.out.g; omega
        have hgne2 : g6 ≠ w.heap.size := fun e => hgne e.symm
        rcases Nat.lt_or_ge i keys.length with hlt | hge
        · have hdd : decide ((i : Int) < (keys.length : Int)) = true := decide_eq_true (by omega)
          obtain ⟨ad, hAd, hck2⟩ := at_keys (Kd.C_below HA.out HF.out.qw.b) i hlt
          obtain ⟨K, hKe⟩ : ∃ K, K = keys.getD i ⟨#[]⟩ := ⟨_, rfl⟩
          have hKm : K ∈ keys := by rw [hKe, List.getD_eq_getElem?_getD, List.getElem?_eq_getElem hlt]; exact List.getElem_mem _
          have hKd : keys.drop i = K :: keys.drop (i + 1) := by rw [List.drop_eq_getElem_cons hlt, hKe, List.getD_eq_getElem?_getD, List.getElem?_eq_getElem hlt]; rfl
          rw [← hKe] at hck2
          have hKs := HK.out K hKm
          have HKM := Lib.hid hKm
          have HKD := Lib.hid hKd
          subst hAd
          have KI := Lib.hid (fun W => jpIndex_any K W)
          obtain ⟨⟨b0, b1, b2, b3, b4⟩, z0, z1, z2, z3, z4⟩ := HF.out.cells
          have HST := step_any2 s hs K hKs q HQ1.out HQ2.out w g6
          clear hKe hKm hKd hKs
          by_cases h6 : q.kind = 6
          · have x6 : (q.kind == 6) = true := beq_iff_eq.mpr h6
            clear h6
            cases hn : nameK K with
            | false =>
              have KJ : Hid (∀ W, Calls Tryd.prog 25 #[.string K] W fun e w' => e = .returned (.bool true) ∧ Below W.heap.size W w') := Lib.hid (fun W => by have := KI.out W; rw [hn] at this; exact this)
              clear KI HST
              go_wp2_with (go_at_call 25; refine (KJ.out _).mono ?_; rintro e w4 ⟨rfl, hb4⟩; have HF4 := Lib.hid (HF.out.below hb4); clear hb4; obtain ⟨⟨r0, r1, r2, r3, r4⟩, g0, g1, g2, g3, g4⟩ := HF4.out.qw.cells)
              refine bodyPost_ret (v := .tuple #[.agg #[.int .i64 0, .int .i64 0, .int .i64 0, .slice none 0 0, .slice none 0 0], .bool false]) ?_ rfl ?_
              · simp [results, Tryd.results9, go_sem, r0, r1, r2, r3, r4, g0, g1, g2, g3, g4]
              · exact fd_no HF4.out.qw (by repeat (first | with_reducible exact But.refl _ _ | with_reducible apply But.set))
            | true =>
              replace KI : Hid (∀ W, Calls Tryd.prog 25 #[.string K] W fun e w' => e = .returned (.bool false) ∧ Below W.heap.size W w') := Lib.hid (fun W => by have := KI.out W; rw [hn] at this; exact this)
              rcases HST with ⟨hst, hcal⟩ | ⟨q2, hm2, hst, hcal⟩
              · clear hn hst
                go_wp2_with (first | (go_at_call 25; refine (KI.out _).mono ?_; rintro e w4 ⟨rfl, hb4⟩; have HF4 := Lib.hid (HF.out.below hb4); clear hb4; have KS := Lib.hid (hcal _ _ _ _ _ HF4.out); clear b0 b1 b2 b3 b4 z0 z1 z2 z3 z4; obtain ⟨⟨b0, b1, b2, b3, b4⟩, z0, z1, z2, z3, z4⟩ := HF4.out.cells) | (go_at_call 26; refine KS.out.mono ?_; rintro e w5 ⟨hb5, E3, n3, x3, E4, n4, x4, rfl⟩; have HF5 := Lib.hid (HF4.out.below hb5); clear hb5; clear b0 b1 b2 b3 b4 z0 z1 z2 z3 z4; obtain ⟨⟨b0, b1, b2, b3, b4⟩, z0, z1, z2, z3, z4⟩ := HF5.out.cells; obtain ⟨⟨r0, r1, r2, r3, r4⟩, g0, g1, g2, g3, g4⟩ := HF5.out.qw.cells))
                refine bodyPost_ret (v := .tuple #[.agg #[.int .i64 0, .int .i64 0, .int .i64 0, .slice none 0 0, .slice none 0 0], .bool false]) ?_ rfl ?_
                · simp [results, Tryd.results9, go_sem, r0, r1, r2, r3, r4, g0, g1, g2, g3, g4, hgne, hgne2]
                · refine ⟨?_, .inl rfl⟩
                  have hgl : w.heap.size ≤ g6 := by have := HF.out.g; omega
                  exact (((((((((HF5.out.qw.b.setCell (p := ⟨g6, 0, none⟩) hgl _).setCell (p := ⟨g6, 1, none⟩) hgl _).setCell (p := ⟨g6, 2, none⟩) hgl _).setCell (p := ⟨g6, 3, none⟩) hgl _).setCell (p := ⟨g6, 4, none⟩) hgl _).setCell (p := ⟨w.heap.size, 0, none⟩) (Nat.le_refl _) _).setCell (p := ⟨w.heap.size, 1, none⟩) (Nat.le_refl _) _).setCell (p := ⟨w.heap.size, 2, none⟩) (Nat.le_refl _) _).setCell (p := ⟨w.heap.size, 3, none⟩) (Nat.le_refl _) _).setCell (p := ⟨w.heap.size, 4, none⟩) (Nat.le_refl _) _
              · have HM2 := Lib.hid hm2
                have HS2 := Lib.hid hst
                clear hm2 hst hn
                go_wp2_with (first | (go_at_call 25; refine (KI.out _).mono ?_; rintro e w4 ⟨rfl, hb4⟩; have HF4 := Lib.hid (HF.out.below hb4); clear hb4; have KS := Lib.hid (hcal _ _ _ _ _ HF4.out); clear b0 b1 b2 b3 b4 z0 z1 z2 z3 z4; obtain ⟨⟨b0, b1, b2, b3, b4⟩, z0, z1, z2, z3, z4⟩ := HF4.out.cells) | (go_at_call 26; refine KS.out.mono ?_; rintro e w5 ⟨hb5, E3, x3, E4, x4, rfl, q3, q4⟩; have HF5 := Lib.hid (HF4.out.below hb5); have HQ3 := Lib.hid q3; have HQ4 := Lib.hid q4; clear hb5 q3 q4; clear b0 b1 b2 b3 b4 z0 z1 z2 z3 z4; obtain ⟨⟨b0, b1, b2, b3, b4⟩, z0, z1, z2, z3, z4⟩ := HF5.out.cells))
                go_roundg (keys.length - (i + 1))
                case rel => exact Lib.hid ⟨i + 1, q2, E3, x3, E4, x4, by go_num, by omega, Fw.put HF5.out HQ3.out HQ4.out, okT_kid HQ1.out HM2.out, okL_kid HQ2.out HM2.out, fun h => by rw [HSK.out h, HKD.out, seek, HS2.out (h K HKM.out)]; rfl⟩
                case measure => have := HIK.out; omega
          · have x6 : (q.kind == 6) = false := beq_eq_false_iff_ne.mpr h6
            clear h6 KI
            rcases HST with ⟨hst, hcal⟩ | ⟨q2, hm2, hst, hcal⟩
            · have KS := Lib.hid (hcal _ _ _ _ _ HF.out)
              clear hst hcal
              go_wp2_with (first | (go_at_call 26; refine KS.out.mono ?_; rintro e w5 ⟨hb5, E3, n3, x3, E4, n4, x4, rfl⟩; have HF5 := Lib.hid (HF.out.below hb5); clear hb5; clear b0 b1 b2 b3 b4 z0 z1 z2 z3 z4; obtain ⟨⟨b0, b1, b2, b3, b4⟩, z0, z1, z2, z3, z4⟩ := HF5.out.cells; obtain ⟨⟨r0, r1, r2, r3, r4⟩, g0, g1, g2, g3, g4⟩ := HF5.out.qw.cells))
              refine bodyPost_ret (v := .tuple #[.agg #[.int .i64 0, .int .i64 0, .int .i64 0, .slice none 0 0, .slice none 0 0], .bool false]) ?_ rfl ?_
              · simp [results, Tryd.results9, go_sem, r0, r1, r2, r3, r4, g0, g1, g2, g3, g4, hgne, hgne2]
              · refine ⟨?_, .inl rfl⟩
                have hgl : w.heap.size ≤ g6 := by have := HF.out.g; omega
                exact (((((((((HF5.out.qw.b.setCell (p := ⟨g6, 0, none⟩) hgl _).setCell (p := ⟨g6, 1, none⟩) hgl _).setCell (p := ⟨g6, 2, none⟩) hgl _).setCell (p := ⟨g6, 3, none⟩) hgl _).setCell (p := ⟨g6, 4, none⟩) hgl _).setCell (p := ⟨w.heap.size, 0, none⟩) (Nat.le_refl _) _).setCell (p := ⟨w.heap.size, 1, none⟩) (Nat.le_refl _) _).setCell (p := ⟨w.heap.size, 2, none⟩) (Nat.le_refl _) _).setCell (p := ⟨w.heap.size, 3, none⟩) (Nat.le_refl _) _).setCell (p := ⟨w.heap.size, 4, none⟩) (Nat.le_refl _) _
            · have KS := Lib.hid (hcal _ _ _ _ _ HF.out)
              have HM2 := Lib.hid hm2
              have HS2 := Lib.hid hst
              clear hm2 hst hcal
              go_wp2_with (first | (go_at_call 26; refine KS.out.mono ?_; rintro e w5 ⟨hb5, E3, x3, E4, x4, rfl, q3, q4⟩; have HF5 := Lib.hid (HF.out.below hb5); have HQ3 := Lib.hid q3; have HQ4 := Lib.hid q4; clear hb5 q3 q4; clear b0 b1 b2 b3 b4 z0 z1 z2 z3 z4; obtain ⟨⟨b0, b1, b2, b3, b4⟩, z0, z1, z2, z3, z4⟩ := HF5.out.cells))
              go_roundg (keys.length - (i + 1))
              case rel => exact Lib.hid ⟨i + 1, q2, E3, x3, E4, x4, by go_num, by omega, Fw.put HF5.out HQ3.out HQ4.out, okT_kid HQ1.out HM2.out, okL_kid HQ2.out HM2.out, fun h => by rw [HSK.out h, HKD.out, seek, HS2.out (h K HKM.out)]; rfl⟩
              case measure => have := HIK.out; omega
        · obtain ⟨⟨b0, b1, b2, b3, b4⟩, z0, z1, z2, z3, z4⟩ := HF.out.cells
          obtain ⟨⟨r0, r1, r2, r3, r4⟩, g0, g1, g2, g3, g4⟩ := HF.out.qw.cells
          have hdd : decide ((i : Int) < (keys.length : Int)) = false := decide_eq_false (by omega)
          have hd2 : decide (i < keys.length) = false := decide_eq_false (by omega)
          have HE : Hid ((∀ K ∈ keys, nameK K = true) → seek s p keys = some q) := Lib.hid (fun h => by rw [HSK.out h, List.drop_eq_nil_of_le hge]; rfl)
          clear hge
          go_wp2
          refine bodyPost_ret (v := .tuple #[.agg #[.int .i64 q.kind, .int .i64 q.b, .int .i64 q.e, .slice B3 q.names.length d3, .slice B4 q.kids.length d4], .bool true]) ?_ rfl ?_
          · simp [results, Tryd.results9, go_sem, r0, r1, r2, r3, r4, g0, g1, g2, g3, g4]
          · exact ⟨HF.out.qw.done (by repeat (first | with_reducible exact But.refl _ _ | with_reducible apply But.set)), .inr ⟨q, B3, _, d3, B4, _, d4, rfl, hsz, p, HTX.out, HE.out⟩⟩
end Go.Proofs.YthehnffmbdlopaaDoor.Jp
