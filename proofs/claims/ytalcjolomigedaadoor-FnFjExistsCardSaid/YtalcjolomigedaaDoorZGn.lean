/- Several texts in one. -/
import Derived.Test.YtalcjolomigedaaDoorZGl
import Derived.Test.YtalcjolomigedaaDoorZGm
import Derived.Test.YtalcjolomigedaaDoorZGf
import Derived.Lib.LaidU8
import Derived.Deep.Strs
import Derived.Test.YtalcjolomigedaaDoorProg
import Derived.Test.YtalcjolomigedaaDoorZWWords
import Derived.SizedLaws
import Derived.KernelRfl
set_option linter.unusedVariables false
set_option linter.unusedSimpArgs false
namespace Go.Proofs.YtalcjolomigedaaDoor.Fp
open Go.RowKit Go.Proofs.YtalcjolomigedaaDoorW.PrintWords Go.Proofs.YtalcjolomigedaaDoorW.PrintLast Go.Proofs.YtalcjolomigedaaDoorW.PrintMore Go.Proofs.YtalcjolomigedaaDoor.Aid Go.Proofs.YtalcjolomigedaaDoor.J

theorem pu10 : ∀ (l : List UInt8) (acc : Nat), (un8 l).all dig = true → (Lib.parseUint10 acc l = .range ∧ (18446744073709551616 : Int) ≤ (un8 l).foldl dstep acc) ∨ ∃ u : Nat, Lib.parseUint10 acc l = .ok u ∧ (u : Int) = (un8 l).foldl dstep acc
  | [], acc, _ => .inr ⟨acc, by simp only [Lib.parseUint10], by simp only [un8, List.map_nil, List.foldl_nil]⟩
  | c :: l, acc, hd => by
    have hd' : dig (c.toNat : Int) = true ∧ (un8 l).all dig = true := by
      have : (un8 (c :: l)) = (c.toNat : Int) :: un8 l := rfl
      rw [this, List.all_cons, Bool.and_eq_true] at hd
      exact hd
    have hc := dig_iff.1 hd'.1
    have hcn : 48 ≤ c.toNat ∧ c.toNat ≤ 57 := by omega
    have e : (un8 (c :: l)).foldl dstep (acc : Int) = (un8 l).foldl dstep (((acc * 10 + (c.toNat - 48) : Nat)) : Int) := by
      show (un8 l).foldl dstep (dstep (acc : Int) (c.toNat : Int)) = _
      have : ((acc * 10 + (c.toNat - 48) : Nat) : Int) = dstep (acc : Int) (c.toNat : Int) := by unfold dstep; omega
      rw [this]
    have hn := fold_nonneg (un8 l) (((acc * 10 + (c.toNat - 48) : Nat)) : Int) (by omega) hd'.2
    rw [e]
    simp only [Lib.parseUint10]
    rw [if_pos hcn]
    by_cases h1 : 1844674407370955162 ≤ acc
    · rw [if_pos h1]; exact .inl ⟨rfl, by omega⟩
    rw [if_neg h1]
    by_cases h2 : 18446744073709551616 ≤ acc * 10 + (c.toNat - 48)
    · rw [if_pos h2]; exact .inl ⟨rfl, by omega⟩
    rw [if_neg h2]
    exact pu10 l _ hd'.2
theorem first_byte {s : ByteArray} {c : UInt8} {r : List UInt8} (h : s.data.toList = c :: r) : bt s 0 = (c.toNat : Int) := by
  have hz : 0 < s.size := by
    have : s.data.toList.length = s.size := Array.length_toList
    rw [h] at this; simp only [List.length_cons] at this; omega
  have h1 := bytesOf_get? s 0 hz
  rw [bytes_un8, h] at h1
  exact (Option.some.inj h1).symm
/-- Atoi and Index. -/
theorem atoi_ix {k : ByteArray} (hk : keyP k) : atoiN k = ixN k ∨ (atoiN k = none ∧ ∃ m, ixN k = some m ∧ 9223372036854775808 ≤ m) := by
  cases hl : k.data.toList with
  | nil =>
    refine .inl ?_
    unfold atoiN ixN
    rw [hl, if_neg (by rw [bytes_un8, hl]; simp [un8])]
    rfl
  | cons c r =>
    have hb : bytesOf k = un8 (c :: r) := by rw [bytes_un8, hl]
    have h0 := first_byte hl
    cases hix : ixN k with
    | some m =>
      unfold ixN at hix
      split at hix
      case isFalse => cases hix
      rename_i hq
      injection hix with hm
      obtain ⟨_, hd, _⟩ := hq
      rw [hb] at hd hm
      have hdc := hd
      rw [show un8 (c :: r) = (c.toNat : Int) :: un8 r from rfl, List.all_cons, Bool.and_eq_true] at hdc
      have hc := dig_iff.1 hdc.1
      have hA : Lib.atoiAll (c :: r) = match Lib.parseUint10 0 (c :: r) with
          | .syntax => .syntax
          | .range => .range
          | .ok u => if 9223372036854775808 ≤ u then .range else .ok (u : Int) := by
        have hs : ¬ (c.toNat = 43 ∨ c.toNat = 45) := by omega
        simp only [Lib.atoiAll, Lib.parseMag, if_neg hs]
        rw [if_neg (show ¬ (c :: r) = [] by simp)]
        cases Lib.parseUint10 0 (c :: r) with
        | «syntax» => rfl
        | range => rfl
        | ok u =>
          dsimp only
          by_cases hu : 9223372036854775808 ≤ u
          · rw [if_pos ⟨by omega, hu⟩, if_pos hu]
          · rw [if_neg (fun h => hu h.2), if_neg (fun h => by omega), if_neg hu, if_neg (by omega)]
      have hval : dval (un8 (c :: r)) = (un8 (c :: r)).foldl dstep ((0 : Nat) : Int) := rfl
      rw [hval] at hm
      rcases pu10 (c :: r) 0 hd with ⟨h1, h2⟩ | ⟨u, h1, h2⟩
      · refine .inr ⟨?_, m, rfl, by omega⟩
        unfold atoiN; rw [hl, hA, h1]
      · by_cases hu : 9223372036854775808 ≤ u
        · refine .inr ⟨?_, m, rfl, by omega⟩
          unfold atoiN; rw [hl, hA, h1]; dsimp only; rw [if_pos hu]
        · refine .inl ?_
          unfold atoiN; rw [hl, hA, h1]; dsimp only; rw [if_neg hu]; dsimp only
          rw [if_pos (by omega)]
          congr 1
          omega
    | none =>
      refine .inl ?_
      rcases hk with h | h | ⟨h45, h43, h⟩
      · have : k.data.toList.length = k.size := Array.length_toList
        rw [hl, h] at this; simp at this
      · rw [hix] at h; cases h
      · rw [h0] at h45 h43 h
        unfold atoiN; rw [hl]
        have hs : ¬ (c.toNat = 43 ∨ c.toNat = 45) := by omega
        simp only [Lib.atoiAll, Lib.parseMag, if_neg hs]
        rw [if_neg (show ¬ (c :: r) = [] by simp)]
        simp only [Lib.parseUint10]
        rw [if_neg (by omega)]
theorem tnK_uq {l : OL} (h : uq (tn (.obj l))) : (tnK l).Nodup ∧ uqs (tnO l) := by rw [tn, uq] at h; exact h
theorem uqO_at : ∀ {l : OL} {i : Nat} {u : T}, uqs (tnO l) → l.at? i = some u → uq (tn u)
  | .nil, i, u, _, h => by cases h
  | .cons a t l, 0, u, hq, h => by rw [tnO, uqs] at hq; injection h with h; rw [← h]; exact hq.1
  | .cons a t l, i + 1, u, hq, h => by rw [tnO, uqs] at hq; exact uqO_at hq.2 h
theorem uqL_at : ∀ {l : TL} {i : Nat} {u : T}, uqs (tnL l) → l.at? i = some u → uq (tn u)
  | .nil, i, u, _, h => by cases h
  | .cons t l, 0, u, hq, h => by rw [tnL, uqs] at hq; injection h with h; rw [← h]; exact hq.1
  | .cons t l, i + 1, u, hq, h => by rw [tnL, uqs] at hq; exact uqL_at hq.2 h
theorem kind_leaf (k : Int) (a : L) : (tn (.leaf k a)).kind ≠ 6 ∧ (tn (.leaf k a)).kind ≠ 5 := by
  rw [tn]
  repeat' split
  all_goals exact ⟨by simp, by simp⟩
theorem get_find : ∀ (ks : List ByteArray) (t : T), okT t → uq (tn t) → (out t).length ≤ 90000 → (∀ k ∈ ks, keyP k) → getB t ks = findB (tn t) ks
  | [], t, _, _, _, _ => by rw [findB]; cases t <;> rw [getB]
  | k :: ks, .leaf kk a, _, _, _, _ => by
    obtain ⟨h6, h5⟩ := kind_leaf kk a
    rw [findB_none (show fstI (tn (.leaf kk a)) k = none by unfold fstI; rw [if_neg h6, if_neg h5]), getB]
  | k :: ks, .obj l, hk, hu, hl, hp => by
    rw [okT] at hk
    obtain ⟨hnd, huq⟩ := tnK_uq hu
    have hf : fstI (tn (.obj l)) k = ogi l.raws k := by
      rw [ogi_fidx (okO_raw hk) hnd]
      rw [tn]; rfl
    have hkids : (tn (.obj l)).kids = tnO l := by rw [tn]
    rw [getB]
    cases ho : ogi l.raws k with
    | none => rw [findB_none (hf.trans ho)]
    | some i =>
      dsimp only
      cases ha : l.at? i with
      | none => rw [findB_out (hf.trans ho) (by rw [hkids, tnO_at, ha]; rfl)]
      | some u =>
        rw [findB_some (hf.trans ho) (by rw [hkids, tnO_at, ha]; rfl)]
        have := len_at ha
        rw [out] at hl
        simp only [List.length_cons, List.length_append] at hl
        exact get_find ks u (okO_at hk ha) (uqO_at huq ha) (by omega) fun q hq => hp q (List.mem_cons_of_mem _ hq)
  | k :: ks, .arr l, hk, hu, hl, hp => by
    rw [okT] at hk
    have huq : uqs (tnL l) := by rw [tn, uq] at hu; exact hu.2
    have hf : fstI (tn (.arr l)) k = ixN k := by rw [tn]; rfl
    have hkids : (tn (.arr l)).kids = tnL l := by rw [tn]
    rw [out] at hl
    simp only [List.length_cons, List.length_append] at hl
    have hll := outL_len l
    rw [getB]
    rcases atoi_ix (hp k List.mem_cons_self) with he | ⟨he, m, hm, hb⟩
    · rw [he]
      cases ho : ixN k with
      | none => rw [findB_none (hf.trans ho)]
      | some i =>
        dsimp only
        cases ha : l.at? i with
        | none => rw [findB_out (hf.trans ho) (by rw [hkids, tnL_at, ha]; rfl)]
        | some u =>
          rw [findB_some (hf.trans ho) (by rw [hkids, tnL_at, ha]; rfl)]
          have := lenL_at ha
          exact get_find ks u (okL_at hk ha) (uqL_at huq ha) (by omega) fun q hq => hp q (List.mem_cons_of_mem _ hq)
    · rw [he, findB_out (hf.trans hm) (by rw [hkids]; exact List.getElem?_eq_none (by rw [tnL_len]; omega))]
mutual
theorem ko_tn : ∀ t : T, ko (tn t)
  | .leaf k a => by
    rw [tn]
    repeat' split
    all_goals (rw [ko, kos]; exact ⟨fun _ => Nat.le_refl _, trivial⟩)
  | .arr l => by rw [tn, ko]; exact ⟨fun h => absurd h (by decide), kos_tnL l⟩
  | .obj l => by
    rw [tn, ko]
    refine ⟨fun _ => ?_, kos_tnO l⟩
    rw [tnK_raws, List.length_map, raws_len, tnO_len]
    exact Nat.le_refl _
theorem kos_tnL : ∀ l : TL, kos (tnL l)
  | .nil => by rw [tnL, kos]; trivial
  | .cons t l => by rw [tnL, kos]; exact ⟨ko_tn t, kos_tnL l⟩
theorem kos_tnO : ∀ l : OL, kos (tnO l)
  | .nil => by rw [tnO, kos]; trivial
  | .cons a t l => by rw [tnO, kos]; exact ⟨ko_tn t, kos_tnO l⟩
end
theorem deps_all {s : ByteArray} {n : Nat} : ∀ ks : List Pl, (∀ p ∈ ks, dep (tree s p) ≤ n) → deps (trees s ks) ≤ n
  | [], _ => by rw [trees, deps]; omega
  | p :: ks, h => by
    have h1 : dep (tree s p) ≤ n := h p List.mem_cons_self
    have h2 := deps_all ks fun q hq => h q (List.mem_cons_of_mem _ hq)
    rw [trees, deps]; omega
theorem val_dep (s : ByteArray) (N : Nat) : ∀ n l x, val N n l = some x → dep (tree s x.1) ≤ n := by
  intro n
  induction n with
  | zero => intro l x h; simp [val] at h
  | succ n ih =>
    intro l x h
    have leaf : ∀ (k b e : Int) (hk5 : k ≠ 5) (hk6 : k ≠ 6), dep (tree s ⟨k, b, e, [], []⟩) ≤ n + 1 := fun k b e h5 h6 => by
      rw [tree_eq, dep_leaf h5 h6]; omega
    cases l with
    | nil => simp [val] at h
    | cons c t =>
      simp only [val] at h
      split at h
      · obtain ⟨y, hy, e⟩ := Option.map_eq_some_iff.1 h
        subst e
        have hall : ∀ p ∈ y.1.2, dep (tree s p) ≤ n := by
          unfold obj at hy
          split at hy
          · injection hy with hy; subst hy; intro p hp; cases hp
          · exact mems_all (P := fun p => dep (tree s p) ≤ n) ih _ _ [] [] y.1 y.2 (fun p hp => by cases hp) hy
        have := deps_all y.1.2 hall
        rw [tree_eq, dep_node (.inr rfl)]
        omega
      split at h
      · obtain ⟨y, hy, e⟩ := Option.map_eq_some_iff.1 h
        subst e
        have hall : ∀ p ∈ y.1, dep (tree s p) ≤ n := by
          unfold arr at hy
          split at hy
          · injection hy with hy; subst hy; intro p hp; cases hp
          · exact elems_all (P := fun p => dep (tree s p) ≤ n) ih _ _ [] y.1 y.2 (fun p hp => by cases hp) hy
        have := deps_all y.1 hall
        rw [tree_eq, dep_node (.inl rfl)]
        omega
      split at h
      · obtain ⟨y, hy, e⟩ := Option.map_eq_some_iff.1 h
        subst e
        exact leaf _ _ _ (by decide) (by decide)
      split at h
      · obtain ⟨y, hy, e⟩ := Option.map_eq_some_iff.1 h
        subst e
        exact leaf _ _ _ (by decide) (by decide)
      (repeat' split at h)
      all_goals first | (injection h with h; subst h; exact leaf _ _ _ (by decide) (by decide)) | cases h
theorem read_dep {s : ByteArray} {x : Tn} (h : readT s = some x) : dep x ≤ s.size + 1 := by
  unfold readT at h
  cases ht : text (bytesOf s) with
  | none => rw [ht] at h; cases h
  | some p =>
    rw [ht] at h
    rw [← Option.some.inj h]
    unfold text at ht
    obtain ⟨y, hy, hq⟩ := Option.bind_eq_some_iff.1 ht
    split at hq
    case isFalse => cases hq
    injection hq with hq; subst hq
    have := val_dep s _ _ _ _ hy
    rwa [bytesOf_length] at this
theorem read_ko {s : ByteArray} (hs : s.size ≤ 2147483647) {x : Tn} (h : readT s = some x) : smT x := by
  unfold readT at h
  cases ht : text (bytesOf s) with
  | none => rw [ht] at h; cases h
  | some p =>
    rw [ht] at h
    rw [← Option.some.inj h]
    exact sm_tree hs p (text_okT ht)
end Go.Proofs.YtalcjolomigedaaDoor.Fp

set_option linter.unusedVariables false
set_option linter.unusedSimpArgs false
namespace Go.Proofs.YtalcjolomigedaaDoor.Fp
open Go.RowKit Go.Proofs.YtalcjolomigedaaDoorW.PrintWords Go.Proofs.YtalcjolomigedaaDoorW.PrintLast Go.Proofs.YtalcjolomigedaaDoorW.PrintMore Go.Proofs.YtalcjolomigedaaDoor.Aid Go.Proofs.YtalcjolomigedaaDoor.J

/-- {"a":null} -/
abbrev tx1 : ByteArray := ⟨#[123, 34, 97, 34, 58, 110, 117, 108, 108, 125]⟩
theorem tx1_parse : parse0 (bytesOf tx1) = some (.obj (.cons [97] (.leaf 0 []) .nil)) := by kernel_rfl
theorem tx1_ok : ∀ t, parse0 (bytesOf tx1) = some t → okN t := by
  intro t h
  rw [tx1_parse] at h
  injection h with h; subst h
  rw [okN, okNO, okN, okNO]
  exact ⟨⟨by kernel_rfl, by kernel_rfl⟩, fun h => absurd h (by decide), trivial⟩
theorem tx1_ex : exB (bytesOf tx1) [⟨#[97]⟩] = true := by
  unfold exB
  rw [tx1_parse]
  kernel_rfl
theorem text_ok {s : ByteArray} {x : Tn} (h4 : s.size ≤ 4000) (hp : prd (bytesOf s) = true) (hr : readT s = some x) (hd : dep x ≤ 4294967296 → dep x ≤ 250) : ∃ t, parse0 (bytesOf s) = some t ∧ okN t ∧ tn t = x := by
  have := read_dep hr
  exact read_fj2 hr hp (by have := hd (by omega); omega)
theorem look_ok {s : ByteArray} {x : Tn} (hs : s.size ≤ 2147483647) (hr : readT s = some x) (hp : prd (bytesOf s) = true) (hd : dep x ≤ 4294967296 → dep x ≤ 250) : smT x ∧ ko x := by
  refine ⟨read_ko hs hr, ?_⟩
  have h1 := read_dep hr
  obtain ⟨t, _, _, e⟩ := read_fj2 hr hp (by have := hd (by omega); omega)
  rw [← e]
  exact ko_tn t
theorem parse0_ok {l : L} (hl : l.length ≤ 90000) (hR : Rg l) {t : T} (h : parse0 l = some t) : Fp.okT t ∧ (out t).length ≤ 90000 := by
  unfold parse0 at h
  have hw := ws_le l
  cases hv : pv (2 * (ws l).length + 2) 0 (ws l) with
  | none => rw [hv] at h; cases h
  | some x =>
    rw [hv] at h
    dsimp only at h
    split at h
    case isFalse => cases h
    injection h with h; subst h
    obtain ⟨t, r⟩ := x
    refine ⟨(oks _).1 _ _ _ _ (hR.sb (ws_sb l)) hv, ?_⟩
    have := ((sizes _).1 _ _ _ _ hv).1
    show (out t).length ≤ 90000
    omega
theorem ex_eq {s : ByteArray} {x : Tn} {keys : List ByteArray} (h4 : s.size ≤ 4000) (hp : prd (bytesOf s) = true) (hr : readT s = some x) (hd : dep x ≤ 4294967296 → dep x ≤ 250) (hk : keysP keys) (hu : uq x) : exB (bytesOf s) keys = findB x keys := by
  obtain ⟨t, ht, _, e⟩ := text_ok h4 hp hr hd
  have hl := bytesOf_length s
  obtain ⟨h1, h2⟩ := parse0_ok (by omega) (bytesOf_range s) ht
  unfold exB
  rw [ht]
  dsimp only
  rw [← e] at hu ⊢
  exact get_find keys t h1 hu h2 fun k hk' => (hk.2 k hk').2
theorem one_row (W : World) (y : ByteArray) : Kd.string.C (W.alloc (.cells #[.string y] tSt)) (some ⟨W.heap.size, 0, none⟩) 1 [y] := by
  refine ⟨rfl, by decide, fun _ => ⟨_, rfl, fun j q hj => ?_⟩⟩
  obtain rfl : j = 0 := by have := (List.getElem?_eq_some_iff.1 hj).1; simp at this; exact this
  have hq : q = y := by simpa using hj.symm
  refine ⟨[.string q], rfl, rfl, fun i u hi => ?_⟩
  obtain rfl : i = 0 := by have := (List.getElem?_eq_some_iff.1 hi).1; simp at this; exact this
  have hu : u = .string q := by simpa using hi.symm
  rw [hu, hq]
  exact (blk_cell (blk_new W (.cells #[.string y] tSt)) 0).trans rfl
set_option maxHeartbeats 8000000 in
set_option maxRecDepth 100000 in
theorem lawExists_any (s : ByteArray) (A : Option Addr) (c : Nat) (keys : List ByteArray) (w : World) (hE : ErrV w) (hR : ErrR w) (h : s.size ≤ 140737488351232) (hC : Kd.C Kd.string w A keys.length keys) (hc : keys.length ≤ c) :
    Calls Tryd.prog 6 #[.string s, .slice A keys.length c] w fun e w' => e = .returned (.bool true) ∧ Below w.heap.size w w' := by
  by_cases h1 : 2147483647 < s.size
  · have d1 : decide ((2147483647 : Int) < (s.size : Int)) = true := decide_eq_true (by omega)
    have d2 : decide (2147483647 < s.size) = true := decide_eq_true h1
    clear h h1 hE hR hC
    go_enter Tryd.func6, Tryd.ntmps6
    go_wp2
    go_ret
    exact ⟨rfl, Below.refl _ _⟩
  have d1 : decide ((2147483647 : Int) < (s.size : Int)) = false := decide_eq_false (by omega)
  have d2 : decide (2147483647 < s.size) = false := decide_eq_false h1
  have HZ := Lib.hid (fun (W : World) (hb : Below w.heap.size w W) => zzFits_any A c keys W (Kd.C_below hC hb) hc)
  have HB := Lib.hid (Below.refl w.heap.size w)
  by_cases hkl : keys.length ≤ 2147483647
  case neg =>
    clear h h1 hE hR hC
    go_enter Tryd.func6, Tryd.ntmps6
    go_wp2_with (go_at_call 17; refine (HZ.out _ HB.out).mono ?_; rintro e w1 ⟨⟨b, rfl, hb⟩, hd⟩; obtain rfl : b = false := (Bool.eq_false_iff.2 fun h => hkl (hb h)); replace HB := Lib.hid hd.below; clear hd hb)
    go_ret
    exact ⟨rfl, HB.out⟩
  have HL := Lib.hid (fun (W : World) (hb : Below w.heap.size w W) => fjLook_any s (by omega) W A c keys hkl hc (Kd.C_below hC hb) (fun x hr hp hd => look_ok (by omega) hr hp hd))
  have HX := Lib.hid (fun (W : World) (hb : Below w.heap.size w W) (x : Tn) (h4 : s.size ≤ 4000) (hp : prd (bytesOf s) = true) (hr : readT s = some x) (hd : dep x ≤ 4294967296 → dep x ≤ 250) (hk : keysP keys) => FjExists_any W s A keys.length c keys (by omega) (hE.below hb) (hR.below hb) (fun t ht => by obtain ⟨t', ht', ho, _⟩ := text_ok h4 hp hr hd; rw [ht] at ht'; injection ht' with e; rw [e]; exact ho) (Kd.C_below hC hb) (fun k hk' => Nat.le_trans (hk.2 k hk').1 (by decide)) hkl hc)
  have HONE := Lib.hid (fun (W : World) (hb : Below w.heap.size w W) (B : Option Addr) (hB : Kd.string.C W B 1 [⟨#[97]⟩]) => FjExists_any W tx1 B 1 1 [⟨#[97]⟩] (by decide) (hE.below hb) (hR.below hb) tx1_ok hB (fun k hk' => by rw [List.mem_singleton.1 hk']; decide) (by decide) (by decide))
  clear h h1 hE hR hC
  go_enter Tryd.func6, Tryd.ntmps6
  go_wp2_with (first
    | (go_at_call 17; refine (HZ.out _ HB.out).mono ?_; rintro e w1 ⟨⟨b, rfl, _⟩, hd⟩; replace HB := Lib.hid hd.below; clear hd)
    | (go_at_call 18; refine (HL.out _ HB.out).mono ?_; rintro e w2 ⟨k', t', A2, n2, c2, A3, n3, c3, is, sp, rfl, hb, hsp⟩; replace HB := Lib.hid (below_alloc (below_step HB.out hb) (.cells #[.int .i64 k', .string t', .slice A2 n2 c2, .slice A3 n3 c3] tNd)); have HSP := Lib.hid hsp; clear hb hsp)
    | (go_at_call_of 19 (Value.string s); obtain ⟨x, q4, qp, qr, qd, qk, qu, qis⟩ := HSP.out ‹sp = true›; refine (HX.out _ HB.out x q4 qp qr qd qk).mono ?_; rintro e w3 ⟨rfl, hb⟩; rw [ex_eq q4 qp qr qd qk qu, ← qis]; replace HB := Lib.hid (below_step HB.out hb); clear hb q4 qp qr qd qk qu qis)
    | (go_at_call 19; refine (HONE.out _ (below_alloc HB.out (.cells #[.string ⟨#[97]⟩] tSt)) _ (one_row _ _)).mono ?_; rintro e w4 ⟨rfl, hb⟩; rw [tx1_ex]; replace HB := Lib.hid (below_step (below_alloc HB.out (.cells #[.string ⟨#[97]⟩] tSt)) hb); clear hb))
  all_goals
    go_ret
    exact ⟨rfl, HB.out⟩
end Go.Proofs.YtalcjolomigedaaDoor.Fp

set_option linter.unusedVariables false
namespace Go.Proofs.YtalcjolomigedaaDoor.J
open Go.RowKit Go.Lib Go.ChangeShapes Go.Deep

theorem err_of {W : World} {d : DataW Unit} (h2 : VarReads Tryd.prog W "strconv.ErrSyntax" (.iface "*errors.errorString" d)) : ErrV W := by
  obtain ⟨g2, t2, cs2, f2, p2, hg2, ht2, hv2, hd2⟩ := h2
  obtain rfl := Option.some.inj ((show Tryd.prog.globalNamed "strconv.ErrSyntax" = some gS by kernel_rfl).symm.trans hg2)
  obtain rfl := Option.some.inj ((show (Tryd.prog.globals[gS]?).map (·.type) = some 55 by kernel_rfl).symm.trans ht2)
  obtain ⟨fuel', u, v, e2, _, _⟩ := iface_of_trod Tryd.underlying55 hd2
  have i3 := World.var?_cell hg2 hv2 0
  refine ⟨.iface u v, ?_, .inr ⟨u, v, rfl⟩⟩
  rw [i3, ← Array.getElem?_toList, e2]; rfl
end Go.Proofs.YtalcjolomigedaaDoor.J

set_option linter.unusedVariables false
namespace Go.Proofs.YtalcjolomigedaaDoor.Fp
open Go.RowKit Go.Lib Go.ChangeShapes Go.Deep

theorem errR_of {W : World} {d : DataW Unit} (h2 : VarReads Tryd.prog W "strconv.ErrRange" (.iface "*errors.errorString" d)) : ErrR W := by
  obtain ⟨g2, t2, cs2, f2, p2, hg2, ht2, hv2, hd2⟩ := h2
  obtain rfl := Option.some.inj ((show Tryd.prog.globalNamed "strconv.ErrRange" = some 2 by kernel_rfl).symm.trans hg2)
  obtain rfl := Option.some.inj ((show (Tryd.prog.globals[2]?).map (·.type) = some 55 by kernel_rfl).symm.trans ht2)
  obtain ⟨fuel', u, v, e2, _, _⟩ := iface_of_trod Tryd.underlying55 hd2
  have i3 := World.var?_cell hg2 hv2 0
  refine ⟨.iface u v, ?_, .inr ⟨u, v, rfl⟩⟩
  rw [i3, ← Array.getElem?_toList, e2]; rfl
end Go.Proofs.YtalcjolomigedaaDoor.Fp

set_option linter.unusedVariables false
namespace Go.Proofs.YtalcjolomigedaaDoor.StrsRow
open Go.ChangeShapes Go.WideShapes Go.RowKit Go.Deep Go.Proofs.YtalcjolomigedaaDoorW.PrintWords
theorem add_flat (a : Addr) (i : Nat) : a.add i = a.add (i * 1 + 0) := by simp
set_option maxRecDepth 100000 in
theorem open_strs {H : Type} {enc : TypeId × Value → H} {w : World} {base : Nat} {spare : Nat → Bool} {held : Bool} {r : Reach} {b0 : Nat} {v : Value} {d : DataW H} {p : List MemPlace}
    (hv : Value.okWide Tryd.prog w r b0 27 v) (h : DataW.Trod enc Tryd.prog w base spare held 27 v d p) :
    ∃ (A : Option Addr) (cap : Nat) (ss : List ByteArray), v = .slice A ss.length cap ∧ Kd.C Kd.string w A ss.length ss ∧ ss.length ≤ cap := by
  obtain ⟨A, len, cap, rfl⟩ := okWide_slice Tryd.underlying27 hv
  obtain ⟨fuel, hf⟩ := h
  rcases Go.Deep.open_strs Tryd.underlying27 Tryd.underlying9 (by kernel_rfl) hf with ⟨hcs, hx⟩ | ⟨a, len', cap', m, Sx, hcs, _, hl, hm, hmm, hx, hcell⟩
  · have e : Value.slice A len cap = .slice none 0 0 := by simpa [Value.cells] using hcs
    injection e with e1 e2 e3
    subst e1 e2 e3
    exact ⟨none, 0, [], rfl, ⟨rfl, by decide, fun h => by simp at h⟩, Nat.le_refl _⟩
  · have e : Value.slice A len cap = .slice (some a) len' cap' := by simpa [Value.cells] using hcs
    injection e with e1 e2 e3
    subst e1 e2 e3
    have hlm : len ≤ m := by rw [hmm]; split <;> omega
    have hmx : len ≤ 9223372036854775807 := by
      have : maxLen = 9223372036854775807 := by decide
      omega
    have hlen : ((List.range len).map Sx).length = len := by simp
    refine ⟨some a, cap, (List.range len).map Sx, by rw [hlen], ?_, by rw [hlen]; exact hl⟩
    rw [hlen]
    refine ⟨hlen, hmx, fun _ => ⟨a, rfl, fun j q hj => ?_⟩⟩
    have hjl : j < len := by have := (List.getElem?_eq_some_iff.1 hj).1; rwa [hlen] at this
    have hq : q = Sx j := by simpa [List.getElem?_map, List.getElem?_range hjl] using hj.symm
    refine ⟨[.string q], rfl, rfl, fun i u hi => ?_⟩
    obtain rfl : i = 0 := by have := (List.getElem?_eq_some_iff.1 hi).1; simp at this; exact this
    have hu : u = .string q := by simpa using hi.symm
    rw [hu, hq]
    have := (hcell j (by omega)).1
    show w.cell? (a.add (j * 1 + 0)) = _
    rwa [← add_flat]
end Go.Proofs.YtalcjolomigedaaDoor.StrsRow
