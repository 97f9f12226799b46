/- The law FnGjSplitPipe. -/
import Derived.Test.YtjpbjbcdobibbaaSq
set_option linter.unusedVariables false
set_option linter.unusedSimpArgs false
namespace Go.Proofs.Ytjpbjbcdobibbaa.Sp
open Go.RowKit Go.Proofs.YtjpbjbcdobibbaaW.PrintWords Go.Proofs.YtjpbjbcdobibbaaW.PrintLast Go.Proofs.YtjpbjbcdobibbaaW.PrintMore Go.Proofs.Ytjpbjbcdobibbaa.Aid Go.Proofs.Ytjpbjbcdobibbaa.PFnGjSplitPipe

theorem rd_at (keys : List ByteArray) (i : Nat) (hi : i < keys.length) : rdOf ByteArray.empty keys (i : Int) = keys[i] := by
  unfold rdOf; rw [Int.toNat_natCast, List.getD_eq_getElem?_getD, List.getElem?_eq_getElem hi]; rfl
theorem zz_f (keys : List ByteArray) (hn : keys.length ≤ 2147483647) : ∃ k b, laws_zzFits1.f k keys = some b ∧ (b = true → ∀ x ∈ keys, x.size ≤ 2147483647) := by
  have key : ∀ (m i : Nat), i + m = keys.length → ∃ k b, laws_zzFits1.l0 k keys (keys.length : Int) (i : Int) = some b ∧ (b = true → ∀ x ∈ keys.drop i, x.size ≤ 2147483647) := by
    intro m
    induction m with
    | zero =>
      intro i h
      obtain rfl : i = keys.length := by omega
      refine ⟨1, true, ?_, fun _ x hx => by rw [List.drop_length] at hx; cases hx⟩
      rw [laws_zzFits1.l0, if_neg (by omega)]
    | succ m ih =>
      intro i h
      have hi : i < keys.length := by omega
      have hd : keys.drop i = keys[i] :: keys.drop (i + 1) := List.drop_eq_getElem_cons hi
      by_cases hb : ((keys[i]).size : Int) > 2147483647
      · refine ⟨1, false, ?_, fun h => by cases h⟩
        rw [laws_zzFits1.l0, if_pos (by omega), if_pos (by omega), if_pos (by omega), rd_at keys i hi, if_pos hb]
      · obtain ⟨k, b, hk, hp⟩ := ih (i + 1) (by omega)
        refine ⟨k + 1, b, ?_, fun hb2 x hx => ?_⟩
        · rw [laws_zzFits1.l0, if_pos (by omega), if_pos (by omega), if_pos (by omega), rd_at keys i hi, if_neg hb, w64n i (by omega)]
          exact hk
        · rw [hd] at hx
          rcases List.mem_cons.1 hx with rfl | hx
          · omega
          · exact hp hb2 x hx
  obtain ⟨k, b, hk, hp⟩ := key keys.length 0 (by omega)
  refine ⟨k, b, ?_, hp⟩
  unfold laws_zzFits1.f
  rw [if_neg (by omega)]
  exact hk
theorem gr_f (keys : List ByteArray) (hn : keys.length ≤ 2147483647) : ∃ k b, laws_gjRest.f k keys = some b ∧ (b = true → ∀ x ∈ keys, x.size ≠ 0) := by
  have key : ∀ (m i : Nat), i + m = keys.length → ∃ k b, laws_gjRest.l0 k keys keys (keys.length : Int) (i : Int) = some b ∧ (b = true → ∀ x ∈ keys.drop i, x.size ≠ 0) := by
    intro m
    induction m with
    | zero =>
      intro i h
      obtain rfl : i = keys.length := by omega
      refine ⟨1, decide ((keys.length : Int) > 0), ?_, fun _ x hx => by rw [List.drop_length] at hx; cases hx⟩
      rw [laws_gjRest.l0, if_neg (by omega)]
    | succ m ih =>
      intro i h
      have hi : i < keys.length := by omega
      have hd : keys.drop i = keys[i] :: keys.drop (i + 1) := List.drop_eq_getElem_cons hi
      by_cases hb : (keys[i]).toList = ([] : List UInt8)
      · refine ⟨1, false, ?_, fun h => by cases h⟩
        rw [laws_gjRest.l0, if_pos (by omega), if_pos (by omega), if_pos (by omega), rd_at keys i hi, if_pos hb]
      · obtain ⟨k, b, hk, hp⟩ := ih (i + 1) (by omega)
        refine ⟨k + 1, b, ?_, fun hb2 x hx => ?_⟩
        · rw [laws_gjRest.l0, if_pos (by omega), if_pos (by omega), if_pos (by omega), rd_at keys i hi, if_neg hb, w64n i (by omega)]
          exact hk
        · rw [hd] at hx
          rcases List.mem_cons.1 hx with rfl | hx
          · intro h0
            apply hb
            rw [ByteArray.toList_eq]
            exact List.eq_nil_of_length_eq_zero (by rw [Array.length_toList]; exact h0)
          · exact hp hb2 x hx
  obtain ⟨k, b, hk, hp⟩ := key keys.length 0 (by omega)
  exact ⟨k, b, hk, hp⟩
theorem str_size (xs : L) : (strOfNums xs).size = xs.length := by
  unfold strOfNums
  simp [ByteArray.size]
/-- The split of two paths with a pipe between them. -/
theorem law_cut (ks : List ByteArray) (c : Nat) (h1 : 1 ≤ c) (h2 : c < ks.length) (hn : ks.length ≤ 64) (hk : ∀ x ∈ ks, x.size ≤ 2147483647) (hne : ∀ x ∈ ks, x.size ≠ 0) :
    ∃ k, laws_FnGjSplitPipe.j0 k ks (c : Int) false = some true := by
  have ta : ∀ x ∈ ks.take c, x ∈ ks := fun x hx => List.mem_of_mem_take hx
  have da : ∀ x ∈ ks.drop c, x ∈ ks := fun x hx => List.mem_of_mem_drop hx
  have tl : (ks.take c).length = c := by rw [List.length_take]; omega
  obtain ⟨k1, p1⟩ := path_f (ks.take c) (fun x hx => hk x (ta x hx)) (by omega)
  obtain ⟨k2, p2⟩ := path_f (ks.drop c) (fun x hx => hk x (da x hx)) (by rw [List.length_drop]; omega)
  have l1 := pt_len (ks.take c) (fun x hx => hk x (ta x hx))
  have l2 := pt_len (ks.drop c) (fun x hx => hk x (da x hx))
  have b1 := pt_byt (ks.take c)
  have b2 := pt_byt (ks.drop c)
  rw [tl] at l1
  rw [List.length_drop] at l2
  obtain ⟨q, rest, hq⟩ : ∃ q rest, ks.take c = q :: rest := by
    cases h : ks.take c with
    | nil => rw [h] at tl; simp at tl; omega
    | cons q rest => exact ⟨q, rest, rfl⟩
  have hneq : ∀ x ∈ q :: rest, x.size ≠ 0 := fun x hx => hne x (ta x (by rw [hq]; exact hx))
  obtain ⟨P, hP⟩ : ∃ P, P = pt (ks.take c) := ⟨_, rfl⟩
  obtain ⟨Q, hQ⟩ : ∃ Q, Q = pt (ks.drop c) := ⟨_, rfl⟩
  rw [← hP] at p1 l1 b1
  rw [← hQ] at p2 l2 b2
  rw [hq] at hP
  have sP : bytesOf (strOfNums P) = P := bytes_of_str P b1
  have sQ : bytesOf (strOfNums Q) = Q := bytes_of_str Q b2
  have zP := str_size P
  have zQ := str_size Q
  obtain ⟨t, ht⟩ : ∃ t, t = (strOfNums P ++ (⟨#[124]⟩ : ByteArray)) ++ strOfNums Q := ⟨_, rfl⟩
  have tb : bytesOf t = P ++ 124 :: Q := by
    rw [ht, bytesOf_append, bytesOf_append, sP, sQ]
    show (P ++ [124]) ++ Q = _
    simp
  have tz : t.size = P.length + (Q.length + 1) := by rw [← bytesOf_length, tb, List.length_append, List.length_cons]
  obtain ⟨k3, p3⟩ := split_some t (by omega) q rest Q hneq (by rw [tb, hP])
  obtain ⟨k4, p4⟩ := split_none (strOfNums P) (by omega) q rest hneq (by rw [sP, hP])
  rw [← hP] at p3
  have e1 : t.extract 0 P.length = strOfNums P := bytesOf_inj (by rw [bytesOf_extract, tb, sP]; simp)
  have e2 : t.extract (P.length + 1) t.size = strOfNums Q := bytesOf_inj (by
    rw [bytesOf_extract, tb, sQ, List.drop_append, List.drop_of_length_le (by omega), List.nil_append, show P.length + 1 - P.length = 1 by omega, List.drop_one, List.tail_cons, List.take_of_length_le (by omega)])
  rw [e1, e2] at p3
  obtain ⟨K, hK⟩ : ∃ K, K = k1 + k2 + k3 + k4 := ⟨_, rfl⟩
  have q1 := up (f := fun k => spec_PathOf.f k (ks.take c)) (fun k => spec_PathOf.mono _ k) p1 (show k1 ≤ K by omega)
  have q2 := up (f := fun k => spec_PathOf.f k (ks.drop c)) (fun k => spec_PathOf.mono _ k) p2 (show k2 ≤ K by omega)
  have q3 := up (f := fun k => impl_GjSplitPipe.f k t) (fun k => impl_GjSplitPipe.mono _ k) p3 (show k3 ≤ K by omega)
  have q4 := up (f := fun k => impl_GjSplitPipe.f k (strOfNums P)) (fun k => impl_GjSplitPipe.mono _ k) p4 (show k4 ≤ K by omega)
  have z2 : (strOfNums P ++ (⟨#[124]⟩ : ByteArray)).size + (strOfNums Q).size ≤ 9223372036854775807 := by
    have : (strOfNums P ++ (⟨#[124]⟩ : ByteArray)).size = P.length + 1 := by rw [ByteArray.size_append, zP]; rfl
    omega
  refine ⟨K + 1, ?_⟩
  rw [laws_FnGjSplitPipe.j0, if_neg (by decide), if_pos (by omega), if_pos (by omega), Int.toNat_natCast, q1, Option.bind_some, q2, Option.bind_some, if_pos (by omega), if_pos z2, ← ht, q3, Option.bind_some, q4, Option.bind_some]
  simp
theorem law_f (ks : List ByteArray) (c : Int) : ∃ k, laws_FnGjSplitPipe.f k ks c = some true := by
  by_cases hn : (ks.length : Int) > 2147483647
  · refine ⟨0, ?_⟩
    unfold laws_FnGjSplitPipe.f laws_zzFits1.f
    rw [if_pos hn, Option.bind_some, if_neg (by decide)]
  obtain ⟨k1, b, p1, hz⟩ := zz_f ks (by omega)
  cases b with
  | false =>
    refine ⟨k1, ?_⟩
    unfold laws_FnGjSplitPipe.f
    rw [p1, Option.bind_some, if_neg (by decide)]
  | true =>
  obtain ⟨k2, g, p2, hg⟩ := gr_f ks (by omega)
  have triv : ∀ k, laws_FnGjSplitPipe.j0 (k + 1) ks c true = some true := fun k => by rw [laws_FnGjSplitPipe.j0, if_pos rfl]
  have ex : ∃ k, laws_FnGjSplitPipe.j0 (k + 1) ks c (decide (c ≥ (ks.length : Int))) = some true ∨ g = false ∨ (ks.length : Int) > 64 ∨ c < 1 := by
    by_cases h1 : g = false
    · exact ⟨0, .inr (.inl h1)⟩
    by_cases h2 : (ks.length : Int) > 64
    · exact ⟨0, .inr (.inr (.inl h2))⟩
    by_cases h3 : c < 1
    · exact ⟨0, .inr (.inr (.inr h3))⟩
    by_cases h4 : c ≥ (ks.length : Int)
    · exact ⟨0, .inl (by rw [decide_eq_true h4]; exact triv 0)⟩
    obtain ⟨n, rfl⟩ : ∃ n : Nat, c = n := ⟨c.toNat, by omega⟩
    obtain ⟨k, hk⟩ := law_cut ks n (by omega) (by omega) (by omega) (hz rfl) (hg (by simpa using h1))
    refine ⟨k, .inl ?_⟩
    rw [decide_eq_false h4]
    exact laws_FnGjSplitPipe.mono_l k _ _ _ _ hk
  obtain ⟨k3, h3⟩ := ex
  obtain ⟨K, hK⟩ : ∃ K, K = k1 + k2 + k3 := ⟨_, rfl⟩
  have q1 := up (f := fun k => laws_zzFits1.f k ks) (fun k => laws_zzFits1.mono _ k) p1 (show k1 ≤ K + 1 by omega)
  have q2 := up (f := fun k => laws_gjRest.f k ks) (fun k => laws_gjRest.mono _ k) p2 (show k2 ≤ K + 1 by omega)
  refine ⟨K + 1, ?_⟩
  unfold laws_FnGjSplitPipe.f
  rw [q1, Option.bind_some, if_pos rfl, q2, Option.bind_some]
  cases g with
  | false => rw [if_neg (by decide)]; exact triv K
  | true =>
    rw [if_pos rfl]
    by_cases h2 : (ks.length : Int) > 64
    · rw [if_pos h2]; exact triv K
    rw [if_neg h2]
    by_cases h4 : c < 1
    · rw [if_pos h4]; exact triv K
    rw [if_neg h4]
    rcases h3 with h | h | h | h
    · exact up (f := fun k => laws_FnGjSplitPipe.j0 k ks c (decide (c ≥ (ks.length : Int)))) (fun k => laws_FnGjSplitPipe.mono_l k _ _ _) h (show k3 + 1 ≤ K + 1 by omega)
    · cases h
    · exact absurd h h2
    · exact absurd h h4
theorem law_any (A : Option Addr) (cap : Nat) (ss : List ByteArray) (c : Int) (w : World) (hr : Kd.C Kd.string w A ss.length ss) (hc : ss.length ≤ cap) {P : Prop} (hp : P) :
    Calls Try.prog 3 #[.slice A ss.length cap, .int .i64 c] w fun e w' => e = .returned (.bool true) ∧ Below w.heap.size w w' := by
  obtain ⟨k, hk⟩ := law_f ss c
  exact laws_FnGjSplitPipe.calls k A cap ss c true w hr hc hk
end Go.Proofs.Ytjpbjbcdobibbaa.Sp
