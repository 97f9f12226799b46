/- FnGjSplitPipe: what the printed functions give, in plain Lean. -/
import Derived.Test.YtjpbjbcdobibbaaAid
import Derived.Test.YtjpbjbcdobibbaaPFnGjSplitPipex1
set_option linter.unusedVariables false
set_option linter.unusedSimpArgs false
namespace Go.Proofs.Ytjpbjbcdobibbaa.Sp
open Go.RowKit Go.Proofs.YtjpbjbcdobibbaaW.PrintWords Go.Proofs.YtjpbjbcdobibbaaW.PrintLast Go.Proofs.YtjpbjbcdobibbaaW.PrintMore Go.Proofs.Ytjpbjbcdobibbaa.Aid Go.Proofs.Ytjpbjbcdobibbaa.PFnGjSplitPipe
abbrev L := List Int
def from_ (s : ByteArray) (a : Nat) : L := (bytesOf s).drop a
theorem from_len (s : ByteArray) (a : Nat) : (from_ s a).length = s.size - a := by unfold from_; rw [List.length_drop, bytesOf_length]
theorem from_drop (s : ByteArray) (a k : Nat) : (from_ s a).drop k = from_ s (a + k) := by unfold from_; rw [List.drop_drop]
theorem from_cons (s : ByteArray) (a : Nat) (h : a < s.size) : from_ s a = bt s (a : Int) :: from_ s (a + 1) := by
  have hl : a < (bytesOf s).length := by rw [bytesOf_length]; exact h
  unfold from_
  rw [List.drop_eq_getElem_cons hl]
  congr 1
  have := bytesOf_get? s a h
  rw [List.getElem?_eq_getElem hl] at this
  exact Option.some.inj this
theorem from_end (s : ByteArray) : from_ s s.size = [] := List.eq_nil_of_length_eq_zero (by rw [from_len]; omega)
theorem from_eq {s : ByteArray} {a : Nat} {x : Int} {r : L} (h : from_ s a = x :: r) : a < s.size ∧ bt s (a : Int) = x ∧ from_ s (a + 1) = r := by
  have hl : a < s.size := by have := from_len s a; rw [h] at this; simp at this; omega
  have := from_cons s a hl
  rw [h] at this
  injection this with h1 h2
  exact ⟨hl, h1.symm, h2.symm⟩
theorem w64 {x : Int} (h0 : -1000000000000 ≤ x) (h1 : x ≤ 1000000000002) : wrap64 x = x := by unfold wrap64; omega
theorem w64n (a : Nat) (h : a ≤ 1000000000000) : wrap64 ((a : Int) + 1) = ((a + 1 : Nat) : Int) := by rw [w64 (by omega) (by omega)]; rfl

def lt (c : Int) : Bool := decide (97 ≤ c ∧ c ≤ 122) || decide (65 ≤ c ∧ c ≤ 90) || decide (48 ≤ c ∧ c ≤ 57) || (c == 95)
theorem letter_f (c : Int) : spec_letter.f c = some (lt c) := by
  unfold spec_letter.f lt
  repeat' split
  all_goals (rw [Option.some.injEq, Bool.eq_iff_iff]; simp only [Bool.or_eq_true, decide_eq_true_eq, beq_iff_eq, true_iff]; omega)
def pb (c : Int) : Bool := lt c || (c == 45) || (c == 32) || decide (128 ≤ c)
theorem pathByte_f (c : Int) : spec_pathByte.f c = some (pb c) := by
  unfold spec_pathByte.f
  rw [letter_f, Option.bind_some]
  unfold pb
  cases lt c with
  | true => simp
  | false =>
    rw [if_neg (by decide)]
    by_cases h1 : c = 45
    · subst h1; rfl
    rw [if_neg h1]
    by_cases h2 : c = 32
    · subst h2; rfl
    rw [if_neg h2]
    rw [Option.some.injEq, Bool.eq_iff_iff]
    simp [h1, h2]
theorem pb_not {c : Int} (h : pb c = true) : c ≠ 92 ∧ c ≠ 46 ∧ c ≠ 124 ∧ c ≠ 35 ∧ c ≠ 123 := by
  unfold pb lt at h
  simp only [Bool.or_eq_true, decide_eq_true_eq, beq_iff_eq] at h
  omega
/-- How a byte, a key, keys are written. -/
def eb (c : Int) : L := if pb c = true then [c] else [92, c]
def eks (l : L) : L := l.flatMap eb
def ek (k : ByteArray) : L := eks (bytesOf k)
def pj : List ByteArray → L
  | [] => []
  | k :: ks => 46 :: (ek k ++ pj ks)
def pt : List ByteArray → L
  | [] => []
  | k :: ks => ek k ++ pj ks
theorem eb_len (c : Int) : 1 ≤ (eb c).length ∧ (eb c).length ≤ 2 := by unfold eb; split <;> simp
theorem eks_len : ∀ l : L, l.length ≤ (eks l).length ∧ (eks l).length ≤ 2 * l.length
  | [] => by simp [eks]
  | c :: t => by
    have h1 := eb_len c
    have h2 := eks_len t
    simp only [eks, List.flatMap_cons, List.length_append, List.length_cons] at *
    omega
theorem eks_cons (c : Int) (t : L) : eks (c :: t) = eb c ++ eks t := rfl
theorem pj_len : ∀ ks : List ByteArray, (∀ x ∈ ks, x.size ≤ 2147483647) → (pj ks).length ≤ 4294967295 * ks.length
  | [], _ => by simp [pj]
  | k :: ks, h => by
    have h1 := eks_len (bytesOf k)
    have h2 := pj_len ks (fun x hx => h x (List.mem_cons_of_mem _ hx))
    have h3 := h k List.mem_cons_self
    rw [bytesOf_length] at h1
    simp only [pj, ek, List.length_cons, List.length_append]
    omega
theorem pt_len (ks : List ByteArray) (h : ∀ x ∈ ks, x.size ≤ 2147483647) : (pt ks).length ≤ 4294967295 * ks.length := by
  cases ks with
  | nil => simp [pt]
  | cons k ks =>
    have := pj_len (k :: ks) h
    simp only [pj, pt, List.length_cons] at *
    omega
theorem eb_byt {c : Int} (h : 0 ≤ c ∧ c < 256) : ∀ x ∈ eb c, 0 ≤ x ∧ x < 256 := by
  intro x hx
  unfold eb at hx
  split at hx <;> simp at hx <;> omega
theorem eks_byt : ∀ {l : L}, (∀ x ∈ l, 0 ≤ x ∧ x < 256) → ∀ x ∈ eks l, 0 ≤ x ∧ x < 256
  | [], _, x, hx => by simp [eks] at hx
  | c :: t, h, x, hx => by
    rw [eks_cons, List.mem_append] at hx
    rcases hx with hx | hx
    · exact eb_byt (h c List.mem_cons_self) x hx
    · exact eks_byt (fun y hy => h y (List.mem_cons_of_mem _ hy)) x hx
theorem pj_byt : ∀ (ks : List ByteArray), ∀ x ∈ pj ks, 0 ≤ x ∧ x < 256
  | [], x, hx => by simp [pj] at hx
  | k :: ks, x, hx => by
    simp only [pj, List.mem_cons, List.mem_append] at hx
    rcases hx with rfl | hx | hx
    · decide
    · exact eks_byt (bytesOf_range k) x hx
    · exact pj_byt ks x hx
theorem pt_byt (ks : List ByteArray) : ∀ x ∈ pt ks, 0 ≤ x ∧ x < 256 := by
  intro x hx
  cases ks with
  | nil => simp [pt] at hx
  | cons k ks =>
    simp only [pt, List.mem_append] at hx
    rcases hx with hx | hx
    · exact eks_byt (bytesOf_range k) x hx
    · exact pj_byt ks x hx
/-- Fuel. -/
theorem up {α : Type} {f : Nat → Option α} (h : ∀ k, LeO (f k) (f (k + 1))) {k : Nat} {r : α} (e : f k = some r) : ∀ {k' : Nat}, k ≤ k' → f k' = some r := by
  intro k' hk
  obtain ⟨d, rfl⟩ : ∃ d, k' = k + d := ⟨k' - k, by omega⟩
  clear hk
  induction d with
  | zero => exact e
  | succ d ih => exact h _ _ ih

/-! ### PathOf -/
theorem path_l1 (keys : List ByteArray) (n i : Int) (s : ByteArray) (hs : s.size ≤ 2147483647) (r : ByteArray) (g : L) (hg : g.length ≤ 300000000000) (hK : ∃ k, spec_PathOf.l0 k g keys n (wrap64 (i + 1)) = some r) :
    ∀ (m a : Nat) (acc : L), a + m = s.size → acc ++ eks (from_ s a) = g → ∃ k, spec_PathOf.l1 k acc s (a : Int) keys n i = some r := by
  intro m
  induction m with
  | zero =>
    intro a acc h1 h2
    obtain rfl : a = s.size := by omega
    rw [from_end] at h2
    obtain ⟨k, hk⟩ := hK
    refine ⟨k + 1, ?_⟩
    rw [spec_PathOf.l1, if_neg (by omega)]
    simp only [eks, List.flatMap_nil, List.append_nil] at h2
    rw [h2]; exact hk
  | succ m ih =>
    intro a acc h1 h2
    have hlt : a < s.size := by omega
    rw [from_cons s a hlt, eks_cons] at h2
    have hl := congrArg List.length h2
    simp only [List.length_append] at hl
    obtain ⟨b, hb⟩ : ∃ b, b = bt s (a : Int) := ⟨_, rfl⟩
    rw [← hb] at h2 hl
    have hw := w64n a (by omega)
    by_cases hp : pb b = true
    · have e : eb b = [b] := if_pos hp
      rw [e] at h2
      obtain ⟨k, hk⟩ := ih (a + 1) (acc ++ [b]) (by omega) (by rw [← h2]; simp)
      refine ⟨k + 1, ?_⟩
      rw [spec_PathOf.l1, if_pos (by omega), if_pos (by omega), ← hb, pathByte_f, Option.bind_some, if_pos hp, if_pos (by omega), hw]
      exact hk
    · have e : eb b = [92, b] := if_neg hp
      rw [e] at h2 hl
      simp only [List.length_cons, List.length_nil] at hl
      obtain ⟨k, hk⟩ := ih (a + 1) ((acc ++ [92]) ++ [b]) (by omega) (by rw [← h2]; simp)
      refine ⟨k + 1, ?_⟩
      rw [spec_PathOf.l1, if_pos (by omega), if_pos (by omega), ← hb, pathByte_f, Option.bind_some, if_neg hp, if_pos (by omega), Option.bind_some, if_pos (by rw [List.length_append, List.length_singleton]; omega), hw]
      exact hk
theorem path_l0 (keys : List ByteArray) (hk : ∀ x ∈ keys, x.size ≤ 2147483647) (hn : keys.length ≤ 64) (g : L) (hg : g.length ≤ 300000000000) :
    ∀ (m i : Nat) (acc : L), i + m = keys.length → acc ++ (if i = 0 then pt (keys.drop i) else pj (keys.drop i)) = g → ∃ k, spec_PathOf.l0 k acc keys (keys.length : Int) (i : Int) = some (strOfNums g) := by
  intro m
  induction m with
  | zero =>
    intro i acc h1 h2
    obtain rfl : i = keys.length := by omega
    refine ⟨1, ?_⟩
    rw [spec_PathOf.l0, if_neg (by omega)]
    rw [List.drop_length] at h2
    have : acc = g := by rw [← h2]; split <;> simp [pt, pj]
    rw [this]
  | succ m ih =>
    intro i acc h1 h2
    have hi : i < keys.length := by omega
    have hd : keys.drop i = keys[i] :: keys.drop (i + 1) := List.drop_eq_getElem_cons hi
    have hr : rdOf ByteArray.empty keys (i : Int) = keys[i] := by unfold rdOf; rw [Int.toNat_natCast, List.getD_eq_getElem?_getD, List.getElem?_eq_getElem hi]; rfl
    have hw := w64n i (by omega)
    have hsz := hk keys[i] (List.getElem_mem hi)
    rw [hd] at h2
    have hz : from_ keys[i] 0 = bytesOf keys[i] := rfl
    by_cases h0 : i = 0
    · rw [if_pos h0] at h2
      simp only [pt] at h2
      obtain ⟨k, hk2⟩ := path_l1 keys (keys.length : Int) (i : Int) keys[i] hsz (strOfNums g) (acc ++ ek keys[i]) (by rw [← h2] at hg; simp only [List.length_append] at hg ⊢; omega)
        (by rw [hw]; exact ih (i + 1) _ (by omega) (by rw [if_neg (by omega), ← h2]; simp)) keys[i].size 0 acc (by omega) (by rw [hz]; rfl)
      refine ⟨k + 2, ?_⟩
      rw [spec_PathOf.l0, if_pos (by omega), if_pos (by omega), if_pos (by omega), if_neg (by omega), hr, spec_PathOf.j1]
      exact hk2
    · rw [if_neg h0] at h2
      simp only [pj] at h2
      obtain ⟨k, hk2⟩ := path_l1 keys (keys.length : Int) (i : Int) keys[i] hsz (strOfNums g) ((acc ++ [46]) ++ ek keys[i]) (by rw [← h2] at hg; simp only [List.length_append, List.length_cons, List.length_nil] at hg ⊢; omega)
        (by rw [hw]; exact ih (i + 1) _ (by omega) (by rw [if_neg (by omega), ← h2]; simp)) keys[i].size 0 (acc ++ [46]) (by omega) (by rw [hz]; rfl)
      refine ⟨k + 2, ?_⟩
      rw [spec_PathOf.l0, if_pos (by omega), if_pos (by omega), if_pos (by omega), if_pos (by omega), if_pos (by rw [← h2] at hg; simp only [List.length_append, List.length_cons] at hg; omega), hr, spec_PathOf.j1]
      exact hk2
theorem path_f (keys : List ByteArray) (hk : ∀ x ∈ keys, x.size ≤ 2147483647) (hn : keys.length ≤ 64) : ∃ k, spec_PathOf.f k keys = some (strOfNums (pt keys)) := by
  have h := pt_len keys hk
  exact path_l0 keys hk hn (pt keys) (by omega) keys.length 0 [] (by omega) (by simp)
end Go.Proofs.Ytjpbjbcdobibbaa.Sp
