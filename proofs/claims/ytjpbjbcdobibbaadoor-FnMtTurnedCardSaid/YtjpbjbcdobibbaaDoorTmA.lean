/- Several texts in one. -/
import Derived.Test.YtjpbjbcdobibbaaDoorC1
import Derived.Test.YtjpbjbcdobibbaaDoorC2
import Derived.Test.YtjpbjbcdobibbaaDoorM2
import Derived.Lib.RabinKarpLaws
import Derived.OwnWalk
/- Texts as characters; patterns as terms; what fits, on lists. -/
set_option linter.unusedVariables false
namespace Go.Proofs.YtjpbjbcdobibbaaDoor.J

/-- A character. -/
def okC (c : Int) : Prop := 0 ≤ c ∧ c ≤ 1114111 ∧ ¬ (55296 ≤ c ∧ c ≤ 57343)
theorem chr_utf8 {c : Int} (h : okC c) (r : L) : chr (utf8 c ++ r) = some (c, (utf8 c).length) := by
  obtain ⟨h0, h1, h2⟩ := h
  have hh : ¬ (high c = true ∨ low c = true) := by unfold high low; simp; omega
  unfold utf8
  by_cases a1 : c < 128
  · rw [if_pos a1]
    unfold chr
    simp [a1]
  rw [if_neg a1]
  by_cases a2 : c < 2048
  · rw [if_pos a2]
    unfold chr
    have e1 : ([192 + c / 64, 128 + c % 64] ++ r).getD 0 0 = 192 + c / 64 := rfl
    have e2 : ([192 + c / 64, 128 + c % 64] ++ r).getD 1 0 = 128 + c % 64 := rfl
    rw [e1, e2, if_neg (by simp), if_neg (by omega), if_pos (by omega), if_pos ⟨by simp, cont_iff.2 (by omega)⟩]
    simp only [Option.some.injEq, Prod.mk.injEq, List.length_cons, List.length_nil, and_true]
    omega
  rw [if_neg a2, if_neg hh]
  by_cases a3 : c < 65536
  · rw [if_pos a3]
    unfold chr
    have e1 : ([224 + c / 4096, 128 + c / 64 % 64, 128 + c % 64] ++ r).getD 0 0 = 224 + c / 4096 := rfl
    have e2 : ([224 + c / 4096, 128 + c / 64 % 64, 128 + c % 64] ++ r).getD 1 0 = 128 + c / 64 % 64 := rfl
    have e3 : ([224 + c / 4096, 128 + c / 64 % 64, 128 + c % 64] ++ r).getD 2 0 = 128 + c % 64 := rfl
    have ec : ((224 + c / 4096 - 224) * 64 + (128 + c / 64 % 64 - 128)) * 64 + (128 + c % 64 - 128) = c := by omega
    rw [e1, e2, e3, if_neg (by simp), if_neg (by omega), if_neg (by omega), if_pos (by omega), ec, if_pos ⟨by simp, cont_iff.2 (by omega), cont_iff.2 (by omega), by omega, by omega⟩]
    rfl
  · rw [if_neg a3]
    unfold chr
    have e1 : ([240 + c / 262144, 128 + c / 4096 % 64, 128 + c / 64 % 64, 128 + c % 64] ++ r).getD 0 0 = 240 + c / 262144 := rfl
    have e2 : ([240 + c / 262144, 128 + c / 4096 % 64, 128 + c / 64 % 64, 128 + c % 64] ++ r).getD 1 0 = 128 + c / 4096 % 64 := rfl
    have e3 : ([240 + c / 262144, 128 + c / 4096 % 64, 128 + c / 64 % 64, 128 + c % 64] ++ r).getD 2 0 = 128 + c / 64 % 64 := rfl
    have e4 : ([240 + c / 262144, 128 + c / 4096 % 64, 128 + c / 64 % 64, 128 + c % 64] ++ r).getD 3 0 = 128 + c % 64 := rfl
    have ec : (((240 + c / 262144 - 240) * 64 + (128 + c / 4096 % 64 - 128)) * 64 + (128 + c / 64 % 64 - 128)) * 64 + (128 + c % 64 - 128) = c := by omega
    rw [e1, e2, e3, e4, if_neg (by simp), if_neg (by omega), if_neg (by omega), if_neg (by omega), if_pos (by omega), ec, if_pos ⟨by simp, cont_iff.2 (by omega), cont_iff.2 (by omega), cont_iff.2 (by omega), by omega, by omega⟩]
    rfl
theorem utf8_byts {c : Int} (h : okC c) : ∀ x ∈ utf8 c, 0 ≤ x ∧ x ≤ 255 := by
  obtain ⟨h0, h1, h2⟩ := h
  intro x hx
  unfold utf8 at hx
  repeat' split at hx
  all_goals (simp at hx; omega)
theorem utf8_pos (c : Int) : 1 ≤ (utf8 c).length ∧ (utf8 c).length ≤ 4 := by
  unfold utf8
  repeat' split
  all_goals simp
theorem chr_ok {l : L} {c : Int} {n : Nat} (hl : ∀ x ∈ l, 0 ≤ x ∧ x ≤ 255) (h : chr l = some (c, n)) : okC c := by
  unfold okC
  unfold chr at h
  have g0 : 0 ≤ l.getD 0 0 := by
    cases l with
    | nil => simp
    | cons x t => exact (hl x List.mem_cons_self).1
  split at h
  · cases h
  split at h
  · simp only [Option.some.injEq, Prod.mk.injEq] at h; omega
  split at h
  · split at h
    · rename_i k
      have := cont_iff.1 k.2
      simp only [Option.some.injEq, Prod.mk.injEq] at h; omega
    · cases h
  split at h
  · split at h
    · rename_i k
      obtain ⟨k1, k2, k3, k4, k5⟩ := k
      have q2 := cont_iff.1 k2
      have q3 := cont_iff.1 k3
      simp only [Option.some.injEq, Prod.mk.injEq] at h
      omega
    · cases h
  split at h
  · split at h
    · rename_i k
      obtain ⟨k1, k2, k3, k4, k5, k6⟩ := k
      simp only [Option.some.injEq, Prod.mk.injEq] at h
      omega
    · cases h
  · cases h
/-- What is read is the character's own bytes. -/
theorem chr_take_utf8 {l : L} {c : Int} {n : Nat} (hl : ∀ x ∈ l, 0 ≤ x ∧ x ≤ 255) (h : chr l = some (c, n)) : l = utf8 c ++ l.drop n ∧ n = (utf8 c).length := by
  have ho := chr_ok hl h
  have h2 := chr_utf8 ho []
  rw [List.append_nil] at h2
  obtain ⟨e1, e2⟩ := chr_inj hl (utf8_byts ho) h h2
  refine ⟨?_, e1⟩
  rw [e1, List.take_length] at e2
  rw [← e2, ← e1, List.take_append_drop]
/-- A text, out of its characters. -/
def enc (cs : List Int) : L := cs.flatMap utf8
theorem enc_cons (c : Int) (cs : List Int) : enc (c :: cs) = utf8 c ++ enc cs := rfl
theorem enc_append (a b : List Int) : enc (a ++ b) = enc a ++ enc b := by simp [enc]
theorem enc_of_valid : ∀ (m : Nat) (l : L), l.length ≤ m → (∀ x ∈ l, 0 ≤ x ∧ x ≤ 255) → valid l = true → ∃ cs, (∀ c ∈ cs, okC c) ∧ l = enc cs := by
  intro m
  induction m with
  | zero =>
    intro l hm _ _
    exact ⟨[], (fun c h => by cases h), List.eq_nil_of_length_eq_zero (by omega)⟩
  | succ m ih =>
    intro l hm hl hv
    rcases valid_cases hv with rfl | ⟨c, n, hc, hv2⟩
    · exact ⟨[], (fun c h => by cases h), rfl⟩
    · have hs := chr_some hc
      obtain ⟨cs, h1, h2⟩ := ih (l.drop n) (by rw [List.length_drop]; omega) (fun x hx => hl x (List.mem_of_mem_drop hx)) hv2
      have ht := (chr_take_utf8 hl hc).1
      refine ⟨c :: cs, fun x hx => ?_, ?_⟩
      · rcases List.mem_cons.1 hx with rfl | hx
        · exact chr_ok hl hc
        · exact h1 x hx
      · rw [enc_cons, ← h2]; exact ht

/-- A term: a star, a question mark, a character (with a backslash ahead of it or not). -/
inductive T where
  | star
  | one
  | ch (esc : Bool) (c : Int)
def okT : T → Prop
  | .star => True
  | .one => True
  | .ch e c => okC c ∧ (e = false → c ≠ 42 ∧ c ≠ 63 ∧ c ≠ 92)
def tt : T → L
  | .star => [42]
  | .one => [63]
  | .ch true c => 92 :: utf8 c
  | .ch false c => utf8 c
def pat (ts : List T) : L := ts.flatMap tt
theorem pat_cons (t : T) (ts : List T) : pat (t :: ts) = tt t ++ pat ts := rfl
theorem pat_append (a b : List T) : pat (a ++ b) = pat a ++ pat b := by simp [pat]
/-- What fits. -/
def fit : List Int → List T → Bool
  | [], [] => true
  | _ :: _, [] => false
  | [], .star :: ts => fit [] ts
  | c :: cs, .star :: ts => fit (c :: cs) ts || fit cs (.star :: ts)
  | [], .one :: _ => false
  | _ :: cs, .one :: ts => fit cs ts
  | [], .ch _ _ :: _ => false
  | x :: cs, .ch _ c :: ts => (x == c) && fit cs ts
termination_by cs ts => (ts.length, cs.length)
/-- The same as a relation. -/
inductive Fit : List Int → List T → Prop where
  | nil : Fit [] []
  | skip {cs ts} : Fit cs ts → Fit cs (.star :: ts)
  | eat {c cs ts} : Fit cs (.star :: ts) → Fit (c :: cs) (.star :: ts)
  | one {c cs ts} : Fit cs ts → Fit (c :: cs) (.one :: ts)
  | ch {e c cs ts} : Fit cs ts → Fit (c :: cs) (.ch e c :: ts)
theorem fit_iff : ∀ (ts : List T) (cs : List Int), fit cs ts = true ↔ Fit cs ts
  | [], [] => by rw [fit]; exact ⟨fun _ => .nil, fun _ => rfl⟩
  | [], c :: cs => by rw [fit]; exact ⟨(fun h => by cases h), (fun h => by cases h)⟩
  | .star :: ts, [] => by
    rw [fit, fit_iff ts []]
    exact ⟨.skip, fun h => by cases h with | skip h => exact h⟩
  | .star :: ts, c :: cs => by
    rw [fit, Bool.or_eq_true, fit_iff ts (c :: cs), fit_iff (.star :: ts) cs]
    exact ⟨fun h => h.elim .skip .eat, fun h => by cases h with | skip h => exact .inl h | eat h => exact .inr h⟩
  | .one :: ts, [] => by rw [fit]; exact ⟨(fun h => by cases h), (fun h => by cases h)⟩
  | .one :: ts, c :: cs => by
    rw [fit, fit_iff ts cs]
    exact ⟨.one, fun h => by cases h with | one h => exact h⟩
  | .ch e c :: ts, [] => by rw [fit]; exact ⟨(fun h => by cases h), (fun h => by cases h)⟩
  | .ch e c :: ts, x :: cs => by
    rw [fit, Bool.and_eq_true, beq_iff_eq, fit_iff ts cs]
    constructor
    · rintro ⟨rfl, h⟩; exact .ch h
    · intro h; cases h with | ch h => exact ⟨rfl, h⟩
termination_by ts cs => (ts.length, cs.length)
theorem Fit.stars {cs : List Int} : ∀ (xs : List Int) {ts : List T}, Fit cs ts → Fit (xs ++ cs) (.star :: ts)
  | [], _, h => .skip h
  | x :: xs, _, h => .eat (Fit.stars xs h)
theorem Fit.append {a b : List Int} {s t : List T} (h : Fit a s) (k : Fit b t) : Fit (a ++ b) (s ++ t) := by
  induction h with
  | nil => exact k
  | skip _ ih => exact .skip ih
  | eat _ ih => exact .eat ih
  | one _ ih => exact .one ih
  | ch _ ih => exact .ch ih
theorem Fit.split : ∀ {s t : List T} {cs : List Int}, Fit cs (s ++ t) → ∃ a b, cs = a ++ b ∧ Fit a s ∧ Fit b t := by
  intro s t cs h
  generalize hu : s ++ t = u at h
  induction h generalizing s with
  | nil =>
    obtain ⟨rfl, rfl⟩ := List.append_eq_nil_iff.1 hu
    exact ⟨[], [], rfl, .nil, .nil⟩
  | @skip cs ts h ih =>
    cases s with
    | nil => exact ⟨[], cs, rfl, .nil, by rw [List.nil_append] at hu; rw [hu]; exact .skip h⟩
    | cons x s =>
      simp only [List.cons_append, List.cons.injEq] at hu
      obtain ⟨rfl, hu⟩ := hu
      obtain ⟨a, b, e, f, g⟩ := ih hu
      exact ⟨a, b, e, .skip f, g⟩
  | @eat c cs ts h ih =>
    cases s with
    | nil => exact ⟨[], c :: cs, rfl, .nil, by rw [List.nil_append] at hu; rw [hu]; exact .eat h⟩
    | cons x s =>
      have hu' := hu
      simp only [List.cons_append, List.cons.injEq] at hu
      obtain ⟨rfl, hu⟩ := hu
      obtain ⟨a, b, e, f, g⟩ := ih hu'
      exact ⟨c :: a, b, by rw [e]; rfl, .eat f, g⟩
  | @one c cs ts h ih =>
    cases s with
    | nil => exact ⟨[], c :: cs, rfl, .nil, by rw [List.nil_append] at hu; rw [hu]; exact .one h⟩
    | cons x s =>
      simp only [List.cons_append, List.cons.injEq] at hu
      obtain ⟨rfl, hu⟩ := hu
      obtain ⟨a, b, e, f, g⟩ := ih hu
      exact ⟨c :: a, b, by rw [e]; rfl, .one f, g⟩
  | @ch e c cs ts h ih =>
    cases s with
    | nil => exact ⟨[], c :: cs, rfl, .nil, by rw [List.nil_append] at hu; rw [hu]; exact .ch h⟩
    | cons x s =>
      simp only [List.cons_append, List.cons.injEq] at hu
      obtain ⟨rfl, hu⟩ := hu
      obtain ⟨a, b, e, f, g⟩ := ih hu
      exact ⟨c :: a, b, by rw [e]; rfl, .ch f, g⟩
/-- The grammar has no direction. -/
theorem Fit.rev {cs : List Int} {ts : List T} (h : Fit cs ts) : Fit cs.reverse ts.reverse := by
  induction h with
  | nil => exact .nil
  | @skip cs ts _ ih =>
    rw [List.reverse_cons]
    have := ih.append (.skip .nil : Fit [] [.star])
    rwa [List.append_nil] at this
  | @eat c cs ts _ ih =>
    rw [List.reverse_cons, List.reverse_cons]
    rw [List.reverse_cons] at ih
    obtain ⟨a, b, e, f, g⟩ := ih.split
    rw [e, List.append_assoc]
    refine f.append ?_
    have : ∀ xs : List Int, Fit xs [.star] := fun xs => by
      have := Fit.stars xs (.nil : Fit [] [])
      rwa [List.append_nil] at this
    exact this _
  | @one c cs ts _ ih =>
    rw [List.reverse_cons, List.reverse_cons]
    exact ih.append (.one .nil)
  | @ch e c cs ts _ ih =>
    rw [List.reverse_cons, List.reverse_cons]
    exact ih.append (.ch .nil)
theorem fit_rev (cs : List Int) (ts : List T) : fit cs.reverse ts.reverse = fit cs ts := by
  rw [Bool.eq_iff_iff, fit_iff, fit_iff]
  constructor
  · intro h
    have := h.rev
    rwa [List.reverse_reverse, List.reverse_reverse] at this
  · exact Fit.rev
/-- The same terms, however their characters are spelled. -/
def nrm : T → T
  | .ch _ c => .ch true c
  | t => t
theorem fit_nrm : ∀ (ts : List T) (cs : List Int), fit cs (ts.map nrm) = fit cs ts
  | [], [] => rfl
  | [], c :: cs => rfl
  | .star :: ts, [] => by
    have := fit_nrm ts []
    simp only [List.map_cons, nrm]
    rw [fit, fit, this]
  | .star :: ts, c :: cs => by
    have h1 := fit_nrm ts (c :: cs)
    have h2 := fit_nrm (.star :: ts) cs
    simp only [List.map_cons, nrm] at h2 ⊢
    rw [fit, fit, h1, h2]
  | .one :: ts, [] => by simp only [List.map_cons, nrm]; rw [fit, fit]
  | .one :: ts, c :: cs => by
    have := fit_nrm ts cs
    simp only [List.map_cons, nrm]
    rw [fit, fit, this]
  | .ch e c :: ts, [] => by simp only [List.map_cons, nrm]; rw [fit, fit]
  | .ch e c :: ts, x :: cs => by
    have := fit_nrm ts cs
    simp only [List.map_cons, nrm]
    rw [fit, fit, this]
termination_by ts cs => (ts.length, cs.length)
/-- A last character against a last term. -/
theorem fit_last (cs : List Int) (ts : List T) (x : Int) (t : T) (ht : t ≠ .star) : fit (cs ++ [x]) (ts ++ [t]) = ((match t with | .one => true | .ch _ c => x == c | .star => false) && fit cs ts) := by
  rw [← fit_rev (cs ++ [x]), List.reverse_append, List.reverse_append, ← fit_rev cs]
  cases t with
  | star => exact absurd rfl ht
  | one => simp [fit]
  | ch e c => simp [fit]
end Go.Proofs.YtjpbjbcdobibbaaDoor.J

/- The last character of a text, as utf8.DecodeLastRuneInString reads it. -/
set_option linter.unusedVariables false
namespace Go.Proofs.YtjpbjbcdobibbaaDoor.J
open Go.RowKit Go.Proofs.YtjpbjbcdobibbaaDoorW.PrintWords Go.Proofs.YtjpbjbcdobibbaaDoor.Aid

theorem getD_nat (M : List UInt8) (i : Nat) : ((M.getD i 0).toNat : Int) = (M.map fun b => (b.toNat : Int)).getD i 0 := by
  rw [List.getD_eq_getElem?_getD, List.getD_eq_getElem?_getD, List.getElem?_map]
  cases M[i]? <;> rfl
theorem rstart (b : UInt8) : Lib.runeStartB b = !(decide (128 ≤ b.toNat) && decide (b.toNat ≤ 191)) := by
  unfold Lib.runeStartB
  have := b.toNat_lt
  rw [Bool.eq_iff_iff]
  simp
  omega
theorem decodeL_chr (q : List UInt8) {c : Int} {n : Nat} (h : chr (q.map fun b => (b.toNat : Int)) = some (c, n)) : ((Lib.decodeL q).1 : Int) = c ∧ (Lib.decodeL q).2 = n := by
  have hs := chr_some h
  have e : bytesOf ⟨q.toArray⟩ = q.map fun b => (b.toNat : Int) := by unfold bytesOf; simp
  have h2 := decodeGo_chr ⟨q.toArray⟩ (by rw [e]; exact h)
  have hz : (⟨q.toArray⟩ : ByteArray).size ≠ 0 := by
    have := hs.2.2.1
    rw [List.length_map] at this
    simp [ByteArray.size]
    intro h0; rw [h0] at this; simp at this; omega
  unfold Lib.decodeGo at h2
  rw [if_neg hz] at h2
  exact h2
theorem decodeLast_enc (M : List UInt8) (l : L) (c : Int) (h : okC c) (hb : (M.map fun b => (b.toNat : Int)) = l ++ utf8 c) : ((Lib.decodeLastL M).1 : Int) = c ∧ (Lib.decodeLastL M).2 = (utf8 c).length := by
  have hc := chr_utf8 h []
  rw [List.append_nil] at hc
  have hs := chr_some hc
  obtain ⟨k, hk⟩ : ∃ k, k = (utf8 c).length := ⟨_, rfl⟩
  rw [← hk] at hs hc ⊢
  have hl : M.length = l.length + k := by have := congrArg List.length hb; rw [List.length_map, List.length_append] at this; omega
  have at_ : ∀ j, 1 ≤ j → j ≤ k → ((M.getD (M.length - j) 0).toNat : Int) = (utf8 c).getD (k - j) 0 := by
    intro j h1 h2
    rw [getD_nat, hb, List.getD_eq_getElem?_getD, List.getElem?_append_right (by omega), ← List.getD_eq_getElem?_getD]
    congr 1; omega
  have hne : M ≠ [] := by intro e; rw [e] at hl; simp at hl; omega
  have hdrop : (M.drop (M.length - k)).map (fun b => (b.toNat : Int)) = utf8 c := by
    rw [List.map_drop, hb, show M.length - k = l.length by omega, List.drop_left' rfl]
  unfold Lib.decodeLastL
  rw [if_neg hne]
  have a1 := at_ 1 (by omega) (by omega)
  rcases hs.2.2.2.1 with ⟨b0, b1, b2⟩ | ⟨b0, b1, b2⟩
  · rw [b1, show 1 - 1 = 0 from rfl] at a1
    rw [if_pos (by omega)]
    simp only
    omega
  · have lastc := cont_iff.1 (hs.2.2.2.2 (k - 1) (by omega) (by omega))
    rw [if_neg (by omega)]
    have lead : Lib.runeStartB (M.getD (M.length - k) 0) = true := by
      have := at_ k (by omega) (Nat.le_refl _)
      rw [Nat.sub_self] at this
      rw [rstart]
      generalize M.getD (M.length - k) 0 = b at *
      simp; omega
    have inner : ∀ j, 1 ≤ j → j < k → Lib.runeStartB (M.getD (M.length - j) 0) = false := by
      intro j h1 h2
      have := at_ j h1 (by omega)
      have q := cont_iff.1 (hs.2.2.2.2 (k - j) (by omega) (by omega))
      rw [rstart]
      generalize M.getD (M.length - j) 0 = b at *
      simp; omega
    have hst : Lib.lastStart M = M.length - k := by
      unfold Lib.lastStart
      simp only
      rw [if_neg (by omega)]
      rcases (show k = 2 ∨ k = 3 ∨ k = 4 by omega) with e | e | e
      · rw [e] at lead
        rw [if_pos lead, e]
      · rw [e] at lead
        rw [inner 2 (by omega) (by omega), if_neg (by decide), if_neg (by omega), if_pos lead, e]
      · rw [e] at lead
        rw [inner 2 (by omega) (by omega), if_neg (by decide), if_neg (by omega), inner 3 (by omega) (by omega), if_neg (by decide), if_neg (by omega), if_pos lead, e]
    have hd := decodeL_chr (M.drop (M.length - k)) (by rw [hdrop]; exact hc)
    rw [hst]
    simp only
    rw [hd.2, if_pos (by omega)]
    exact hd
theorem DecodeLast_any (s : ByteArray) (W : World) (l : L) (c : Int) (h : okC c) (hb : bytesOf s = l ++ utf8 c) (hs : s.size ≤ 2147483647) (hT : Lib.Utf8Tabs 5 6 W) :
    Calls Tryd.prog 70 #[.string s] W fun e w' => e = .returned (.tuple #[.int .i32 c, .int .i64 ((utf8 c).length : Nat)]) ∧ Below W.heap.size W w' := by
  obtain ⟨e1, e2⟩ := decodeLast_enc s.data.toList l c h hb
  have := Tryd.utf8_DecodeLastRuneInString s W (by omega) hT
  rwa [e1, e2] at this
end Go.Proofs.YtjpbjbcdobibbaaDoor.J

/- The last term of a pattern; the backslashes ahead of its last character. -/
set_option linter.unusedVariables false
namespace Go.Proofs.YtjpbjbcdobibbaaDoor.J

def tbr : L → Nat
  | [] => 0
  | x :: t => if x = 92 then tbr t + 1 else 0
/-- How many backslashes stand at the end. -/
def tb (l : L) : Nat := tbr l.reverse
theorem tb_snoc (l : L) (b : Int) : tb (l ++ [b]) = if b = 92 then tb l + 1 else 0 := by
  unfold tb; rw [List.reverse_append]; rfl
theorem tbr_le : ∀ l : L, tbr l ≤ l.length
  | [] => Nat.le_refl _
  | x :: t => by
    have := tbr_le t
    simp only [tbr]
    split <;> simp <;> omega
theorem tbr_in : ∀ (l : L) (i : Nat), i < tbr l → l.getD i 0 = 92
  | [], i, h => by simp [tbr] at h
  | x :: t, i, h => by
    simp only [tbr] at h
    split at h
    · rename_i e
      cases i with
      | zero => exact e
      | succ i => rw [List.getD_cons_succ]; exact tbr_in t i (by omega)
    · omega
theorem tbr_out : ∀ (l : L), tbr l < l.length → l.getD (tbr l) 0 ≠ 92
  | [], h => by simp at h
  | x :: t, h => by
    simp only [tbr] at h ⊢
    split
    · rename_i e
      rw [if_pos e] at h
      rw [List.getD_cons_succ]
      exact tbr_out t (by simp at h; omega)
    · rename_i e; exact e
theorem getD_rev (l : L) (i : Nat) (h : i < l.length) : l.reverse.getD i 0 = l.getD (l.length - 1 - i) 0 := by
  rw [List.getD_eq_getElem?_getD, List.getD_eq_getElem?_getD, List.getElem?_reverse h]
theorem tb_in (l : L) (i : Nat) (h : i < tb l) : l.getD (l.length - 1 - i) 0 = 92 := by
  have h2 := tbr_le l.reverse
  rw [List.length_reverse] at h2
  rw [← getD_rev l i (by unfold tb at h; omega)]
  exact tbr_in _ i h
theorem tb_out (l : L) (h : tb l < l.length) : l.getD (l.length - 1 - tb l) 0 ≠ 92 := by
  rw [← getD_rev l _ h]
  exact tbr_out _ (by rw [List.length_reverse]; exact h)
theorem tb_42 (l : L) : tb (42 :: l) < (42 :: l).length := by
  have : ∀ r : L, tbr (r ++ [42]) < (r ++ [42]).length := by
    intro r
    induction r with
    | nil => simp [tbr]
    | cons x t ih =>
      simp only [List.cons_append, tbr, List.length_cons]
      split <;> omega
  have h := this l.reverse
  unfold tb
  have e : (l.reverse ++ [42]).length = (42 :: l).length := by simp
  rw [e] at h
  rw [List.reverse_cons]
  exact h
/-- A character's last byte. -/
theorem utf8_last {c : Int} (h : okC c) : ∃ r b, utf8 c = r ++ [b] ∧ (b = 92 ↔ c = 92) := by
  obtain ⟨h0, h1, h2⟩ := h
  unfold utf8
  split
  · exact ⟨[], c, rfl, Iff.rfl⟩
  split
  · exact ⟨[192 + c / 64], 128 + c % 64, rfl, by omega⟩
  split
  · exact ⟨[239, 191], 189, rfl, by omega⟩
  split
  · exact ⟨[224 + c / 4096, 128 + c / 64 % 64], 128 + c % 64, rfl, by omega⟩
  · exact ⟨[240 + c / 262144, 128 + c / 4096 % 64, 128 + c / 64 % 64], 128 + c % 64, rfl, by omega⟩
def lastc : T → Int
  | .star => 42
  | .one => 63
  | .ch _ c => c
def escq : T → Bool
  | .ch e _ => e
  | _ => false
def pre (t : T) : L := if escq t = true then [92] else []
theorem tt_last (t : T) : tt t = pre t ++ utf8 (lastc t) := by
  cases t with
  | star => rfl
  | one => rfl
  | ch e c => cases e <;> rfl
theorem lastc_ok {t : T} (h : okT t) : okC (lastc t) := by
  cases t with
  | star => exact ⟨by decide, by decide, by decide⟩
  | one => exact ⟨by decide, by decide, by decide⟩
  | ch e c => exact h.1
/-- Behind whole terms an even number of backslashes stands at the end. -/
theorem tb_pat : ∀ (n : Nat) (ts : List T), ts.length = n → (∀ t ∈ ts, okT t) → tb (42 :: pat ts) % 2 = 0 := by
  intro n
  induction n with
  | zero =>
    intro ts h _
    obtain rfl := List.eq_nil_of_length_eq_zero h
    decide
  | succ n ih =>
    intro ts h hok
    obtain ⟨ts0, t, rfl⟩ : ∃ ts0 t, ts = ts0 ++ [t] := ⟨ts.dropLast, ts.getLast (by intro e; rw [e] at h; simp at h), (List.dropLast_concat_getLast _).symm⟩
    have ht := hok t (by simp)
    have ih0 := ih ts0 (by simp at h; omega) (fun x hx => hok x (by simp [hx]))
    obtain ⟨r, b, e, hb⟩ := utf8_last (lastc_ok ht)
    have e1 : (42 :: pat (ts0 ++ [t])) = ((42 :: pat ts0) ++ (pre t ++ r)) ++ [b] := by
      rw [pat_append]
      show 42 :: (pat ts0 ++ (tt t ++ [])) = _
      rw [List.append_nil, tt_last, e]; simp
    rw [e1, tb_snoc]
    by_cases h92 : b = 92
    · rw [if_pos h92]
      have hc := hb.1 h92
      have hr : r = [] := by
        have := congrArg List.length e
        rw [hc] at this
        rw [show utf8 92 = [92] from rfl] at this
        simp at this
        exact this
      have hp : pre t = [92] := by
        cases t with
        | star => cases hc
        | one => cases hc
        | ch e' c =>
          cases e' with
          | true => rfl
          | false => exact absurd hc (ht.2 rfl).2.2
      rw [hr, hp, List.append_nil, tb_snoc, if_pos rfl]
      omega
    · rw [if_neg h92]
/-- Ahead of the last character: odd just where it has a backslash. -/
theorem tb_pre (ts : List T) (t : T) (hok : ∀ x ∈ ts, okT x) : tb ((42 :: pat ts) ++ pre t) % 2 = if escq t = true then 1 else 0 := by
  have h := tb_pat ts.length ts rfl hok
  unfold pre
  split
  · rw [tb_snoc, if_pos rfl]; omega
  · rw [List.append_nil]; exact h
end Go.Proofs.YtjpbjbcdobibbaaDoor.J

/- The walk of match's matchTrimSuffix. -/
set_option linter.unusedVariables false
set_option linter.unusedSimpArgs false
namespace Go.Proofs.YtjpbjbcdobibbaaDoor.J
open Go.RowKit Go.Proofs.YtjpbjbcdobibbaaDoorW.PrintWords Go.Proofs.YtjpbjbcdobibbaaDoorW.PrintLast Go.Proofs.YtjpbjbcdobibbaaDoorW.PrintMore Go.Proofs.YtjpbjbcdobibbaaDoor.Aid

def TrI (w W : World) (cs : List Int) (ts : List T) (kq : Nat) (v0 v1 v9 : Value) : Prop :=
  ∃ (s p : ByteArray) (cs1 : List Int) (ts1 : List T), v0 = .string s ∧ v1 = .string p ∧ v9 = .bool true ∧ bytesOf s = enc cs1 ∧ bytesOf p = 42 :: pat ts1 ∧ p.size = kq ∧ s.size ≤ 100000 ∧ p.size ≤ 100000 ∧ (∃ x, cs = cs1 ++ x) ∧ (∃ y, ts = ts1 ++ y) ∧ fit cs (.star :: ts) = fit cs1 (.star :: ts1) ∧ Below w.heap.size w W
/-- What comes back: the cut text, the cut pattern, and whether the rest can fit. -/
def TrP (w : World) (cs : List Int) (ts : List T) (e : Ending) (W : World) : Prop :=
  ∃ (s p : ByteArray) (ok : Bool) (cs1 : List Int) (ts1 : List T), e = .returned (.tuple #[.string s, .string p, .bool ok]) ∧ bytesOf s = enc cs1 ∧ bytesOf p = 42 :: pat ts1 ∧ s.size ≤ 100000 ∧ p.size ≤ 100000 ∧ (∃ x, cs = cs1 ++ x) ∧ (∃ y, ts = ts1 ++ y) ∧ (ok = true → fit cs (.star :: ts) = fit cs1 (.star :: ts1)) ∧ (ok = false → fit cs (.star :: ts) = false) ∧ Below w.heap.size w W
theorem index_at (s : ByteArray) (z : Int) (b : Int) (h0 : 0 ≤ z) (h1 : z.toNat < s.size) (hb : (bytesOf s).getD z.toNat 0 = b) (W : World) : (Instr.index 9 (.string s) (.int .i64 z)).run Tryd.prog W = .ok (.int .u8 b) W := by
  have e := bt_at s z h1
  have e2 := bytesOf_getD s z.toNat
  rw [hb, Int.toNat_of_nonneg h0] at e2
  rw [← e2] at e
  have h2 : z < (s.size : Int) := by omega
  go_simp
theorem slice_toI (s : ByteArray) (k : Int) (h0 : 0 ≤ k) (h1 : k ≤ s.size) (W : World) : (Instr.slice 9 (.string s) none (some (.int .i64 k)) none).run Tryd.prog W = .ok (.string (s.extract 0 k.toNat)) W := by
  go_simp
theorem bytes_to (s : ByteArray) (a b : L) (k : Nat) (h : bytesOf s = a ++ b) (hk : k = a.length) : bytesOf (s.extract 0 k) = a := by
  rw [bytesOf_extract, h, hk]; simp
/-- A last term and what stands ahead of it. -/
theorem last_of {α : Type} (l : List α) (h : l ≠ []) : ∃ a x, l = a ++ [x] := ⟨l.dropLast, l.getLast h, (List.dropLast_concat_getLast h).symm⟩
def okM (x : Int) : T → Bool
  | .star => false
  | .one => true
  | .ch _ c => x == c
theorem tr_fit (ca : List Int) (ta : List T) (x : Int) (t : T) (ht : t ≠ .star) : fit (ca ++ [x]) (.star :: (ta ++ [t])) = (okM x t && fit ca (.star :: ta)) := by
  have := fit_last ca (.star :: ta) x t ht
  rw [List.cons_append] at this
  rw [this]
  cases t <;> rfl
set_option maxHeartbeats 8000000 in
set_option maxRecDepth 100000 in
theorem trim_any (s p : ByteArray) (cs : List Int) (ts : List T) (w : World) (hcs : ∀ c ∈ cs, okC c) (hts : ∀ t ∈ ts, okT t) (hs : bytesOf s = enc cs) (hp : bytesOf p = 42 :: pat ts) (hsz : s.size ≤ 100000) (hpz : p.size ≤ 100000) (hT : Lib.Utf8Tabs gF gA w) :
    Calls Tryd.prog 63 #[.string s, .string p, .bool false] w (TrP w cs ts) := by
  have HT := Lib.hid hT
  have HC := Lib.hid hcs
  have HS := Lib.hid hts
  have H0 := Lib.hid (show TrI w w cs ts p.size (.string s) (.string p) (.bool true) from ⟨s, p, cs, ts, rfl, rfl, rfl, hs, hp, rfl, hsz, hpz, ⟨[], by simp⟩, ⟨[], by simp⟩, rfl, Below.refl _ _⟩)
  clear hT hs hp hcs hts
  go_enter Tryd.func63, Tryd.ntmps63
  go_wp2
  go_loopg [0, 1, 9] p.size (fun kq v0 v1 v9 w' => Hid (TrI w w' cs ts kq v0 v1 v9))
  case atStart => exact H0
  case round =>
    obtain ⟨sm, sp, cs1, ts1, rfl, rfl, rfl, hsm, hsp, rfl, hsmz, hspz, hx, hy, hfit, hB⟩ := hrel.out
    clear hrel H0
    have hsml := bytesOf_length sm
    have hspl := bytesOf_length sp
    have HB := Lib.hid hB
    have HTr := Lib.hid (tabs_below HT.out hB)
    have stopT : Hid (∀ W, Below w.heap.size w W → TrP w cs ts (.returned (.tuple #[.string sm, .string sp, .bool true])) W) := Lib.hid (fun W hb => ⟨sm, sp, true, cs1, ts1, rfl, hsm, hsp, hsmz, hspz, hx, hy, fun _ => hfit, fun h => (by cases h), hb⟩)
    clear hB
    by_cases hc0 : cs1 = []
    · have z0 : sm.size = 0 := by rw [← hsml, hsm, hc0]; rfl
      have d0 : decide (0 < sm.size) = false := decide_eq_false (by omega)
      have d1 : ¬ 0 < sm.size := by omega
      clear hsm hsp hx hy hfit hsml hspl
      go_wp2
      go_ret3
      exact stopT.out _ HB.out
    by_cases ht0 : ts1 = []
    · have z0 : sp.size = 1 := by rw [← hspl, hsp, ht0]; rfl
      have d0 : decide (1 < sp.size) = false := decide_eq_false (by omega)
      have d1 : ¬ 1 < sp.size := by omega
      clear hsm hsp hx hy hfit hsml hspl hc0
      go_wp2
      all_goals
        go_ret3
        exact stopT.out _ HB.out
    obtain ⟨ca, x, rfl⟩ := last_of cs1 hc0
    obtain ⟨ta, t, rfl⟩ := last_of ts1 ht0
    have okx : okC x := by obtain ⟨y, hy⟩ := hx; exact HC.out x (by rw [hy]; simp)
    have okt : okT t := by obtain ⟨z, hz⟩ := hy; exact HS.out t (by rw [hz]; simp)
    have okta : ∀ q ∈ ta, okT q := by obtain ⟨z, hz⟩ := hy; exact fun q hq => HS.out q (by rw [hz]; simp [hq])
    obtain ⟨A, hA⟩ : ∃ A, A = (42 :: pat ta) ++ pre t := ⟨_, rfl⟩
    obtain ⟨n, hn⟩ : ∃ n, n = (utf8 (lastc t)).length := ⟨_, rfl⟩
    obtain ⟨k, hk⟩ : ∃ k, k = (utf8 x).length := ⟨_, rfl⟩
    have hspA : bytesOf sp = A ++ utf8 (lastc t) := by
      rw [hsp, hA, pat_append]
      show 42 :: (pat ta ++ (tt t ++ [])) = _
      rw [List.append_nil, tt_last]; simp
    have hsmA : bytesOf sm = enc ca ++ utf8 x := by rw [hsm, enc_append]; show enc ca ++ (utf8 x ++ []) = _; rw [List.append_nil]
    have hAl : A.length + n = sp.size := by rw [← hspl, hspA, List.length_append, hn]
    have hcl : (enc ca).length + k = sm.size := by rw [← hsml, hsmA, List.length_append, hk]
    have hn1 := utf8_pos (lastc t)
    have hk1 := utf8_pos x
    rw [← hn] at hn1
    rw [← hk] at hk1
    have tA : tb A < A.length := by
      have e : ∃ r, A = 42 :: r := ⟨pat ta ++ pre t, by rw [hA]; rfl⟩
      obtain ⟨r, e⟩ := e
      rw [e]; exact tb_42 r
    have par : tb A % 2 = if escq t = true then 1 else 0 := by rw [hA]; exact tb_pre ta t okta
    have HD : Hid (∀ W, Lib.Utf8Tabs gF gA W → Calls Tryd.prog 70 #[.string sp] W fun e w' => e = .returned (.tuple #[.int .i32 (lastc t), .int .i64 (n : Nat)]) ∧ Below W.heap.size W w') := Lib.hid (fun W h => by rw [hn]; exact DecodeLast_any sp W A (lastc t) (lastc_ok okt) hspA (by omega) h)
    have HDs : Hid (∀ W, Lib.Utf8Tabs gF gA W → Calls Tryd.prog 70 #[.string sm] W fun e w' => e = .returned (.tuple #[.int .i32 x, .int .i64 (k : Nat)]) ∧ Below W.heap.size W w') := Lib.hid (fun W h => by rw [hk]; exact DecodeLast_any sm W (enc ca) x okx hsmA (by omega) h)
    have kidx : Hid (∀ i, i ≤ tb A → ∃ b, (b = 92 ↔ i < tb A) ∧ ∀ W : World, (Instr.index 9 (.string sp) (.int .i64 ((sp.size : Int) - (n : Int) - (i : Int) - 1))).run Tryd.prog W = .ok (.int .u8 b) W) := Lib.hid (fun i hi => by
      refine ⟨A.getD (A.length - 1 - i) 0, ?_, index_at sp _ _ (by omega) (by omega) ?_⟩
      · constructor
        · intro h
          apply Classical.byContradiction
          intro h2
          have : i = tb A := by omega
          rw [this] at h
          exact tb_out A tA h
        · exact tb_in A i
      · rw [show ((sp.size : Int) - (n : Int) - (i : Int) - 1).toNat = A.length - 1 - i by omega, hspA, List.getD_eq_getElem?_getD, List.getElem?_append_left (by omega), ← List.getD_eq_getElem?_getD])
    obtain ⟨sm1, hsm1⟩ : ∃ sm1, sm1 = sm.extract 0 ((sm.size : Int) - (k : Int)).toNat := ⟨_, rfl⟩
    have ksm : ∀ W : World, (Instr.slice 9 (.string sm) none (some (.int .i64 ((sm.size : Int) - (k : Int)))) none).run Tryd.prog W = .ok (.string sm1) W := by rw [hsm1]; exact slice_toI sm _ (by omega) (by omega)
    have bsm : bytesOf sm1 = enc ca := by rw [hsm1]; exact bytes_to sm _ _ _ hsmA (by omega)
    have hsm1z : sm1.size ≤ 100000 := by rw [← bytesOf_length, bsm]; omega
    have hxx : ∃ z, cs = ca ++ z := by obtain ⟨z, hz⟩ := hx; exact ⟨[x] ++ z, by rw [hz]; simp⟩
    have hyy : ∃ z, ts = ta ++ z := by obtain ⟨z, hz⟩ := hy; exact ⟨[t] ++ z, by rw [hz]; simp⟩
    have fin : Hid (t ≠ .star → okM x t = true → ∀ sp1 : ByteArray, bytesOf sp1 = 42 :: pat ta → ∀ W, Below w.heap.size w W → sp1.size < sp.size ∧ TrI w W cs ts sp1.size (.string sm1) (.string sp1) (.bool true)) := Lib.hid (fun hst hok sp1 hb W hbl => by
      have l1 := bytesOf_length sp1
      have l2 : (42 :: pat ta).length ≤ A.length := by rw [hA, List.length_append]; omega
      rw [hb] at l1
      refine ⟨by omega, sm1, sp1, ca, ta, rfl, rfl, rfl, bsm, hb, rfl, hsm1z, by omega, hxx, hyy, ?_, hbl⟩
      rw [hfit, tr_fit ca ta x t hst, hok, Bool.true_and])
    have stopF : Hid (t ≠ .star → okM x t = false → ∀ W, Below w.heap.size w W → TrP w cs ts (.returned (.tuple #[.string sm, .string sp, .bool false])) W) := Lib.hid (fun hst hok W hbl =>
      ⟨sm, sp, false, ca ++ [x], ta ++ [t], rfl, hsm, hsp, hsmz, hspz, hx, hy, fun h => (by cases h), fun _ => by rw [hfit, tr_fit ca ta x t hst, hok, Bool.false_and], hbl⟩)
    have HA := Lib.hid hA
    have HAl := Lib.hid hAl
    have HspA := Lib.hid hspA
    have hm0 : 0 < sm.size := by omega
    have hp1 : 1 < sp.size := by omega
    have d0 : decide (0 < sm.size) = true := decide_eq_true hm0
    have d1 : decide (1 < sp.size) = true := decide_eq_true hp1
    have htA : tb A ≤ 100000 := by omega
    have hle : A.length ≤ sp.size := by omega
    replace par := Lib.hid par
    have HtA := Lib.hid tA
    replace okt := Lib.hid okt
    clear hsm hsp hx hy hfit hsml hspl hc0 ht0 okx okta hA hn hk hspA hsmA hAl hcl tA hsm1 bsm hsm1z hxx hyy
    go_wp2_with (go_at_call_of 70 (Value.string sp); refine (HD.out _ HTr.out).mono ?_; rintro e w1 ⟨rfl, hb1⟩; have HT1 := Lib.hid (tabs_below HTr.out hb1); replace HB := Lib.hid (below_then HB.out HB.out.size hb1); clear hb1)
    go_loopg [11, 12, 13] (tb A) (fun kq v11 v12 v13 w' => Hid (v11 = .int .i64 ((n : Nat) : Int) ∧ v12 = .bool false ∧ ∃ i : Nat, v13 = .int .i64 ((i : Nat) : Int) ∧ i + kq = tb A ∧ Below w.heap.size w w' ∧ Lib.Utf8Tabs gF gA w'))
    case atStart => exact Lib.hid ⟨rfl, rfl, 0, rfl, by omega, HB.out, HT1.out⟩
    case round =>
      obtain ⟨rfl, rfl, i, rfl, hik, hB2, hT2⟩ := hrel.out
      clear hrel
      have HB2 := Lib.hid hB2
      have HT2 := Lib.hid hT2
      clear hB2 hT2
      have hiA : i ≤ tb A := by omega
      obtain ⟨b, hb92, kix⟩ := kidx.out i hiA
      rcases Nat.lt_or_ge i (tb A) with hlt | hge
      · have bb : (b != 92) = false := bne_eq_false_iff_eq.mpr (hb92.2 hlt)
        clear hb92
        go_wp2
        go_roundg (tb A - (i + 1))
        case rel => exact Lib.hid ⟨rfl, rfl, i + 1, rfl, by omega, HB2.out, HT2.out⟩
        case measure => omega
      · obtain rfl : i = tb A := by omega
        have bb : (b != 92) = true := bne_iff_ne.mpr (fun h => by have := hb92.1 h; omega)
        have hbit : (bits BinOp.and IntKind.i64 ((tb A : Nat) : Int) 1 == 1) = escq t := by
          rw [Go.Proofs.and_one _ (by omega)]
          have := par.out
          cases he : escq t with
          | true => rw [he, if_pos rfl] at this; rw [this]; rfl
          | false => rw [he, if_neg (by decide)] at this; rw [this]; rfl
        have kspA : ∀ (m : Nat), m ≤ sp.size → ∀ W : World, (Instr.slice 9 (.string sp) none (some (.int .i64 ((sp.size : Int) - (m : Int)))) none).run Tryd.prog W = .ok (.string (sp.extract 0 (sp.size - m))) W := fun m hm W => by
          have := slice_toI sp ((sp.size : Int) - (m : Int)) (by omega) (by omega) W
          rwa [show ((sp.size : Int) - (m : Int)).toNat = sp.size - m by omega] at this
        cases t with
        | star =>
          clear hik hge hb92 kspA
          simp only [escq] at hbit
          go_wp2
          go_ret3
          exact stopT.out _ HB2.out
        | one =>
          have hb1 : bytesOf (sp.extract 0 (sp.size - n)) = 42 :: pat ta := bytes_to sp _ _ _ HspA.out (by have := HAl.out; omega) |>.trans (by rw [HA.out]; simp [pre, escq])
          have ks1 := kspA n (by have := HAl.out; omega)
          obtain ⟨sp1, hsp1⟩ : ∃ sp1, sp1 = sp.extract 0 (sp.size - n) := ⟨_, rfl⟩
          rw [← hsp1] at hb1 ks1
          have f1 := Lib.hid (fin.out (by intro h; cases h) rfl sp1 hb1)
          clear hik hge hb92 kspA hb1 hsp1
          simp only [escq] at hbit
          go_wp2_with (go_at_call_of 70 (Value.string sm); refine (HDs.out _ HT2.out).mono ?_; rintro e w2 ⟨rfl, hb1⟩; replace HB2 := Lib.hid (below_then HB2.out HB2.out.size hb1); clear hb1)
          go_roundg sp1.size
          case rel => exact Lib.hid (f1.out _ HB2.out).2
          case measure => exact (f1.out _ HB2.out).1
        | ch e c =>
          have hc : lastc (.ch e c) = c := rfl
          cases e with
          | false =>
            have hsp' := okt.out.2 rfl
            have e1 : (c == 42) = false := beq_eq_false_iff_ne.mpr hsp'.1
            have e2 : (c == 63) = false := beq_eq_false_iff_ne.mpr hsp'.2.1
            have hb1 : bytesOf (sp.extract 0 (sp.size - n)) = 42 :: pat ta := bytes_to sp _ _ _ HspA.out (by have := HAl.out; omega) |>.trans (by rw [HA.out]; simp [pre, escq])
            have ks1 := kspA n (by have := HAl.out; omega)
            obtain ⟨sp1, hsp1⟩ : ∃ sp1, sp1 = sp.extract 0 (sp.size - n) := ⟨_, rfl⟩
            rw [← hsp1] at hb1 ks1
            simp only [escq] at hbit
            rcases Bool.eq_false_or_eq_true (x == c) with hxc | hxc
            · have f1 := Lib.hid (fin.out (by intro h; cases h) hxc sp1 hb1)
              have e3 : (c == x) = true := by rw [beq_iff_eq] at hxc ⊢; exact hxc.symm
              clear hik hge hb92 kspA hb1 hsp1 hsp' hxc
              go_wp2_with (go_at_call_of 70 (Value.string sm); refine (HDs.out _ HT2.out).mono ?_; rintro e w2 ⟨rfl, hb1⟩; replace HB2 := Lib.hid (below_then HB2.out HB2.out.size hb1); clear hb1)
              go_roundg sp1.size
              case rel => exact Lib.hid (f1.out _ HB2.out).2
              case measure => exact (f1.out _ HB2.out).1
            · have f1 := Lib.hid (stopF.out (by intro h; cases h) hxc)
              have e3 : (c == x) = false := by rw [beq_eq_false_iff_ne] at hxc ⊢; exact fun h => hxc h.symm
              clear hik hge hb92 kspA hb1 hsp1 hsp' hxc
              go_wp2_with (go_at_call_of 70 (Value.string sm); refine (HDs.out _ HT2.out).mono ?_; rintro e w2 ⟨rfl, hb1⟩; replace HB2 := Lib.hid (below_then HB2.out HB2.out.size hb1); clear hb1)
              go_ret3
              exact f1.out _ HB2.out
          | true =>
            have hb1 : bytesOf (sp.extract 0 (sp.size - (n + 1))) = 42 :: pat ta := bytes_to sp (42 :: pat ta) ([92] ++ utf8 c) _ (by rw [HspA.out, HA.out]; simp [pre, escq, lastc]) (by have := HAl.out; rw [HA.out] at this; simp [pre, escq] at this ⊢; omega)
            have ks1 : ∀ W : World, (Instr.slice 9 (.string sp) none (some (.int .i64 ((sp.size : Int) - ((n : Int) + 1)))) none).run Tryd.prog W = .ok (.string (sp.extract 0 (sp.size - (n + 1)))) W := kspA (n + 1) (by have := HAl.out; rw [HA.out] at this; simp [pre, escq] at this; omega)
            obtain ⟨sp1, hsp1⟩ : ∃ sp1, sp1 = sp.extract 0 (sp.size - (n + 1)) := ⟨_, rfl⟩
            rw [← hsp1] at hb1 ks1
            simp only [escq] at hbit
            rcases Bool.eq_false_or_eq_true (x == c) with hxc | hxc
            · have f1 := Lib.hid (fin.out (by intro h; cases h) hxc sp1 hb1)
              have e3 : (c == x) = true := by rw [beq_iff_eq] at hxc ⊢; exact hxc.symm
              clear hik hge hb92 kspA hb1 hsp1 hxc
              rcases Bool.eq_false_or_eq_true (c == 42) with e1 | e1
              all_goals rcases Bool.eq_false_or_eq_true (c == 63) with e2 | e2
              all_goals go_wp2_with (go_at_call_of 70 (Value.string sm); refine (HDs.out _ HT2.out).mono ?_; rintro e w2 ⟨rfl, hb1⟩; replace HB2 := Lib.hid (below_then HB2.out HB2.out.size hb1); clear hb1)
              all_goals
                go_roundg sp1.size
                case rel => exact Lib.hid (f1.out _ HB2.out).2
                case measure => exact (f1.out _ HB2.out).1
            · have f1 := Lib.hid (stopF.out (by intro h; cases h) hxc)
              have e3 : (c == x) = false := by rw [beq_eq_false_iff_ne] at hxc ⊢; exact fun h => hxc h.symm
              clear hik hge hb92 kspA hb1 hsp1 hxc
              rcases Bool.eq_false_or_eq_true (c == 42) with e1 | e1
              all_goals rcases Bool.eq_false_or_eq_true (c == 63) with e2 | e2
              all_goals go_wp2_with (go_at_call_of 70 (Value.string sm); refine (HDs.out _ HT2.out).mono ?_; rintro e w2 ⟨rfl, hb1⟩; replace HB2 := Lib.hid (below_then HB2.out HB2.out.size hb1); clear hb1)
              all_goals
                go_ret3
                exact f1.out _ HB2.out
end Go.Proofs.YtjpbjbcdobibbaaDoor.J

/- The walk of match. -/
set_option linter.unusedVariables false
set_option linter.unusedSimpArgs false
namespace Go.Proofs.YtjpbjbcdobibbaaDoor.J
open Go.RowKit Go.Proofs.YtjpbjbcdobibbaaDoorW.PrintWords Go.Proofs.YtjpbjbcdobibbaaDoorW.PrintLast Go.Proofs.YtjpbjbcdobibbaaDoorW.PrintMore Go.Proofs.YtjpbjbcdobibbaaDoor.Aid

theorem fit_star2 (cs : List Int) (ts : List T) : fit cs (.star :: .star :: ts) = fit cs (.star :: ts) := by
  rw [Bool.eq_iff_iff, fit_iff, fit_iff]
  constructor
  · intro h
    generalize hu : T.star :: T.star :: ts = u at h
    induction h with
    | nil => cases hu
    | skip h _ => simp only [List.cons.injEq, true_and] at hu; rw [hu]; exact h
    | eat _ ih => exact .eat (ih hu)
    | one _ _ => cases hu
    | ch _ _ => cases hu
  · exact .skip
theorem fit_star_nil (cs : List Int) : fit cs [.star] = true := by
  rw [fit_iff]
  have := Fit.stars cs (.nil : Fit [] [])
  rwa [List.append_nil] at this
theorem fit_nil_cons {t : T} (h : t ≠ .star) (ts : List T) : fit [] (t :: ts) = false := by
  cases t with
  | star => exact absurd rfl h
  | one => rw [fit]
  | ch e c => rw [fit]
theorem fit_cons {t : T} (h : t ≠ .star) (x : Int) (cs : List Int) (ts : List T) : fit (x :: cs) (t :: ts) = (okM x t && fit cs ts) := by
  cases t with
  | star => exact absurd rfl h
  | one => rw [fit]; rfl
  | ch e c => rw [fit]; rfl
/-- The first byte of terms that begin with no star. -/
theorem pat_first {t : T} (h : okT t) (hs : t ≠ .star) (ts : List T) : ∃ b r, pat (t :: ts) = b :: r ∧ b ≠ 42 := by
  rw [pat_cons]
  cases t with
  | star => exact absurd rfl hs
  | one => exact ⟨63, _, rfl, by decide⟩
  | ch e c =>
    cases e with
    | true => exact ⟨92, _, rfl, by decide⟩
    | false =>
      have h1 := h.2 rfl
      have h2 := chr_some (chr_utf8 h.1 [])
      rw [List.append_nil] at h2
      cases hu : utf8 c with
      | nil => rw [hu] at h2; simp at h2
      | cons b r =>
        refine ⟨b, r ++ pat ts, by show utf8 c ++ _ = _; rw [hu]; rfl, ?_⟩
        rw [hu] at h2
        simp only [List.getD_cons_zero] at h2
        omega
def MtJ (w W : World) (cs : List Int) (ts : List T) (kq : Nat) (v0 v1 : Value) : Prop :=
  ∃ (sm sp : ByteArray) (cs1 : List Int) (ts1 : List T), v0 = .string sm ∧ v1 = .string sp ∧ bytesOf sm = enc cs1 ∧ bytesOf sp = pat ts1 ∧ sp.size + sm.size = kq ∧ sm.size ≤ 100000 ∧ sp.size ≤ 100000 ∧ (∀ c ∈ cs1, okC c) ∧ (∀ t ∈ ts1, okT t) ∧ ts1.length ≤ ts.length ∧ fit cs ts = fit cs1 ts1 ∧ Below w.heap.size w W
def MtC (n : Nat) : Prop := ∀ (ts : List T), ts.length < n → ∀ (cs : List Int) (s p : ByteArray) (w : World), (∀ c ∈ cs, okC c) → (∀ t ∈ ts, okT t) → bytesOf s = enc cs → bytesOf p = pat ts → s.size ≤ 100000 → p.size ≤ 100000 → Lib.Utf8Tabs gF gA w →
  Calls Tryd.prog 56 #[.string s, .string p, .int .i64 0, .pointer none, .int .i64 (-1), .bool false] w fun e w' => e = .returned (.int .i64 (if fit cs ts = true then 1 else 0)) ∧ Below w.heap.size w w'
/-- Behind repeated stars. -/
def StI (w W : World) (cs1 : List Int) (tr : List T) (kq : Nat) (v1 : Value) : Prop :=
  ∃ (sq : ByteArray) (r : List T), v1 = .string sq ∧ bytesOf sq = 42 :: pat r ∧ sq.size = kq ∧ (42 :: pat r).length ≤ (42 :: pat tr).length ∧ (∃ y, tr = y ++ r) ∧ fit cs1 (.star :: tr) = fit cs1 (.star :: r) ∧ Below w.heap.size w W
theorem tt_pos (t : T) : 1 ≤ (tt t).length := by
  cases t with
  | star => exact Nat.le_refl _
  | one => exact Nat.le_refl _
  | ch e c =>
    have := (utf8_pos c).1
    cases e <;> simp only [tt, List.length_cons] <;> omega
def res (b : Bool) : Int := if b = true then 1 else 0
set_option maxHeartbeats 8000000 in
set_option maxRecDepth 100000 in
theorem match_step (ts : List T) (IH : MtC ts.length) (cs : List Int) (s p : ByteArray) (w : World) (hcs : ∀ c ∈ cs, okC c) (hts : ∀ t ∈ ts, okT t) (hs : bytesOf s = enc cs) (hp : bytesOf p = pat ts) (hsz : s.size ≤ 100000) (hpz : p.size ≤ 100000) (hT : Lib.Utf8Tabs gF gA w) :
    Calls Tryd.prog 56 #[.string s, .string p, .int .i64 0, .pointer none, .int .i64 (-1), .bool false] w fun e w' => e = .returned (.int .i64 (res (fit cs ts))) ∧ Below w.heap.size w w' := by
  have HT := Lib.hid hT
  have HI := Lib.hid IH
  have H0 := Lib.hid (show MtJ w w cs ts (p.size + s.size) (.string s) (.string p) from ⟨s, p, cs, ts, rfl, rfl, hs, hp, rfl, hsz, hpz, hcs, hts, Nat.le_refl _, rfl, Below.refl _ _⟩)
  clear hT hs hp hcs hts IH
  go_enter Tryd.func56, Tryd.ntmps56
  go_wp2
  go_loopg [0, 1] (p.size + s.size) (fun kq v0 v1 w' => Hid (MtJ w w' cs ts kq v0 v1))
  case atStart => exact H0
  case round =>
    obtain ⟨sm, sp, cs1, ts1, rfl, rfl, hsm, hsp, rfl, hsmz, hspz, okc, okt, hlen, hfit, hB⟩ := hrel.out
    clear hrel H0
    have hsml := bytesOf_length sm
    have hspl := bytesOf_length sp
    have HB := Lib.hid hB
    have HTr := Lib.hid (tabs_below HT.out hB)
    clear hB
    cases ts1 with
    | nil =>
      have z0 : sp.size = 0 := by rw [← hspl, hsp]; rfl
      have hd0 : decide (0 < sp.size) = false := decide_eq_false (by omega)
      have hn0 : ¬ 0 < sp.size := by omega
      have e : Hid (res (fit cs ts) = if sm.size = 0 then 1 else 0) := Lib.hid (by
        rw [hfit]
        cases cs1 with
        | nil => rw [← hsml, hsm]; rw [fit]; rfl
        | cons x cr =>
          have := (utf8_pos x).1
          rw [← hsml, hsm, enc_cons, List.length_append, if_neg (by omega)]; rw [fit]; rfl)
      by_cases hm0 : sm.size = 0
      · rw [if_pos hm0] at e
        have hd1 : ((sm.size : Int) == 0) = true := beq_iff_eq.mpr (by omega)
        have hd2 : (sm.size == 0) = true := beq_iff_eq.mpr hm0
        clear hsp hsm okc okt hlen hfit hsml hspl z0 hm0
        go_wp2
        go_ret
        exact ⟨by rw [e.out]; rfl, HB.out⟩
      · rw [if_neg hm0] at e
        have hd1 : ((sm.size : Int) == 0) = false := beq_eq_false_iff_ne.mpr (by omega)
        have hd2 : (sm.size == 0) = false := beq_eq_false_iff_ne.mpr hm0
        clear hsp hsm okc okt hlen hfit hsml hspl z0 hm0
        go_wp2
        go_ret
        exact ⟨by rw [e.out]; rfl, HB.out⟩
    | cons t tr =>
      have okt0 := okt t List.mem_cons_self
      have hlt : 0 < sp.size := by have := tt_pos t; rw [← hspl, hsp, pat_cons, List.length_append]; omega
      have hd0 : decide (0 < sp.size) = true := decide_eq_true hlt
      have HTT := Lib.hid okt0
      have stopE : Hid (t ≠ .star → cs1 = [] → res (fit cs ts) = 0) := Lib.hid (fun ht hc => by rw [hfit, hc, fit_nil_cons ht]; rfl)
      cases t with
      | one =>
        have hx : ((sp[0]'hlt).toNat : Int) = 63 := by rw [from_at0 sp 0 hlt]; unfold from_; rw [List.drop_zero, hsp]; rfl
        have ks1 : ∀ W : World, (Instr.slice 9 (.string sp) (some (.int .i64 1)) none none).run Tryd.prog W = .ok (.string (sp.extract 1 sp.size)) W := slice_fromI sp 1 (by omega)
        have hq : bytesOf (sp.extract 1 sp.size) = pat tr := by rw [bytes_from, hsp]; rfl
        obtain ⟨sp2, hsp2⟩ : ∃ sp2, sp2 = sp.extract 1 sp.size := ⟨_, rfl⟩
        rw [← hsp2] at ks1 hq
        cases cs1 with
        | nil =>
          have z0 : sm.size = 0 := by rw [← hsml, hsm]; rfl
          have hd1 : decide (0 < sm.size) = false := decide_eq_false (by omega)
          have hn1' : ¬ 0 < sm.size := by omega
          have st := Lib.hid (stopE.out (by intro h; cases h) rfl)
          clear hsm hsp okc okt hlen hfit hsml hspl stopE HTT hsp2 hq z0
          go_wp2
          go_ret
          exact ⟨by rw [st.out]; rfl, HB.out⟩
        | cons x cr =>
          have okx := okc x List.mem_cons_self
          have hltm : 0 < sm.size := by have := (utf8_pos x).1; rw [← hsml, hsm, enc_cons, List.length_append]; omega
          have hd1 : decide (0 < sm.size) = true := decide_eq_true hltm
          have hsmw : bytesOf sm = utf8 x ++ enc cr := hsm
          have fin : Hid (okM x .one = true → ∀ sm2 : ByteArray, bytesOf sm2 = enc cr → ∀ W, Below w.heap.size w W → sp2.size + sm2.size < sp.size + sm.size ∧ MtJ w W cs ts (sp2.size + sm2.size) (.string sm2) (.string sp2)) := Lib.hid (fun hok sm2 hs2 W hb => by
            have l1 := bytesOf_length sp2
            have l2 := bytesOf_length sm2
            have l3 := (utf8_pos x).1
            rw [hq] at l1
            rw [hs2] at l2
            have l4 : (pat tr).length < sp.size := by rw [← hspl, hsp, pat_cons, List.length_append]; have := tt_pos .one; omega
            have l5 : (enc cr).length < sm.size := by rw [← hsml, hsmw, List.length_append]; omega
            refine ⟨by omega, sm2, sp2, cr, tr, rfl, rfl, hs2, hq, rfl, by omega, by omega, fun c hc => okc c (List.mem_cons_of_mem _ hc), fun t ht => okt t (List.mem_cons_of_mem _ ht), by simp at hlen; omega, ?_, hb⟩
            rw [hfit, fit_cons (by intro h; cases h), hok, Bool.true_and])
          have stop0 : Hid (okM x .one = false → res (fit cs ts) = 0) := Lib.hid (fun hok => by rw [hfit, fit_cons (by intro h; cases h), hok, Bool.false_and]; rfl)
          by_cases hxa : x < 128
          · have hux : utf8 x = [x] := by unfold utf8; rw [if_pos hxa]
            have hy : ((sm[0]'hltm).toNat : Int) = x := by rw [from_at0 sm 0 hltm]; unfold from_; rw [List.drop_zero, hsmw, hux]; rfl
            have x0 : 0 ≤ x := okx.1
            have dx : decide (x > 127) = false := decide_eq_false (by omega)
            obtain ⟨sm2, hsm2⟩ : ∃ sm2, sm2 = sm.extract 1 sm.size := ⟨_, rfl⟩
            have bsm : bytesOf sm2 = enc cr := by rw [hsm2, bytes_from, hsmw, hux]; rfl
            have f1 := Lib.hid (fin.out rfl)
            have ksm : ∀ W : World, (Instr.slice 9 (.string sm) (some (.int .i64 1)) none none).run Tryd.prog W = .ok (.string sm2) W := by rw [hsm2]; exact slice_fromI sm 1 (by omega)
            clear hux
            clear hsm hsp okc okt hlen hfit hsml hspl fin stop0 stopE HTT hsp2 hq okx hsmw hsm2
            go_wp2
            go_roundg (sp2.size + sm2.size)
            case rel => exact Lib.hid (f1.out sm2 bsm _ HB.out).2
            case measure => exact (f1.out sm2 bsm _ HB.out).1
          · obtain ⟨k, hk⟩ : ∃ k, k = (utf8 x).length := ⟨_, rfl⟩
            have hchx := chr_utf8 okx (enc cr)
            rw [← hsmw, ← hk] at hchx
            have hxs := chr_some hchx
            have hy0 : (bytesOf sm).getD 0 0 = ((sm[0]'hltm).toNat : Int) := by rw [from_at0 sm 0 hltm]; rfl
            rw [hy0] at hxs
            have hyb : ((sm[0]'hltm).toNat : Int) ≤ 255 := by have := (sm[0]'hltm).toNat_lt; omega
            have dy : decide (((sm[0]'hltm).toNat : Int) > 127) = true := decide_eq_true (by omega)
            have HDm : Hid (∀ W, Lib.Utf8Tabs gF gA W → Calls Tryd.prog 57 #[.string sm] W fun e w' => e = .returned (.tuple #[.int .i32 x, .int .i64 (k : Nat)]) ∧ Below W.heap.size W w') := Lib.hid (fun W h => Decode_any sm W hchx h)
            obtain ⟨sm2, hsm2⟩ : ∃ sm2, sm2 = sm.extract k sm.size := ⟨_, rfl⟩
            have bsm : bytesOf sm2 = enc cr := by rw [hsm2, bytes_from, hsmw, hk, List.drop_left' rfl]
            have hk0 : ((k : Int) == 0) = false := beq_eq_false_iff_ne.mpr (by omega)
            have f1 := Lib.hid (fin.out rfl)
            have ksm : ∀ W : World, (Instr.slice 9 (.string sm) (some (.int .i64 (k : Int))) none none).run Tryd.prog W = .ok (.string sm2) W := by rw [hsm2]; exact slice_fromI sm k (by omega)
            clear hk hchx hxs hy0
            clear hsm hsp okc okt hlen hfit hsml hspl fin stop0 stopE HTT hsp2 hq okx hsmw hsm2
            go_wp2_with (first | (go_at_call_of 57 (Value.string sm); refine (HDm.out _ HTr.out).mono ?_; rintro e w2 ⟨rfl, hb1⟩; replace HTr := Lib.hid (tabs_below HTr.out hb1); replace HB := Lib.hid (below_then HB.out HB.out.size hb1); clear hb1))
            go_roundg (sp2.size + sm2.size)
            case rel => exact Lib.hid (f1.out sm2 bsm _ HB.out).2
            case measure => exact (f1.out sm2 bsm _ HB.out).1
      | ch e c =>
        cases e with
        | true =>
          have hx : ((sp[0]'hlt).toNat : Int) = 92 := by rw [from_at0 sp 0 hlt]; unfold from_; rw [List.drop_zero, hsp]; rfl
          obtain ⟨sp1, hsp1⟩ : ∃ sp1, sp1 = sp.extract 1 sp.size := ⟨_, rfl⟩
          have ks0 : ∀ W : World, (Instr.slice 9 (.string sp) (some (.int .i64 1)) none none).run Tryd.prog W = .ok (.string sp1) W := by rw [hsp1]; exact slice_fromI sp 1 (by omega)
          have hb1 : bytesOf sp1 = utf8 c ++ pat tr := by rw [hsp1, bytes_from, hsp]; rfl
          have hz1 : (utf8 c).length ≤ sp1.size := by rw [← bytesOf_length, hb1, List.length_append]; omega
          obtain ⟨n, hn⟩ : ∃ n, n = (utf8 c).length := ⟨_, rfl⟩
          have hn1 := (utf8_pos c).1
          rw [← hn] at hn1 hz1
          have HDq : Hid (∀ W, Lib.Utf8Tabs gF gA W → Calls Tryd.prog 57 #[.string sp1] W fun e w' => e = .returned (.tuple #[.int .i32 c, .int .i64 (n : Nat)]) ∧ Below W.heap.size W w') := Lib.hid (fun W h => Decode_any sp1 W (by rw [hb1, hn]; exact chr_utf8 okt0.1 _) h)
          have ks1 : ∀ W : World, (Instr.slice 9 (.string sp1) (some (.int .i64 (n : Int))) none none).run Tryd.prog W = .ok (.string (sp1.extract n sp1.size)) W := slice_fromI sp1 n hz1
          have hq : bytesOf (sp1.extract n sp1.size) = pat tr := by rw [bytes_from, hb1, hn, List.drop_left' rfl]
          have hn0 : ((n : Int) == 0) = false := beq_eq_false_iff_ne.mpr (by omega)
          obtain ⟨sp2, hsp2⟩ : ∃ sp2, sp2 = sp1.extract n sp1.size := ⟨_, rfl⟩
          rw [← hsp2] at ks1 hq
          clear hsp1 hb1 hn
          cases cs1 with
          | nil =>
            have z0 : sm.size = 0 := by rw [← hsml, hsm]; rfl
            have hd1 : decide (0 < sm.size) = false := decide_eq_false (by omega)
            have hn1' : ¬ 0 < sm.size := by omega
            have st := Lib.hid (stopE.out (by intro h; cases h) rfl)
            clear hsm hsp okc okt hlen hfit hsml hspl stopE HTT hsp2 hq z0
            go_wp2
            go_ret
            exact ⟨by rw [st.out]; rfl, HB.out⟩
          | cons x cr =>
            have okx := okc x List.mem_cons_self
            have hltm : 0 < sm.size := by have := (utf8_pos x).1; rw [← hsml, hsm, enc_cons, List.length_append]; omega
            have hd1 : decide (0 < sm.size) = true := decide_eq_true hltm
            have hsmw : bytesOf sm = utf8 x ++ enc cr := hsm
            have fin : Hid (okM x (.ch true c) = true → ∀ sm2 : ByteArray, bytesOf sm2 = enc cr → ∀ W, Below w.heap.size w W → sp2.size + sm2.size < sp.size + sm.size ∧ MtJ w W cs ts (sp2.size + sm2.size) (.string sm2) (.string sp2)) := Lib.hid (fun hok sm2 hs2 W hb => by
              have l1 := bytesOf_length sp2
              have l2 := bytesOf_length sm2
              have l3 := (utf8_pos x).1
              rw [hq] at l1
              rw [hs2] at l2
              have l4 : (pat tr).length < sp.size := by rw [← hspl, hsp, pat_cons, List.length_append]; have := tt_pos (.ch true c); omega
              have l5 : (enc cr).length < sm.size := by rw [← hsml, hsmw, List.length_append]; omega
              refine ⟨by omega, sm2, sp2, cr, tr, rfl, rfl, hs2, hq, rfl, by omega, by omega, fun c hc => okc c (List.mem_cons_of_mem _ hc), fun t ht => okt t (List.mem_cons_of_mem _ ht), by simp at hlen; omega, ?_, hb⟩
              rw [hfit, fit_cons (by intro h; cases h), hok, Bool.true_and])
            have stop0 : Hid (okM x (.ch true c) = false → res (fit cs ts) = 0) := Lib.hid (fun hok => by rw [hfit, fit_cons (by intro h; cases h), hok, Bool.false_and]; rfl)
            by_cases hxa : x < 128
            · have hux : utf8 x = [x] := by unfold utf8; rw [if_pos hxa]
              have hy : ((sm[0]'hltm).toNat : Int) = x := by rw [from_at0 sm 0 hltm]; unfold from_; rw [List.drop_zero, hsmw, hux]; rfl
              have x0 : 0 ≤ x := okx.1
              have dx : decide (x > 127) = false := decide_eq_false (by omega)
              obtain ⟨sm2, hsm2⟩ : ∃ sm2, sm2 = sm.extract 1 sm.size := ⟨_, rfl⟩
              have bsm : bytesOf sm2 = enc cr := by rw [hsm2, bytes_from, hsmw, hux]; rfl
              have ksm : ∀ W : World, (Instr.slice 9 (.string sm) (some (.int .i64 1)) none none).run Tryd.prog W = .ok (.string sm2) W := by rw [hsm2]; exact slice_fromI sm 1 (by omega)
              clear hux
              rcases Bool.eq_false_or_eq_true (x == c) with hxc | hxc
              · have f1 := Lib.hid (fin.out hxc)
                have e3 : (x != c) = false := by rw [bne_eq_false_iff_eq]; exact beq_iff_eq.1 hxc
                clear hsm hsp okc okt hlen hfit hsml hspl fin stop0 stopE HTT hsp2 hq okx hsmw hsm2 hxc
                go_wp2_with (first | (go_at_call_of 57 (Value.string sp1); refine (HDq.out _ HTr.out).mono ?_; rintro e w3 ⟨rfl, hb1⟩; replace HTr := Lib.hid (tabs_below HTr.out hb1); replace HB := Lib.hid (below_then HB.out HB.out.size hb1); clear hb1))
                go_roundg (sp2.size + sm2.size)
                case rel => exact Lib.hid (f1.out sm2 bsm _ HB.out).2
                case measure => exact (f1.out sm2 bsm _ HB.out).1
              · have st := Lib.hid (stop0.out hxc)
                have e3 : (x != c) = true := by rw [bne_iff_ne]; exact beq_eq_false_iff_ne.1 hxc
                clear hsm hsp okc okt hlen hfit hsml hspl fin stop0 stopE HTT hsp2 hq okx hsmw hsm2 hxc
                go_wp2_with (first | (go_at_call_of 57 (Value.string sp1); refine (HDq.out _ HTr.out).mono ?_; rintro e w3 ⟨rfl, hb1⟩; replace HTr := Lib.hid (tabs_below HTr.out hb1); replace HB := Lib.hid (below_then HB.out HB.out.size hb1); clear hb1))
                go_ret
                exact ⟨by rw [st.out]; rfl, HB.out⟩
            · obtain ⟨k, hk⟩ : ∃ k, k = (utf8 x).length := ⟨_, rfl⟩
              have hchx := chr_utf8 okx (enc cr)
              rw [← hsmw, ← hk] at hchx
              have hxs := chr_some hchx
              have hy0 : (bytesOf sm).getD 0 0 = ((sm[0]'hltm).toNat : Int) := by rw [from_at0 sm 0 hltm]; rfl
              rw [hy0] at hxs
              have hyb : ((sm[0]'hltm).toNat : Int) ≤ 255 := by have := (sm[0]'hltm).toNat_lt; omega
              have dy : decide (((sm[0]'hltm).toNat : Int) > 127) = true := decide_eq_true (by omega)
              have HDm : Hid (∀ W, Lib.Utf8Tabs gF gA W → Calls Tryd.prog 57 #[.string sm] W fun e w' => e = .returned (.tuple #[.int .i32 x, .int .i64 (k : Nat)]) ∧ Below W.heap.size W w') := Lib.hid (fun W h => Decode_any sm W hchx h)
              obtain ⟨sm2, hsm2⟩ : ∃ sm2, sm2 = sm.extract k sm.size := ⟨_, rfl⟩
              have bsm : bytesOf sm2 = enc cr := by rw [hsm2, bytes_from, hsmw, hk, List.drop_left' rfl]
              have hk0 : ((k : Int) == 0) = false := beq_eq_false_iff_ne.mpr (by omega)
              have ksm : ∀ W : World, (Instr.slice 9 (.string sm) (some (.int .i64 (k : Int))) none none).run Tryd.prog W = .ok (.string sm2) W := by rw [hsm2]; exact slice_fromI sm k (by omega)
              clear hk hchx hxs hy0
              rcases Bool.eq_false_or_eq_true (x == c) with hxc | hxc
              · have f1 := Lib.hid (fin.out hxc)
                have e3 : (x != c) = false := by rw [bne_eq_false_iff_eq]; exact beq_iff_eq.1 hxc
                clear hsm hsp okc okt hlen hfit hsml hspl fin stop0 stopE HTT hsp2 hq okx hsmw hsm2 hxc
                go_wp2_with (first | (go_at_call_of 57 (Value.string sp1); refine (HDq.out _ HTr.out).mono ?_; rintro e w3 ⟨rfl, hb1⟩; replace HTr := Lib.hid (tabs_below HTr.out hb1); replace HB := Lib.hid (below_then HB.out HB.out.size hb1); clear hb1) | (go_at_call_of 57 (Value.string sm); refine (HDm.out _ HTr.out).mono ?_; rintro e w2 ⟨rfl, hb1⟩; replace HTr := Lib.hid (tabs_below HTr.out hb1); replace HB := Lib.hid (below_then HB.out HB.out.size hb1); clear hb1))
                go_roundg (sp2.size + sm2.size)
                case rel => exact Lib.hid (f1.out sm2 bsm _ HB.out).2
                case measure => exact (f1.out sm2 bsm _ HB.out).1
              · have st := Lib.hid (stop0.out hxc)
                have e3 : (x != c) = true := by rw [bne_iff_ne]; exact beq_eq_false_iff_ne.1 hxc
                clear hsm hsp okc okt hlen hfit hsml hspl fin stop0 stopE HTT hsp2 hq okx hsmw hsm2 hxc
                go_wp2_with (first | (go_at_call_of 57 (Value.string sp1); refine (HDq.out _ HTr.out).mono ?_; rintro e w3 ⟨rfl, hb1⟩; replace HTr := Lib.hid (tabs_below HTr.out hb1); replace HB := Lib.hid (below_then HB.out HB.out.size hb1); clear hb1) | (go_at_call_of 57 (Value.string sm); refine (HDm.out _ HTr.out).mono ?_; rintro e w2 ⟨rfl, hb1⟩; replace HTr := Lib.hid (tabs_below HTr.out hb1); replace HB := Lib.hid (below_then HB.out HB.out.size hb1); clear hb1))
                go_ret
                exact ⟨by rw [st.out]; rfl, HB.out⟩
        | false =>
          by_cases ha : c < 128
          · skip
            have hu : utf8 c = [c] := by unfold utf8; rw [if_pos ha]
            have hx : ((sp[0]'hlt).toNat : Int) = c := by rw [from_at0 sp 0 hlt]; unfold from_; rw [List.drop_zero, hsp]; show (utf8 c ++ pat tr).getD 0 0 = c; rw [hu]; rfl
            have ks1 : ∀ W : World, (Instr.slice 9 (.string sp) (some (.int .i64 1)) none none).run Tryd.prog W = .ok (.string (sp.extract 1 sp.size)) W := slice_fromI sp 1 (by omega)
            have hq : bytesOf (sp.extract 1 sp.size) = pat tr := by rw [bytes_from, hsp]; show (utf8 c ++ pat tr).drop 1 = _; rw [hu]; rfl
            obtain ⟨sp2, hsp2⟩ : ∃ sp2, sp2 = sp.extract 1 sp.size := ⟨_, rfl⟩
            rw [← hsp2] at ks1 hq
            have c0 : 0 ≤ c := okt0.1.1
            have d127 : decide (c > 127) = false := decide_eq_false (by omega)
            clear hu
            have hsp' := okt0.2 rfl
            have e42 : (c == 42) = false := beq_eq_false_iff_ne.mpr hsp'.1
            have e63 : (c == 63) = false := beq_eq_false_iff_ne.mpr hsp'.2.1
            have e92 : (c == 92) = false := beq_eq_false_iff_ne.mpr hsp'.2.2
            clear hsp'
            cases cs1 with
            | nil =>
              have z0 : sm.size = 0 := by rw [← hsml, hsm]; rfl
              have hd1 : decide (0 < sm.size) = false := decide_eq_false (by omega)
              have hn1' : ¬ 0 < sm.size := by omega
              have st := Lib.hid (stopE.out (by intro h; cases h) rfl)
              clear hsm hsp okc okt hlen hfit hsml hspl stopE HTT hsp2 hq z0
              go_wp2
              go_ret
              exact ⟨by rw [st.out]; rfl, HB.out⟩
            | cons x cr =>
              have okx := okc x List.mem_cons_self
              have hltm : 0 < sm.size := by have := (utf8_pos x).1; rw [← hsml, hsm, enc_cons, List.length_append]; omega
              have hd1 : decide (0 < sm.size) = true := decide_eq_true hltm
              have hsmw : bytesOf sm = utf8 x ++ enc cr := hsm
              have fin : Hid (okM x (.ch false c) = true → ∀ sm2 : ByteArray, bytesOf sm2 = enc cr → ∀ W, Below w.heap.size w W → sp2.size + sm2.size < sp.size + sm.size ∧ MtJ w W cs ts (sp2.size + sm2.size) (.string sm2) (.string sp2)) := Lib.hid (fun hok sm2 hs2 W hb => by
                have l1 := bytesOf_length sp2
                have l2 := bytesOf_length sm2
                have l3 := (utf8_pos x).1
                rw [hq] at l1
                rw [hs2] at l2
                have l4 : (pat tr).length < sp.size := by rw [← hspl, hsp, pat_cons, List.length_append]; have := tt_pos (.ch false c); omega
                have l5 : (enc cr).length < sm.size := by rw [← hsml, hsmw, List.length_append]; omega
                refine ⟨by omega, sm2, sp2, cr, tr, rfl, rfl, hs2, hq, rfl, by omega, by omega, fun c hc => okc c (List.mem_cons_of_mem _ hc), fun t ht => okt t (List.mem_cons_of_mem _ ht), by simp at hlen; omega, ?_, hb⟩
                rw [hfit, fit_cons (by intro h; cases h), hok, Bool.true_and])
              have stop0 : Hid (okM x (.ch false c) = false → res (fit cs ts) = 0) := Lib.hid (fun hok => by rw [hfit, fit_cons (by intro h; cases h), hok, Bool.false_and]; rfl)
              by_cases hxa : x < 128
              · have hux : utf8 x = [x] := by unfold utf8; rw [if_pos hxa]
                have hy : ((sm[0]'hltm).toNat : Int) = x := by rw [from_at0 sm 0 hltm]; unfold from_; rw [List.drop_zero, hsmw, hux]; rfl
                have x0 : 0 ≤ x := okx.1
                have dx : decide (x > 127) = false := decide_eq_false (by omega)
                obtain ⟨sm2, hsm2⟩ : ∃ sm2, sm2 = sm.extract 1 sm.size := ⟨_, rfl⟩
                have bsm : bytesOf sm2 = enc cr := by rw [hsm2, bytes_from, hsmw, hux]; rfl
                have ksm : ∀ W : World, (Instr.slice 9 (.string sm) (some (.int .i64 1)) none none).run Tryd.prog W = .ok (.string sm2) W := by rw [hsm2]; exact slice_fromI sm 1 (by omega)
                clear hux
                rcases Bool.eq_false_or_eq_true (x == c) with hxc | hxc
                · have f1 := Lib.hid (fin.out hxc)
                  have e3 : (x != c) = false := by rw [bne_eq_false_iff_eq]; exact beq_iff_eq.1 hxc
                  clear hsm hsp okc okt hlen hfit hsml hspl fin stop0 stopE HTT hsp2 hq okx hsmw hsm2 hxc
                  go_wp2
                  go_roundg (sp2.size + sm2.size)
                  case rel => exact Lib.hid (f1.out sm2 bsm _ HB.out).2
                  case measure => exact (f1.out sm2 bsm _ HB.out).1
                · have st := Lib.hid (stop0.out hxc)
                  have e3 : (x != c) = true := by rw [bne_iff_ne]; exact beq_eq_false_iff_ne.1 hxc
                  clear hsm hsp okc okt hlen hfit hsml hspl fin stop0 stopE HTT hsp2 hq okx hsmw hsm2 hxc
                  go_wp2
                  go_ret
                  exact ⟨by rw [st.out]; rfl, HB.out⟩
              · obtain ⟨k, hk⟩ : ∃ k, k = (utf8 x).length := ⟨_, rfl⟩
                have hchx := chr_utf8 okx (enc cr)
                rw [← hsmw, ← hk] at hchx
                have hxs := chr_some hchx
                have hy0 : (bytesOf sm).getD 0 0 = ((sm[0]'hltm).toNat : Int) := by rw [from_at0 sm 0 hltm]; rfl
                rw [hy0] at hxs
                have hyb : ((sm[0]'hltm).toNat : Int) ≤ 255 := by have := (sm[0]'hltm).toNat_lt; omega
                have dy : decide (((sm[0]'hltm).toNat : Int) > 127) = true := decide_eq_true (by omega)
                have HDm : Hid (∀ W, Lib.Utf8Tabs gF gA W → Calls Tryd.prog 57 #[.string sm] W fun e w' => e = .returned (.tuple #[.int .i32 x, .int .i64 (k : Nat)]) ∧ Below W.heap.size W w') := Lib.hid (fun W h => Decode_any sm W hchx h)
                obtain ⟨sm2, hsm2⟩ : ∃ sm2, sm2 = sm.extract k sm.size := ⟨_, rfl⟩
                have bsm : bytesOf sm2 = enc cr := by rw [hsm2, bytes_from, hsmw, hk, List.drop_left' rfl]
                have hk0 : ((k : Int) == 0) = false := beq_eq_false_iff_ne.mpr (by omega)
                have ksm : ∀ W : World, (Instr.slice 9 (.string sm) (some (.int .i64 (k : Int))) none none).run Tryd.prog W = .ok (.string sm2) W := by rw [hsm2]; exact slice_fromI sm k (by omega)
                clear hk hchx hxs hy0
                rcases Bool.eq_false_or_eq_true (x == c) with hxc | hxc
                · have f1 := Lib.hid (fin.out hxc)
                  have e3 : (x != c) = false := by rw [bne_eq_false_iff_eq]; exact beq_iff_eq.1 hxc
                  clear hsm hsp okc okt hlen hfit hsml hspl fin stop0 stopE HTT hsp2 hq okx hsmw hsm2 hxc
                  go_wp2_with (first | (go_at_call_of 57 (Value.string sm); refine (HDm.out _ HTr.out).mono ?_; rintro e w2 ⟨rfl, hb1⟩; replace HTr := Lib.hid (tabs_below HTr.out hb1); replace HB := Lib.hid (below_then HB.out HB.out.size hb1); clear hb1))
                  go_roundg (sp2.size + sm2.size)
                  case rel => exact Lib.hid (f1.out sm2 bsm _ HB.out).2
                  case measure => exact (f1.out sm2 bsm _ HB.out).1
                · have st := Lib.hid (stop0.out hxc)
                  have e3 : (x != c) = true := by rw [bne_iff_ne]; exact beq_eq_false_iff_ne.1 hxc
                  clear hsm hsp okc okt hlen hfit hsml hspl fin stop0 stopE HTT hsp2 hq okx hsmw hsm2 hxc
                  go_wp2_with (first | (go_at_call_of 57 (Value.string sm); refine (HDm.out _ HTr.out).mono ?_; rintro e w2 ⟨rfl, hb1⟩; replace HTr := Lib.hid (tabs_below HTr.out hb1); replace HB := Lib.hid (below_then HB.out HB.out.size hb1); clear hb1))
                  go_ret
                  exact ⟨by rw [st.out]; rfl, HB.out⟩
          · skip
            obtain ⟨n, hn⟩ : ∃ n, n = (utf8 c).length := ⟨_, rfl⟩
            have hspw : bytesOf sp = utf8 c ++ pat tr := hsp
            have hchr := chr_utf8 okt0.1 (pat tr)
            rw [← hspw, ← hn] at hchr
            have hcs := chr_some hchr
            have hx0 : (bytesOf sp).getD 0 0 = ((sp[0]'hlt).toNat : Int) := by rw [from_at0 sp 0 hlt]; rfl
            rw [hx0] at hcs
            have hub : ((sp[0]'hlt).toNat : Int) ≤ 255 := by have := (sp[0]'hlt).toNat_lt; omega
            have d127 : decide (((sp[0]'hlt).toNat : Int) > 127) = true := decide_eq_true (by omega)
            have HDp : Hid (∀ W, Lib.Utf8Tabs gF gA W → Calls Tryd.prog 57 #[.string sp] W fun e w' => e = .returned (.tuple #[.int .i32 c, .int .i64 (n : Nat)]) ∧ Below W.heap.size W w') := Lib.hid (fun W h => Decode_any sp W hchr h)
            have ks1 : ∀ W : World, (Instr.slice 9 (.string sp) (some (.int .i64 (n : Int))) none none).run Tryd.prog W = .ok (.string (sp.extract n sp.size)) W := slice_fromI sp n (by omega)
            have hq : bytesOf (sp.extract n sp.size) = pat tr := by rw [bytes_from, hspw, hn, List.drop_left' rfl]
            obtain ⟨sp2, hsp2⟩ : ∃ sp2, sp2 = sp.extract n sp.size := ⟨_, rfl⟩
            rw [← hsp2] at ks1 hq
            clear hn hchr hcs hx0 hspw
            have hsp' := okt0.2 rfl
            have e42 : (c == 42) = false := beq_eq_false_iff_ne.mpr hsp'.1
            have e63 : (c == 63) = false := beq_eq_false_iff_ne.mpr hsp'.2.1
            have e92 : (c == 92) = false := beq_eq_false_iff_ne.mpr hsp'.2.2
            clear hsp'
            cases cs1 with
            | nil =>
              have z0 : sm.size = 0 := by rw [← hsml, hsm]; rfl
              have hd1 : decide (0 < sm.size) = false := decide_eq_false (by omega)
              have hn1' : ¬ 0 < sm.size := by omega
              have st := Lib.hid (stopE.out (by intro h; cases h) rfl)
              clear hsm hsp okc okt hlen hfit hsml hspl stopE HTT hsp2 hq z0
              go_wp2_with (first | (go_at_call_of 57 (Value.string sp); refine (HDp.out _ HTr.out).mono ?_; rintro e w1 ⟨rfl, hb1⟩; replace HTr := Lib.hid (tabs_below HTr.out hb1); replace HB := Lib.hid (below_then HB.out HB.out.size hb1); clear hb1))
              go_ret
              exact ⟨by rw [st.out]; rfl, HB.out⟩
            | cons x cr =>
              have okx := okc x List.mem_cons_self
              have hltm : 0 < sm.size := by have := (utf8_pos x).1; rw [← hsml, hsm, enc_cons, List.length_append]; omega
              have hd1 : decide (0 < sm.size) = true := decide_eq_true hltm
              have hsmw : bytesOf sm = utf8 x ++ enc cr := hsm
              have fin : Hid (okM x (.ch false c) = true → ∀ sm2 : ByteArray, bytesOf sm2 = enc cr → ∀ W, Below w.heap.size w W → sp2.size + sm2.size < sp.size + sm.size ∧ MtJ w W cs ts (sp2.size + sm2.size) (.string sm2) (.string sp2)) := Lib.hid (fun hok sm2 hs2 W hb => by
                have l1 := bytesOf_length sp2
                have l2 := bytesOf_length sm2
                have l3 := (utf8_pos x).1
                rw [hq] at l1
                rw [hs2] at l2
                have l4 : (pat tr).length < sp.size := by rw [← hspl, hsp, pat_cons, List.length_append]; have := tt_pos (.ch false c); omega
                have l5 : (enc cr).length < sm.size := by rw [← hsml, hsmw, List.length_append]; omega
                refine ⟨by omega, sm2, sp2, cr, tr, rfl, rfl, hs2, hq, rfl, by omega, by omega, fun c hc => okc c (List.mem_cons_of_mem _ hc), fun t ht => okt t (List.mem_cons_of_mem _ ht), by simp at hlen; omega, ?_, hb⟩
                rw [hfit, fit_cons (by intro h; cases h), hok, Bool.true_and])
              have stop0 : Hid (okM x (.ch false c) = false → res (fit cs ts) = 0) := Lib.hid (fun hok => by rw [hfit, fit_cons (by intro h; cases h), hok, Bool.false_and]; rfl)
              by_cases hxa : x < 128
              · have hux : utf8 x = [x] := by unfold utf8; rw [if_pos hxa]
                have hy : ((sm[0]'hltm).toNat : Int) = x := by rw [from_at0 sm 0 hltm]; unfold from_; rw [List.drop_zero, hsmw, hux]; rfl
                have x0 : 0 ≤ x := okx.1
                have dx : decide (x > 127) = false := decide_eq_false (by omega)
                obtain ⟨sm2, hsm2⟩ : ∃ sm2, sm2 = sm.extract 1 sm.size := ⟨_, rfl⟩
                have bsm : bytesOf sm2 = enc cr := by rw [hsm2, bytes_from, hsmw, hux]; rfl
                have ksm : ∀ W : World, (Instr.slice 9 (.string sm) (some (.int .i64 1)) none none).run Tryd.prog W = .ok (.string sm2) W := by rw [hsm2]; exact slice_fromI sm 1 (by omega)
                clear hux
                rcases Bool.eq_false_or_eq_true (x == c) with hxc | hxc
                · have f1 := Lib.hid (fin.out hxc)
                  have e3 : (x != c) = false := by rw [bne_eq_false_iff_eq]; exact beq_iff_eq.1 hxc
                  clear hsm hsp okc okt hlen hfit hsml hspl fin stop0 stopE HTT hsp2 hq okx hsmw hsm2 hxc
                  go_wp2_with (first | (go_at_call_of 57 (Value.string sp); refine (HDp.out _ HTr.out).mono ?_; rintro e w1 ⟨rfl, hb1⟩; replace HTr := Lib.hid (tabs_below HTr.out hb1); replace HB := Lib.hid (below_then HB.out HB.out.size hb1); clear hb1))
                  go_roundg (sp2.size + sm2.size)
                  case rel => exact Lib.hid (f1.out sm2 bsm _ HB.out).2
                  case measure => exact (f1.out sm2 bsm _ HB.out).1
                · have st := Lib.hid (stop0.out hxc)
                  have e3 : (x != c) = true := by rw [bne_iff_ne]; exact beq_eq_false_iff_ne.1 hxc
                  clear hsm hsp okc okt hlen hfit hsml hspl fin stop0 stopE HTT hsp2 hq okx hsmw hsm2 hxc
                  go_wp2_with (first | (go_at_call_of 57 (Value.string sp); refine (HDp.out _ HTr.out).mono ?_; rintro e w1 ⟨rfl, hb1⟩; replace HTr := Lib.hid (tabs_below HTr.out hb1); replace HB := Lib.hid (below_then HB.out HB.out.size hb1); clear hb1))
                  go_ret
                  exact ⟨by rw [st.out]; rfl, HB.out⟩
              · obtain ⟨k, hk⟩ : ∃ k, k = (utf8 x).length := ⟨_, rfl⟩
                have hchx := chr_utf8 okx (enc cr)
                rw [← hsmw, ← hk] at hchx
                have hxs := chr_some hchx
                have hy0 : (bytesOf sm).getD 0 0 = ((sm[0]'hltm).toNat : Int) := by rw [from_at0 sm 0 hltm]; rfl
                rw [hy0] at hxs
                have hyb : ((sm[0]'hltm).toNat : Int) ≤ 255 := by have := (sm[0]'hltm).toNat_lt; omega
                have dy : decide (((sm[0]'hltm).toNat : Int) > 127) = true := decide_eq_true (by omega)
                have HDm : Hid (∀ W, Lib.Utf8Tabs gF gA W → Calls Tryd.prog 57 #[.string sm] W fun e w' => e = .returned (.tuple #[.int .i32 x, .int .i64 (k : Nat)]) ∧ Below W.heap.size W w') := Lib.hid (fun W h => Decode_any sm W hchx h)
                obtain ⟨sm2, hsm2⟩ : ∃ sm2, sm2 = sm.extract k sm.size := ⟨_, rfl⟩
                have bsm : bytesOf sm2 = enc cr := by rw [hsm2, bytes_from, hsmw, hk, List.drop_left' rfl]
                have hk0 : ((k : Int) == 0) = false := beq_eq_false_iff_ne.mpr (by omega)
                have ksm : ∀ W : World, (Instr.slice 9 (.string sm) (some (.int .i64 (k : Int))) none none).run Tryd.prog W = .ok (.string sm2) W := by rw [hsm2]; exact slice_fromI sm k (by omega)
                clear hk hchx hxs hy0
                rcases Bool.eq_false_or_eq_true (x == c) with hxc | hxc
                · have f1 := Lib.hid (fin.out hxc)
                  have e3 : (x != c) = false := by rw [bne_eq_false_iff_eq]; exact beq_iff_eq.1 hxc
                  clear hsm hsp okc okt hlen hfit hsml hspl fin stop0 stopE HTT hsp2 hq okx hsmw hsm2 hxc
                  go_wp2_with (first | (go_at_call_of 57 (Value.string sp); refine (HDp.out _ HTr.out).mono ?_; rintro e w1 ⟨rfl, hb1⟩; replace HTr := Lib.hid (tabs_below HTr.out hb1); replace HB := Lib.hid (below_then HB.out HB.out.size hb1); clear hb1) | (go_at_call_of 57 (Value.string sm); refine (HDm.out _ HTr.out).mono ?_; rintro e w2 ⟨rfl, hb1⟩; replace HTr := Lib.hid (tabs_below HTr.out hb1); replace HB := Lib.hid (below_then HB.out HB.out.size hb1); clear hb1))
                  go_roundg (sp2.size + sm2.size)
                  case rel => exact Lib.hid (f1.out sm2 bsm _ HB.out).2
                  case measure => exact (f1.out sm2 bsm _ HB.out).1
                · have st := Lib.hid (stop0.out hxc)
                  have e3 : (x != c) = true := by rw [bne_iff_ne]; exact beq_eq_false_iff_ne.1 hxc
                  clear hsm hsp okc okt hlen hfit hsml hspl fin stop0 stopE HTT hsp2 hq okx hsmw hsm2 hxc
                  go_wp2_with (first | (go_at_call_of 57 (Value.string sp); refine (HDp.out _ HTr.out).mono ?_; rintro e w1 ⟨rfl, hb1⟩; replace HTr := Lib.hid (tabs_below HTr.out hb1); replace HB := Lib.hid (below_then HB.out HB.out.size hb1); clear hb1) | (go_at_call_of 57 (Value.string sm); refine (HDm.out _ HTr.out).mono ?_; rintro e w2 ⟨rfl, hb1⟩; replace HTr := Lib.hid (tabs_below HTr.out hb1); replace HB := Lib.hid (below_then HB.out HB.out.size hb1); clear hb1))
                  go_ret
                  exact ⟨by rw [st.out]; rfl, HB.out⟩
      | star =>
        have hspc : bytesOf sp = 42 :: pat tr := hsp
        have hx : ((sp[0]'hlt).toNat : Int) = 42 := by rw [from_at0 sp 0 hlt]; unfold from_; rw [List.drop_zero, hsp]; rfl
        have HST : Hid (∀ W, Below w.heap.size w W → StI w W cs1 tr sp.size (.string sp)) := Lib.hid (fun W hb => ⟨sp, tr, rfl, hspc, rfl, Nat.le_refl _, ⟨[], rfl⟩, rfl, hb⟩)
        clear stopE
        cases cs1 with
        | nil =>
          have z0 : sm.size = 0 := by rw [← hsml, hsm]; rfl
          have hd1 : decide (0 < sm.size) = false := decide_eq_false (by omega)
          have hn1' : ¬ 0 < sm.size := by omega
          go_wp2
          have HST2 := Lib.hid (HST.out _ HB.out)
          go_loopg [1] sp.size (fun kq v1 w' => Hid (StI w w' [] tr kq v1))
          case atStart => exact HST2
          case round =>
            obtain ⟨sq, r, rfl, hsq, rfl, hql, hyr, hfr, hB1⟩ := hrel.out
            clear hrel HST2
            have hsql := bytesOf_length sq
            have HB1 := Lib.hid hB1
            have HT1 := Lib.hid (tabs_below HT.out hB1)
            clear hB1
            have hqz : sq.size ≤ 100000 := by rw [← hsql, hsq]; rw [← hspl, hspc] at hspz; omega
            cases r with
            | nil =>
              have z1 : sq.size = 1 := by rw [← hsql, hsq]; rfl
              have q1 : decide (1 < sq.size) = false := decide_eq_false (by omega)
              have q1' : ¬ 1 < sq.size := by omega
              have q2 : ((sq.size : Int) == 1) = true := beq_iff_eq.mpr (by omega)
              have q3 : (sq.size == 1) = true := beq_iff_eq.mpr z1
              have e : Hid (res (fit cs ts) = 1) := Lib.hid (by rw [hfit, hfr, fit_star_nil]; rfl)
              clear hsm hsp okc okt hlen hfit hsml hspl HTT hsq hql hyr hfr hsql hspc HST z1
              go_wp2
              go_ret
              exact ⟨by rw [e.out]; rfl, HB1.out⟩
            | cons u r' =>
              have hu1 : 1 < sq.size := by have := tt_pos u; rw [← hsql, hsq, List.length_cons, pat_cons, List.length_append]; omega
              have q1 : decide (1 < sq.size) = true := decide_eq_true hu1
              by_cases hus : u = .star
              · subst hus
                have hi : ((sq[1]'hu1).toNat : Int) = 42 := by rw [from_at0 sq 1 hu1]; unfold from_; rw [hsq]; rfl
                obtain ⟨sq2, hsq2⟩ : ∃ sq2, sq2 = sq.extract 1 sq.size := ⟨_, rfl⟩
                have ksq : ∀ W : World, (Instr.slice 9 (.string sq) (some (.int .i64 1)) none none).run Tryd.prog W = .ok (.string sq2) W := by rw [hsq2]; exact slice_fromI sq 1 (by omega)
                have bsq : bytesOf sq2 = 42 :: pat r' := by rw [hsq2, bytes_from, hsq]; rfl
                have hms : sq2.size < sq.size := by rw [hsq2, ByteArray.size_extract]; omega
                have fin : Hid (∀ W, Below w.heap.size w W → StI w W [] tr sq2.size (.string sq2)) := Lib.hid (fun W hb => ⟨sq2, r', rfl, bsq, rfl, by rw [pat_cons] at hql; simp only [List.length_cons, List.length_append] at hql ⊢; omega, (by obtain ⟨y, hy⟩ := hyr; exact ⟨y ++ [.star], by rw [hy]; simp⟩), by rw [hfr, fit_star2], hb⟩)
                clear hsm hsp okc okt hlen hfit hsml hspl HTT hsq hql hyr hfr hsql hspc HST hsq2 bsq
                go_wp2
                go_roundg sq2.size
                case rel => exact Lib.hid (fin.out _ HB1.out)
                case measure => exact hms
              · have okq : ∀ q ∈ u :: r', okT q := by obtain ⟨y, hy⟩ := hyr; exact fun q hq => okt q (List.mem_cons_of_mem _ (by rw [hy]; exact List.mem_append_right _ hq))
                obtain ⟨b, rr, hpu, hb42⟩ := pat_first (okq u List.mem_cons_self) hus r'
                have hi : ((sq[1]'hu1).toNat : Int) = b := by rw [from_at0 sq 1 hu1]; unfold from_; rw [hsq, hpu]; rfl
                have hi2 : (((sq[1]'hu1).toNat : Int) == 42) = false := by rw [hi]; exact beq_eq_false_iff_ne.mpr hb42
                have q2 : ((sq.size : Int) == 1) = false := beq_eq_false_iff_ne.mpr (by omega)
                have q3 : (sq.size == 1) = false := beq_eq_false_iff_ne.mpr (by omega)
                have TR : Hid (∀ W, Lib.Utf8Tabs gF gA W → Calls Tryd.prog 63 #[.string sm, .string sq, .bool false] W (TrP W [] (u :: r'))) := Lib.hid (fun W h => trim_any sm sq [] (u :: r') W okc okq hsm hsq hsmz hqz h)
                have HF : Hid (fit cs ts = fit [] (.star :: (u :: r'))) := Lib.hid (hfit.trans hfr)
                have HL : Hid ((u :: r').length < ts.length) := Lib.hid (by obtain ⟨y, hy⟩ := hyr; rw [hy] at hlen; simp only [List.length_cons, List.length_append] at hlen ⊢; omega)
                have HQ := Lib.hid hql
                have HOK := Lib.hid okq
                have HOC := Lib.hid okc
                have HSP := Lib.hid (hspl.symm.trans (congrArg List.length hspc))
                have HSM := Lib.hid (hsml.symm.trans (congrArg List.length hsm))
                clear hsm hsp okc okt hlen hfit hsml hspl HTT hsq hql hyr hfr hsql hspc HST hi hpu hb42 okq
                go_wp2_with fail
                refine (TR.out _ HT1.out).mono ?_
                rintro e w4 ⟨s1, p1, ok, cs2, ts2, rfl, hs1, hp1, hs1z, hp1z, hcx, htx, hyes, hno, hb4⟩
                have HB4 := Lib.hid (below_then HB1.out HB1.out.size hb4)
                have HT4 := Lib.hid (tabs_below HT.out HB4.out)
                clear hb4 TR
                have hp1l := bytesOf_length p1
                have hs1l := bytesOf_length s1
                cases ok with
                | false =>
                  have e : Hid (res (fit cs ts) = 0) := Lib.hid (by rw [HF.out, hno rfl]; rfl)
                  clear hs1 hp1 hcx htx hyes hno hp1l hs1l
                  go_wp2
                  go_ret
                  exact ⟨by rw [e.out]; rfl, HB4.out⟩
                | true =>
                  have HF2 : Hid (fit cs ts = fit cs2 (.star :: ts2)) := Lib.hid (HF.out.trans (hyes rfl))
                  clear hyes hno
                  cases ts2 with
                  | nil =>
                    have z1 : p1.size = 1 := by rw [← hp1l, hp1]; rfl
                    have q4 : ((p1.size : Int) == 1) = true := beq_iff_eq.mpr (by omega)
                    have q5 : (p1.size == 1) = true := beq_iff_eq.mpr z1
                    have e : Hid (res (fit cs ts) = 1) := Lib.hid (by rw [HF2.out, fit_star_nil]; rfl)
                    clear hs1 hp1 hcx htx hp1l hs1l z1
                    go_wp2
                    go_ret
                    exact ⟨by rw [e.out]; rfl, HB4.out⟩
                  | cons u2 r2 =>
                    have hp1s : 1 < p1.size := by have := tt_pos u2; rw [← hp1l, hp1, List.length_cons, pat_cons, List.length_append]; omega
                    have q4 : ((p1.size : Int) == 1) = false := beq_eq_false_iff_ne.mpr (by omega)
                    have q5 : (p1.size == 1) = false := beq_eq_false_iff_ne.mpr (by omega)
                    obtain ⟨p2, hp2⟩ : ∃ p2, p2 = p1.extract 1 p1.size := ⟨_, rfl⟩
                    have kp2 : ∀ W : World, (Instr.slice 9 (.string p1) (some (.int .i64 1)) none none).run Tryd.prog W = .ok (.string p2) W := by rw [hp2]; exact slice_fromI p1 1 (by omega)
                    have bp2 : bytesOf p2 = pat (u2 :: r2) := by rw [hp2, bytes_from, hp1]; rfl
                    have okc2 : ∀ c ∈ cs2, okC c := by obtain ⟨z, hz⟩ := hcx; exact fun c hc => HOC.out c (by rw [hz]; exact List.mem_append_left _ hc)
                    have okt2 : ∀ q ∈ u2 :: r2, okT q := by obtain ⟨z, hz⟩ := htx; exact fun q hq => HOK.out q (by rw [hz]; exact List.mem_append_left _ hq)
                    have hl2 : (u2 :: r2).length < ts.length := by have h1 := HL.out; obtain ⟨z, hz⟩ := htx; rw [hz, List.length_append] at h1; omega
                    have RC : Hid (∀ W, Lib.Utf8Tabs gF gA W → Calls Tryd.prog 56 #[.string s1, .string p2, .int .i64 0, .pointer none, .int .i64 (-1), .bool false] W fun e w' => e = .returned (.int .i64 (res (fit cs2 (u2 :: r2)))) ∧ Below W.heap.size W w') := Lib.hid (fun W h => HI.out (u2 :: r2) hl2 cs2 s1 p2 W okc2 okt2 hs1 bp2 hs1z (by rw [hp2, ByteArray.size_extract]; omega) h)
                    cases hf2 : fit cs2 (u2 :: r2) with
                    | true =>
                      have e : Hid (res (fit cs ts) = 1) := Lib.hid (by rw [HF2.out, (fit_iff _ _).2 (.skip ((fit_iff _ _).1 hf2))]; rfl)
                      rw [hf2] at RC
                      replace RC : Hid (∀ W, Lib.Utf8Tabs gF gA W → Calls Tryd.prog 56 #[.string s1, .string p2, .int .i64 0, .pointer none, .int .i64 (-1), .bool false] W fun e w' => e = .returned (.int .i64 1) ∧ Below W.heap.size W w') := RC
                      clear hs1 hp1 hcx htx hp1l hs1l hp2 bp2 okc2 okt2 hl2 hf2
                      go_wp2_with (first | (go_at_call 56; refine (RC.out _ HT4.out).mono ?_; rintro e w5 ⟨rfl, hb5⟩; replace HB4 := Lib.hid (below_then HB4.out HB4.out.size hb5); clear hb5))
                      go_ret
                      exact ⟨by rw [e.out]; rfl, HB4.out⟩
                    | false =>
                      rw [hf2] at RC
                      replace RC : Hid (∀ W, Lib.Utf8Tabs gF gA W → Calls Tryd.prog 56 #[.string s1, .string p2, .int .i64 0, .pointer none, .int .i64 (-1), .bool false] W fun e w' => e = .returned (.int .i64 0) ∧ Below W.heap.size W w') := RC
                      cases cs2 with
                      | nil =>
                        have z1 : s1.size = 0 := by rw [← hs1l, hs1]; rfl
                        have q6 : ((s1.size : Int) == 0) = true := beq_iff_eq.mpr (by omega)
                        have q7 : (s1.size == 0) = true := beq_iff_eq.mpr z1
                        have e : Hid (res (fit cs ts) = 0) := Lib.hid (by rw [HF2.out, fit, hf2]; rfl)
                        clear hs1 hp1 hcx htx hp1l hs1l hp2 bp2 okc2 okt2 hl2 hf2 z1
                        go_wp2_with (first | (go_at_call 56; refine (RC.out _ HT4.out).mono ?_; rintro e w5 ⟨rfl, hb5⟩; replace HB4 := Lib.hid (below_then HB4.out HB4.out.size hb5); clear hb5))
                        go_ret
                        exact ⟨by rw [e.out]; rfl, HB4.out⟩
                      | cons x2 c2 =>
                        obtain ⟨z, hz⟩ := hcx
                        cases hz
        | cons x cr =>
          have okx := okc x List.mem_cons_self
          have hltm : 0 < sm.size := by have := (utf8_pos x).1; rw [← hsml, hsm, enc_cons, List.length_append]; omega
          have hd1 : decide (0 < sm.size) = true := decide_eq_true hltm
          have hsmw : bytesOf sm = utf8 x ++ enc cr := hsm
          by_cases hxa : x < 128
          · have hux : utf8 x = [x] := by unfold utf8; rw [if_pos hxa]
            have hy : ((sm[0]'hltm).toNat : Int) = x := by rw [from_at0 sm 0 hltm]; unfold from_; rw [List.drop_zero, hsmw, hux]; rfl
            have x0 : 0 ≤ x := okx.1
            have dx : decide (x > 127) = false := decide_eq_false (by omega)
            have HKX : Hid (1 = (utf8 x).length) := Lib.hid (by rw [hux]; rfl)
            have HKP : Hid (1 ≤ 1) := Lib.hid (Nat.le_refl _)
            clear hux
            go_wp2
            have HST2 := Lib.hid (HST.out _ HB.out)
            go_loopg [1] sp.size (fun kq v1 w' => Hid (StI w w' (x :: cr) tr kq v1))
            case atStart => exact HST2
            case round =>
              obtain ⟨sq, r, rfl, hsq, rfl, hql, hyr, hfr, hB1⟩ := hrel.out
              clear hrel HST2
              have hsql := bytesOf_length sq
              have HB1 := Lib.hid hB1
              have HT1 := Lib.hid (tabs_below HT.out hB1)
              clear hB1
              have hqz : sq.size ≤ 100000 := by rw [← hsql, hsq]; rw [← hspl, hspc] at hspz; omega
              cases r with
              | nil =>
                have z1 : sq.size = 1 := by rw [← hsql, hsq]; rfl
                have q1 : decide (1 < sq.size) = false := decide_eq_false (by omega)
                have q1' : ¬ 1 < sq.size := by omega
                have q2 : ((sq.size : Int) == 1) = true := beq_iff_eq.mpr (by omega)
                have q3 : (sq.size == 1) = true := beq_iff_eq.mpr z1
                have e : Hid (res (fit cs ts) = 1) := Lib.hid (by rw [hfit, hfr, fit_star_nil]; rfl)
                clear hsm hsp okc okt hlen hfit hsml hspl HTT hsq hql hyr hfr hsql hspc HST hsmw z1
                go_wp2
                go_ret
                exact ⟨by rw [e.out]; rfl, HB1.out⟩
              | cons u r' =>
                have hu1 : 1 < sq.size := by have := tt_pos u; rw [← hsql, hsq, List.length_cons, pat_cons, List.length_append]; omega
                have q1 : decide (1 < sq.size) = true := decide_eq_true hu1
                by_cases hus : u = .star
                · subst hus
                  have hi : ((sq[1]'hu1).toNat : Int) = 42 := by rw [from_at0 sq 1 hu1]; unfold from_; rw [hsq]; rfl
                  obtain ⟨sq2, hsq2⟩ : ∃ sq2, sq2 = sq.extract 1 sq.size := ⟨_, rfl⟩
                  have ksq : ∀ W : World, (Instr.slice 9 (.string sq) (some (.int .i64 1)) none none).run Tryd.prog W = .ok (.string sq2) W := by rw [hsq2]; exact slice_fromI sq 1 (by omega)
                  have bsq : bytesOf sq2 = 42 :: pat r' := by rw [hsq2, bytes_from, hsq]; rfl
                  have hms : sq2.size < sq.size := by rw [hsq2, ByteArray.size_extract]; omega
                  have fin : Hid (∀ W, Below w.heap.size w W → StI w W (x :: cr) tr sq2.size (.string sq2)) := Lib.hid (fun W hb => ⟨sq2, r', rfl, bsq, rfl, by rw [pat_cons] at hql; simp only [List.length_cons, List.length_append] at hql ⊢; omega, (by obtain ⟨y, hy⟩ := hyr; exact ⟨y ++ [.star], by rw [hy]; simp⟩), by rw [hfr, fit_star2], hb⟩)
                  clear hsm hsp okc okt hlen hfit hsml hspl HTT hsq hql hyr hfr hsql hspc HST hsmw hsq2 bsq
                  go_wp2
                  go_roundg sq2.size
                  case rel => exact Lib.hid (fin.out _ HB1.out)
                  case measure => exact hms
                · have okq : ∀ q ∈ u :: r', okT q := by obtain ⟨y, hy⟩ := hyr; exact fun q hq => okt q (List.mem_cons_of_mem _ (by rw [hy]; exact List.mem_append_right _ hq))
                  obtain ⟨b, rr, hpu, hb42⟩ := pat_first (okq u List.mem_cons_self) hus r'
                  have hi : ((sq[1]'hu1).toNat : Int) = b := by rw [from_at0 sq 1 hu1]; unfold from_; rw [hsq, hpu]; rfl
                  have hi2 : (((sq[1]'hu1).toNat : Int) == 42) = false := by rw [hi]; exact beq_eq_false_iff_ne.mpr hb42
                  have q2 : ((sq.size : Int) == 1) = false := beq_eq_false_iff_ne.mpr (by omega)
                  have q3 : (sq.size == 1) = false := beq_eq_false_iff_ne.mpr (by omega)
                  have TR : Hid (∀ W, Lib.Utf8Tabs gF gA W → Calls Tryd.prog 63 #[.string sm, .string sq, .bool false] W (TrP W (x :: cr) (u :: r'))) := Lib.hid (fun W h => trim_any sm sq (x :: cr) (u :: r') W okc okq hsm hsq hsmz hqz h)
                  have HF : Hid (fit cs ts = fit (x :: cr) (.star :: (u :: r'))) := Lib.hid (hfit.trans hfr)
                  have HL : Hid ((u :: r').length < ts.length) := Lib.hid (by obtain ⟨y, hy⟩ := hyr; rw [hy] at hlen; simp only [List.length_cons, List.length_append] at hlen ⊢; omega)
                  have HQ := Lib.hid hql
                  have HOK := Lib.hid okq
                  have HOC := Lib.hid okc
                  have HSP := Lib.hid (hspl.symm.trans (congrArg List.length hspc))
                  have HSM := Lib.hid (hsml.symm.trans (congrArg List.length hsm))
                  clear hsm hsp okc okt hlen hfit hsml hspl HTT hsq hql hyr hfr hsql hspc HST hsmw hi hpu hb42 okq
                  go_wp2_with fail
                  refine (TR.out _ HT1.out).mono ?_
                  rintro e w4 ⟨s1, p1, ok, cs2, ts2, rfl, hs1, hp1, hs1z, hp1z, hcx, htx, hyes, hno, hb4⟩
                  have HB4 := Lib.hid (below_then HB1.out HB1.out.size hb4)
                  have HT4 := Lib.hid (tabs_below HT.out HB4.out)
                  clear hb4 TR
                  have hp1l := bytesOf_length p1
                  have hs1l := bytesOf_length s1
                  cases ok with
                  | false =>
                    have e : Hid (res (fit cs ts) = 0) := Lib.hid (by rw [HF.out, hno rfl]; rfl)
                    clear hs1 hp1 hcx htx hyes hno hp1l hs1l
                    go_wp2
                    go_ret
                    exact ⟨by rw [e.out]; rfl, HB4.out⟩
                  | true =>
                    have HF2 : Hid (fit cs ts = fit cs2 (.star :: ts2)) := Lib.hid (HF.out.trans (hyes rfl))
                    clear hyes hno
                    cases ts2 with
                    | nil =>
                      have z1 : p1.size = 1 := by rw [← hp1l, hp1]; rfl
                      have q4 : ((p1.size : Int) == 1) = true := beq_iff_eq.mpr (by omega)
                      have q5 : (p1.size == 1) = true := beq_iff_eq.mpr z1
                      have e : Hid (res (fit cs ts) = 1) := Lib.hid (by rw [HF2.out, fit_star_nil]; rfl)
                      clear hs1 hp1 hcx htx hp1l hs1l z1
                      go_wp2
                      go_ret
                      exact ⟨by rw [e.out]; rfl, HB4.out⟩
                    | cons u2 r2 =>
                      have hp1s : 1 < p1.size := by have := tt_pos u2; rw [← hp1l, hp1, List.length_cons, pat_cons, List.length_append]; omega
                      have q4 : ((p1.size : Int) == 1) = false := beq_eq_false_iff_ne.mpr (by omega)
                      have q5 : (p1.size == 1) = false := beq_eq_false_iff_ne.mpr (by omega)
                      obtain ⟨p2, hp2⟩ : ∃ p2, p2 = p1.extract 1 p1.size := ⟨_, rfl⟩
                      have kp2 : ∀ W : World, (Instr.slice 9 (.string p1) (some (.int .i64 1)) none none).run Tryd.prog W = .ok (.string p2) W := by rw [hp2]; exact slice_fromI p1 1 (by omega)
                      have bp2 : bytesOf p2 = pat (u2 :: r2) := by rw [hp2, bytes_from, hp1]; rfl
                      have okc2 : ∀ c ∈ cs2, okC c := by obtain ⟨z, hz⟩ := hcx; exact fun c hc => HOC.out c (by rw [hz]; exact List.mem_append_left _ hc)
                      have okt2 : ∀ q ∈ u2 :: r2, okT q := by obtain ⟨z, hz⟩ := htx; exact fun q hq => HOK.out q (by rw [hz]; exact List.mem_append_left _ hq)
                      have hl2 : (u2 :: r2).length < ts.length := by have h1 := HL.out; obtain ⟨z, hz⟩ := htx; rw [hz, List.length_append] at h1; omega
                      have RC : Hid (∀ W, Lib.Utf8Tabs gF gA W → Calls Tryd.prog 56 #[.string s1, .string p2, .int .i64 0, .pointer none, .int .i64 (-1), .bool false] W fun e w' => e = .returned (.int .i64 (res (fit cs2 (u2 :: r2)))) ∧ Below W.heap.size W w') := Lib.hid (fun W h => HI.out (u2 :: r2) hl2 cs2 s1 p2 W okc2 okt2 hs1 bp2 hs1z (by rw [hp2, ByteArray.size_extract]; omega) h)
                      cases hf2 : fit cs2 (u2 :: r2) with
                      | true =>
                        have e : Hid (res (fit cs ts) = 1) := Lib.hid (by rw [HF2.out, (fit_iff _ _).2 (.skip ((fit_iff _ _).1 hf2))]; rfl)
                        rw [hf2] at RC
                        replace RC : Hid (∀ W, Lib.Utf8Tabs gF gA W → Calls Tryd.prog 56 #[.string s1, .string p2, .int .i64 0, .pointer none, .int .i64 (-1), .bool false] W fun e w' => e = .returned (.int .i64 1) ∧ Below W.heap.size W w') := RC
                        clear hs1 hp1 hcx htx hp1l hs1l hp2 bp2 okc2 okt2 hl2 hf2
                        go_wp2_with (first | (go_at_call 56; refine (RC.out _ HT4.out).mono ?_; rintro e w5 ⟨rfl, hb5⟩; replace HB4 := Lib.hid (below_then HB4.out HB4.out.size hb5); clear hb5))
                        go_ret
                        exact ⟨by rw [e.out]; rfl, HB4.out⟩
                      | false =>
                        rw [hf2] at RC
                        replace RC : Hid (∀ W, Lib.Utf8Tabs gF gA W → Calls Tryd.prog 56 #[.string s1, .string p2, .int .i64 0, .pointer none, .int .i64 (-1), .bool false] W fun e w' => e = .returned (.int .i64 0) ∧ Below W.heap.size W w') := RC
                        cases cs2 with
                        | nil =>
                          have z1 : s1.size = 0 := by rw [← hs1l, hs1]; rfl
                          have q6 : ((s1.size : Int) == 0) = true := beq_iff_eq.mpr (by omega)
                          have q7 : (s1.size == 0) = true := beq_iff_eq.mpr z1
                          have e : Hid (res (fit cs ts) = 0) := Lib.hid (by rw [HF2.out, fit, hf2]; rfl)
                          clear hs1 hp1 hcx htx hp1l hs1l hp2 bp2 okc2 okt2 hl2 hf2 z1
                          go_wp2_with (first | (go_at_call 56; refine (RC.out _ HT4.out).mono ?_; rintro e w5 ⟨rfl, hb5⟩; replace HB4 := Lib.hid (below_then HB4.out HB4.out.size hb5); clear hb5))
                          go_ret
                          exact ⟨by rw [e.out]; rfl, HB4.out⟩
                        | cons x2 c2 =>
                          obtain rfl : x = x2 := by obtain ⟨z, hz⟩ := hcx; simp only [List.cons_append, List.cons.injEq] at hz; exact hz.1
                          have hs1w : bytesOf s1 = utf8 x ++ enc c2 := hs1
                          have hs1k : 1 ≤ s1.size := by rw [← hs1l, hs1w, List.length_append, ← HKX.out]; omega
                          have q6 : ((s1.size : Int) == 0) = false := beq_eq_false_iff_ne.mpr (by have := HKP.out; omega)
                          have q7 : (s1.size == 0) = false := beq_eq_false_iff_ne.mpr (by have := HKP.out; omega)
                          obtain ⟨s2, hs2⟩ : ∃ s2, s2 = s1.extract 1 s1.size := ⟨_, rfl⟩
                          have ks2 : ∀ W : World, (Instr.slice 9 (.string s1) (some (.int .i64 1)) none none).run Tryd.prog W = .ok (.string s2) W := by rw [hs2]; exact slice_fromI s1 1 hs1k
                          have bs2 : bytesOf s2 = enc c2 := by rw [hs2, bytes_from, hs1w, HKX.out, List.drop_left' rfl]
                          have hs2z : s2.size + 1 = s1.size := by rw [hs2, ByteArray.size_extract]; omega
                          have hs1m : s1.size ≤ sm.size := by obtain ⟨z, hz⟩ := hcx; rw [HSM.out, hz, enc_append, ← hs1l, hs1, List.length_append]; omega
                          have hp1m : p1.size ≤ sp.size := by have h1 := HQ.out; obtain ⟨z, hz⟩ := htx; rw [HSP.out, ← hp1l, hp1]; rw [hz, pat_append] at h1; simp only [List.length_cons, List.length_append] at h1 ⊢; omega
                          have hms : p1.size + s2.size < sp.size + sm.size := by have := HKP.out; omega
                          have fin : Hid (∀ W, Below w.heap.size w W → MtJ w W cs ts (p1.size + s2.size) (.string s2) (.string p1)) := Lib.hid (fun W hb => ⟨s2, p1, c2, .star :: (u2 :: r2), rfl, rfl, bs2, hp1, rfl, by omega, hp1z, fun c hc => okc2 c (List.mem_cons_of_mem _ hc), (fun q hq => by rcases List.mem_cons.1 hq with rfl | hq; exact trivial; exact okt2 q hq), by simp only [List.length_cons] at hl2 ⊢; omega, by rw [HF2.out, fit, hf2, Bool.false_or], hb⟩)
                          clear hs1 hp1 hcx htx hp1l hs1l hp2 bp2 okc2 okt2 hl2 hf2 hs1w hs1k hs2 bs2 hs2z hs1m hp1m
                          go_wp2_with (first | (go_at_call 56; refine (RC.out _ HT4.out).mono ?_; rintro e w5 ⟨rfl, hb5⟩; replace HB4 := Lib.hid (below_then HB4.out HB4.out.size hb5); clear hb5))
                          go_roundg (p1.size + s2.size)
                          case rel => exact Lib.hid (fin.out _ HB4.out)
                          case measure => exact hms
          · obtain ⟨k, hk⟩ : ∃ k, k = (utf8 x).length := ⟨_, rfl⟩
            have hchx := chr_utf8 okx (enc cr)
            rw [← hsmw, ← hk] at hchx
            have hxs := chr_some hchx
            have hy0 : (bytesOf sm).getD 0 0 = ((sm[0]'hltm).toNat : Int) := by rw [from_at0 sm 0 hltm]; rfl
            rw [hy0] at hxs
            have hyb : ((sm[0]'hltm).toNat : Int) ≤ 255 := by have := (sm[0]'hltm).toNat_lt; omega
            have dy : decide (((sm[0]'hltm).toNat : Int) > 127) = true := decide_eq_true (by omega)
            have HDm : Hid (∀ W, Lib.Utf8Tabs gF gA W → Calls Tryd.prog 57 #[.string sm] W fun e w' => e = .returned (.tuple #[.int .i32 x, .int .i64 (k : Nat)]) ∧ Below W.heap.size W w') := Lib.hid (fun W h => Decode_any sm W hchx h)
            have HKX := Lib.hid hk
            have HKP : Hid (1 ≤ k) := Lib.hid hxs.1
            clear hk hchx hxs hy0
            go_wp2_with (first | (go_at_call_of 57 (Value.string sm); refine (HDm.out _ HTr.out).mono ?_; rintro e w2 ⟨rfl, hb1⟩; replace HTr := Lib.hid (tabs_below HTr.out hb1); replace HB := Lib.hid (below_then HB.out HB.out.size hb1); clear hb1))
            have HST2 := Lib.hid (HST.out _ HB.out)
            go_loopg [1] sp.size (fun kq v1 w' => Hid (StI w w' (x :: cr) tr kq v1))
            case atStart => exact HST2
            case round =>
              obtain ⟨sq, r, rfl, hsq, rfl, hql, hyr, hfr, hB1⟩ := hrel.out
              clear hrel HST2
              have hsql := bytesOf_length sq
              have HB1 := Lib.hid hB1
              have HT1 := Lib.hid (tabs_below HT.out hB1)
              clear hB1
              have hqz : sq.size ≤ 100000 := by rw [← hsql, hsq]; rw [← hspl, hspc] at hspz; omega
              cases r with
              | nil =>
                have z1 : sq.size = 1 := by rw [← hsql, hsq]; rfl
                have q1 : decide (1 < sq.size) = false := decide_eq_false (by omega)
                have q1' : ¬ 1 < sq.size := by omega
                have q2 : ((sq.size : Int) == 1) = true := beq_iff_eq.mpr (by omega)
                have q3 : (sq.size == 1) = true := beq_iff_eq.mpr z1
                have e : Hid (res (fit cs ts) = 1) := Lib.hid (by rw [hfit, hfr, fit_star_nil]; rfl)
                clear hsm hsp okc okt hlen hfit hsml hspl HTT hsq hql hyr hfr hsql hspc HST hsmw z1
                go_wp2
                go_ret
                exact ⟨by rw [e.out]; rfl, HB1.out⟩
              | cons u r' =>
                have hu1 : 1 < sq.size := by have := tt_pos u; rw [← hsql, hsq, List.length_cons, pat_cons, List.length_append]; omega
                have q1 : decide (1 < sq.size) = true := decide_eq_true hu1
                by_cases hus : u = .star
                · subst hus
                  have hi : ((sq[1]'hu1).toNat : Int) = 42 := by rw [from_at0 sq 1 hu1]; unfold from_; rw [hsq]; rfl
                  obtain ⟨sq2, hsq2⟩ : ∃ sq2, sq2 = sq.extract 1 sq.size := ⟨_, rfl⟩
                  have ksq : ∀ W : World, (Instr.slice 9 (.string sq) (some (.int .i64 1)) none none).run Tryd.prog W = .ok (.string sq2) W := by rw [hsq2]; exact slice_fromI sq 1 (by omega)
                  have bsq : bytesOf sq2 = 42 :: pat r' := by rw [hsq2, bytes_from, hsq]; rfl
                  have hms : sq2.size < sq.size := by rw [hsq2, ByteArray.size_extract]; omega
                  have fin : Hid (∀ W, Below w.heap.size w W → StI w W (x :: cr) tr sq2.size (.string sq2)) := Lib.hid (fun W hb => ⟨sq2, r', rfl, bsq, rfl, by rw [pat_cons] at hql; simp only [List.length_cons, List.length_append] at hql ⊢; omega, (by obtain ⟨y, hy⟩ := hyr; exact ⟨y ++ [.star], by rw [hy]; simp⟩), by rw [hfr, fit_star2], hb⟩)
                  clear hsm hsp okc okt hlen hfit hsml hspl HTT hsq hql hyr hfr hsql hspc HST hsmw hsq2 bsq
                  go_wp2
                  go_roundg sq2.size
                  case rel => exact Lib.hid (fin.out _ HB1.out)
                  case measure => exact hms
                · have okq : ∀ q ∈ u :: r', okT q := by obtain ⟨y, hy⟩ := hyr; exact fun q hq => okt q (List.mem_cons_of_mem _ (by rw [hy]; exact List.mem_append_right _ hq))
                  obtain ⟨b, rr, hpu, hb42⟩ := pat_first (okq u List.mem_cons_self) hus r'
                  have hi : ((sq[1]'hu1).toNat : Int) = b := by rw [from_at0 sq 1 hu1]; unfold from_; rw [hsq, hpu]; rfl
                  have hi2 : (((sq[1]'hu1).toNat : Int) == 42) = false := by rw [hi]; exact beq_eq_false_iff_ne.mpr hb42
                  have q2 : ((sq.size : Int) == 1) = false := beq_eq_false_iff_ne.mpr (by omega)
                  have q3 : (sq.size == 1) = false := beq_eq_false_iff_ne.mpr (by omega)
                  have TR : Hid (∀ W, Lib.Utf8Tabs gF gA W → Calls Tryd.prog 63 #[.string sm, .string sq, .bool false] W (TrP W (x :: cr) (u :: r'))) := Lib.hid (fun W h => trim_any sm sq (x :: cr) (u :: r') W okc okq hsm hsq hsmz hqz h)
                  have HF : Hid (fit cs ts = fit (x :: cr) (.star :: (u :: r'))) := Lib.hid (hfit.trans hfr)
                  have HL : Hid ((u :: r').length < ts.length) := Lib.hid (by obtain ⟨y, hy⟩ := hyr; rw [hy] at hlen; simp only [List.length_cons, List.length_append] at hlen ⊢; omega)
                  have HQ := Lib.hid hql
                  have HOK := Lib.hid okq
                  have HOC := Lib.hid okc
                  have HSP := Lib.hid (hspl.symm.trans (congrArg List.length hspc))
                  have HSM := Lib.hid (hsml.symm.trans (congrArg List.length hsm))
                  clear hsm hsp okc okt hlen hfit hsml hspl HTT hsq hql hyr hfr hsql hspc HST hsmw hi hpu hb42 okq
                  go_wp2_with fail
                  refine (TR.out _ HT1.out).mono ?_
                  rintro e w4 ⟨s1, p1, ok, cs2, ts2, rfl, hs1, hp1, hs1z, hp1z, hcx, htx, hyes, hno, hb4⟩
                  have HB4 := Lib.hid (below_then HB1.out HB1.out.size hb4)
                  have HT4 := Lib.hid (tabs_below HT.out HB4.out)
                  clear hb4 TR
                  have hp1l := bytesOf_length p1
                  have hs1l := bytesOf_length s1
                  cases ok with
                  | false =>
                    have e : Hid (res (fit cs ts) = 0) := Lib.hid (by rw [HF.out, hno rfl]; rfl)
                    clear hs1 hp1 hcx htx hyes hno hp1l hs1l
                    go_wp2
                    go_ret
                    exact ⟨by rw [e.out]; rfl, HB4.out⟩
                  | true =>
                    have HF2 : Hid (fit cs ts = fit cs2 (.star :: ts2)) := Lib.hid (HF.out.trans (hyes rfl))
                    clear hyes hno
                    cases ts2 with
                    | nil =>
                      have z1 : p1.size = 1 := by rw [← hp1l, hp1]; rfl
                      have q4 : ((p1.size : Int) == 1) = true := beq_iff_eq.mpr (by omega)
                      have q5 : (p1.size == 1) = true := beq_iff_eq.mpr z1
                      have e : Hid (res (fit cs ts) = 1) := Lib.hid (by rw [HF2.out, fit_star_nil]; rfl)
                      clear hs1 hp1 hcx htx hp1l hs1l z1
                      go_wp2
                      go_ret
                      exact ⟨by rw [e.out]; rfl, HB4.out⟩
                    | cons u2 r2 =>
                      have hp1s : 1 < p1.size := by have := tt_pos u2; rw [← hp1l, hp1, List.length_cons, pat_cons, List.length_append]; omega
                      have q4 : ((p1.size : Int) == 1) = false := beq_eq_false_iff_ne.mpr (by omega)
                      have q5 : (p1.size == 1) = false := beq_eq_false_iff_ne.mpr (by omega)
                      obtain ⟨p2, hp2⟩ : ∃ p2, p2 = p1.extract 1 p1.size := ⟨_, rfl⟩
                      have kp2 : ∀ W : World, (Instr.slice 9 (.string p1) (some (.int .i64 1)) none none).run Tryd.prog W = .ok (.string p2) W := by rw [hp2]; exact slice_fromI p1 1 (by omega)
                      have bp2 : bytesOf p2 = pat (u2 :: r2) := by rw [hp2, bytes_from, hp1]; rfl
                      have okc2 : ∀ c ∈ cs2, okC c := by obtain ⟨z, hz⟩ := hcx; exact fun c hc => HOC.out c (by rw [hz]; exact List.mem_append_left _ hc)
                      have okt2 : ∀ q ∈ u2 :: r2, okT q := by obtain ⟨z, hz⟩ := htx; exact fun q hq => HOK.out q (by rw [hz]; exact List.mem_append_left _ hq)
                      have hl2 : (u2 :: r2).length < ts.length := by have h1 := HL.out; obtain ⟨z, hz⟩ := htx; rw [hz, List.length_append] at h1; omega
                      have RC : Hid (∀ W, Lib.Utf8Tabs gF gA W → Calls Tryd.prog 56 #[.string s1, .string p2, .int .i64 0, .pointer none, .int .i64 (-1), .bool false] W fun e w' => e = .returned (.int .i64 (res (fit cs2 (u2 :: r2)))) ∧ Below W.heap.size W w') := Lib.hid (fun W h => HI.out (u2 :: r2) hl2 cs2 s1 p2 W okc2 okt2 hs1 bp2 hs1z (by rw [hp2, ByteArray.size_extract]; omega) h)
                      cases hf2 : fit cs2 (u2 :: r2) with
                      | true =>
                        have e : Hid (res (fit cs ts) = 1) := Lib.hid (by rw [HF2.out, (fit_iff _ _).2 (.skip ((fit_iff _ _).1 hf2))]; rfl)
                        rw [hf2] at RC
                        replace RC : Hid (∀ W, Lib.Utf8Tabs gF gA W → Calls Tryd.prog 56 #[.string s1, .string p2, .int .i64 0, .pointer none, .int .i64 (-1), .bool false] W fun e w' => e = .returned (.int .i64 1) ∧ Below W.heap.size W w') := RC
                        clear hs1 hp1 hcx htx hp1l hs1l hp2 bp2 okc2 okt2 hl2 hf2
                        go_wp2_with (first | (go_at_call 56; refine (RC.out _ HT4.out).mono ?_; rintro e w5 ⟨rfl, hb5⟩; replace HB4 := Lib.hid (below_then HB4.out HB4.out.size hb5); clear hb5))
                        go_ret
                        exact ⟨by rw [e.out]; rfl, HB4.out⟩
                      | false =>
                        rw [hf2] at RC
                        replace RC : Hid (∀ W, Lib.Utf8Tabs gF gA W → Calls Tryd.prog 56 #[.string s1, .string p2, .int .i64 0, .pointer none, .int .i64 (-1), .bool false] W fun e w' => e = .returned (.int .i64 0) ∧ Below W.heap.size W w') := RC
                        cases cs2 with
                        | nil =>
                          have z1 : s1.size = 0 := by rw [← hs1l, hs1]; rfl
                          have q6 : ((s1.size : Int) == 0) = true := beq_iff_eq.mpr (by omega)
                          have q7 : (s1.size == 0) = true := beq_iff_eq.mpr z1
                          have e : Hid (res (fit cs ts) = 0) := Lib.hid (by rw [HF2.out, fit, hf2]; rfl)
                          clear hs1 hp1 hcx htx hp1l hs1l hp2 bp2 okc2 okt2 hl2 hf2 z1
                          go_wp2_with (first | (go_at_call 56; refine (RC.out _ HT4.out).mono ?_; rintro e w5 ⟨rfl, hb5⟩; replace HB4 := Lib.hid (below_then HB4.out HB4.out.size hb5); clear hb5))
                          go_ret
                          exact ⟨by rw [e.out]; rfl, HB4.out⟩
                        | cons x2 c2 =>
                          obtain rfl : x = x2 := by obtain ⟨z, hz⟩ := hcx; simp only [List.cons_append, List.cons.injEq] at hz; exact hz.1
                          have hs1w : bytesOf s1 = utf8 x ++ enc c2 := hs1
                          have hs1k : k ≤ s1.size := by rw [← hs1l, hs1w, List.length_append, ← HKX.out]; omega
                          have q6 : ((s1.size : Int) == 0) = false := beq_eq_false_iff_ne.mpr (by have := HKP.out; omega)
                          have q7 : (s1.size == 0) = false := beq_eq_false_iff_ne.mpr (by have := HKP.out; omega)
                          obtain ⟨s2, hs2⟩ : ∃ s2, s2 = s1.extract k s1.size := ⟨_, rfl⟩
                          have ks2 : ∀ W : World, (Instr.slice 9 (.string s1) (some (.int .i64 (k : Int))) none none).run Tryd.prog W = .ok (.string s2) W := by rw [hs2]; exact slice_fromI s1 k hs1k
                          have bs2 : bytesOf s2 = enc c2 := by rw [hs2, bytes_from, hs1w, HKX.out, List.drop_left' rfl]
                          have hs2z : s2.size + k = s1.size := by rw [hs2, ByteArray.size_extract]; omega
                          have hs1m : s1.size ≤ sm.size := by obtain ⟨z, hz⟩ := hcx; rw [HSM.out, hz, enc_append, ← hs1l, hs1, List.length_append]; omega
                          have hp1m : p1.size ≤ sp.size := by have h1 := HQ.out; obtain ⟨z, hz⟩ := htx; rw [HSP.out, ← hp1l, hp1]; rw [hz, pat_append] at h1; simp only [List.length_cons, List.length_append] at h1 ⊢; omega
                          have hms : p1.size + s2.size < sp.size + sm.size := by have := HKP.out; omega
                          have fin : Hid (∀ W, Below w.heap.size w W → MtJ w W cs ts (p1.size + s2.size) (.string s2) (.string p1)) := Lib.hid (fun W hb => ⟨s2, p1, c2, .star :: (u2 :: r2), rfl, rfl, bs2, hp1, rfl, by omega, hp1z, fun c hc => okc2 c (List.mem_cons_of_mem _ hc), (fun q hq => by rcases List.mem_cons.1 hq with rfl | hq; exact trivial; exact okt2 q hq), by simp only [List.length_cons] at hl2 ⊢; omega, by rw [HF2.out, fit, hf2, Bool.false_or], hb⟩)
                          clear hs1 hp1 hcx htx hp1l hs1l hp2 bp2 okc2 okt2 hl2 hf2 hs1w hs1k hs2 bs2 hs2z hs1m hp1m
                          go_wp2_with (first | (go_at_call 56; refine (RC.out _ HT4.out).mono ?_; rintro e w5 ⟨rfl, hb5⟩; replace HB4 := Lib.hid (below_then HB4.out HB4.out.size hb5); clear hb5))
                          go_roundg (p1.size + s2.size)
                          case rel => exact Lib.hid (fin.out _ HB4.out)
                          case measure => exact hms
theorem match_any : ∀ n, MtC n
  | 0 => fun ts h => by omega
  | n + 1 => fun ts h cs s p w hcs hts hs hp hsz hpz hT => match_step ts (fun us hu => match_any n us (by omega)) cs s p w hcs hts hs hp hsz hpz hT
end Go.Proofs.YtjpbjbcdobibbaaDoor.J

