/- Orders: the plain law of Result.Less, of no program. -/
import Derived.Test.YtbpiooeklkjilaaDoorZAid
set_option linter.unusedVariables false
namespace Go.Proofs.YtbpiooeklkjilaaDoor.LessPure
open Go.RowKit Go.Proofs.YtbpiooeklkjilaaDoorW.PrintWords

/-- A strict weak order. -/
structure SWO {α : Type} (lt : α → α → Bool) : Prop where
  irr : ∀ a, lt a a = false
  tr : ∀ a b c, lt a b = true → lt b c = true → lt a c = true
  inc : ∀ a b c, lt a b = false → lt b a = false → lt a c = lt b c ∧ lt c a = lt c b

theorem SWO.comap {α β : Type} {lt : β → β → Bool} (h : SWO lt) (f : α → β) : SWO (fun a b => lt (f a) (f b)) :=
  ⟨fun a => h.irr _, fun a b c => h.tr _ _ _, fun a b c => h.inc _ _ _⟩
theorem SWO.asym {α : Type} {lt : α → α → Bool} (h : SWO lt) (a b : α) (h1 : lt a b = true) : lt b a = false := by
  cases e : lt b a with
  | false => rfl
  | true => have := h.tr a b a h1 e; rw [h.irr] at this; cases this

def lex : List Int → List Int → Bool
  | _, [] => false
  | [], _ :: _ => true
  | a :: x, b :: y => decide (a < b) || (a == b && lex x y)

theorem lex_total : ∀ a b : List Int, lex a b = false → lex b a = false → a = b
  | [], [], _, _ => rfl
  | [], _ :: _, h, _ => by simp [lex] at h
  | _ :: _, [], _, h => by simp [lex] at h
  | a :: x, b :: y, h1, h2 => by
    simp only [lex, Bool.or_eq_false_iff, decide_eq_false_iff_not, Bool.and_eq_false_iff, beq_eq_false_iff_ne] at h1 h2
    have e : a = b := by omega
    subst e
    rw [lex_total x y (by simpa using h1.2) (by simpa using h2.2)]
theorem lex_irr : ∀ a : List Int, lex a a = false
  | [] => rfl
  | a :: x => by simp [lex, lex_irr x]
theorem lex_tr : ∀ a b c : List Int, lex a b = true → lex b c = true → lex a c = true
  | _, _, [], _, h => by simp [lex] at h
  | _, [], _ :: _, h, _ => by simp [lex] at h
  | [], _ :: _, _ :: _, _, _ => by simp [lex]
  | a :: x, b :: y, c :: z, h1, h2 => by
    simp only [lex, Bool.or_eq_true, decide_eq_true_eq, Bool.and_eq_true, beq_iff_eq] at h1 h2 ⊢
    rcases h1 with h1 | ⟨rfl, h1⟩ <;> rcases h2 with h2 | ⟨rfl, h2⟩
    · left; omega
    · left; omega
    · left; omega
    · right; exact ⟨rfl, lex_tr x y z h1 h2⟩
theorem lex_swo : SWO lex := ⟨lex_irr, lex_tr, fun a b c h1 h2 => by rw [lex_total a b h1 h2]; exact ⟨rfl, rfl⟩⟩

theorem bytesLess_lex (x y : List UInt8) : Op.bytesLess x y = lex (x.map fun c => (c.toNat : Int)) (y.map fun c => (c.toNat : Int)) := by
  induction x generalizing y with
  | nil => cases y <;> rfl
  | cons a x ih =>
    cases y with
    | nil => rfl
    | cons b y =>
      simp only [Op.bytesLess, List.map_cons, lex]
      rw [ih y]
      have e1 : decide (a < b) = decide ((a.toNat : Int) < b.toNat) := by
        apply decide_eq_decide.mpr
        rw [UInt8.lt_iff_toNat_lt]; omega
      have e2 : (a == b) = ((a.toNat : Int) == b.toNat) := by
        rw [Bool.eq_iff_iff]
        simp only [beq_iff_eq]
        constructor
        · rintro rfl; rfl
        · intro h; exact UInt8.toNat_inj.1 (by omega)
      rw [e1, e2]
theorem bytesLess_swo : SWO (fun a b : ByteArray => Op.bytesLess a.toList b.toList) := by
  have h := lex_swo.comap (fun a : ByteArray => a.toList.map fun c => (c.toNat : Int))
  have e : (fun a b : ByteArray => Op.bytesLess a.toList b.toList) = fun a b : ByteArray => lex (a.toList.map fun c => (c.toNat : Int)) (b.toList.map fun c => (c.toNat : Int)) := by
    funext a b; exact bytesLess_lex _ _
  rw [e]; exact h

def fkey : Ieee.Datum → List Int
  | .infinity true => [-1, 0]
  | .infinity false => [1, 0]
  | .number s m i => [0, Ieee.signed s m (i + 1074).toNat]
  | .nan _ _ => [5]
def dNaN : Ieee.Datum → Prop | .nan .. => True | _ => False
def fits : Ieee.Datum → Prop | .number _ _ i => -1074 ≤ i | _ => True
theorem signed_scale (s : Bool) (m a b : Nat) (h : b ≤ a) : Ieee.signed s m a = Ieee.signed s m (a - b) * (2 ^ b : Nat) := by
  unfold Ieee.signed
  have e : m <<< a = (m <<< (a - b)) * 2 ^ b := by
    rw [Nat.shiftLeft_eq, Nat.shiftLeft_eq, Nat.mul_assoc, ← Nat.pow_add]
    congr 2; omega
  cases s <;> simp [e, Int.neg_mul]
theorem read_fits (x : Nat) : fits (Ieee.double.read x) := by
  unfold Ieee.Format.read
  have e : Ieee.double.leastPlace = -1074 := by decide
  simp only [e]
  split
  · simp [fits]
  · split
    · simp only [fits]; omega
    · split <;> simp [fits]
theorem compare_lt (a b : Int) : (some (compare a b) == some Ordering.lt) = decide (a < b) := by
  rw [Bool.eq_iff_iff]
  simp only [beq_iff_eq, Option.some.injEq, decide_eq_true_eq]
  exact Int.compare_eq_lt
theorem order_key (d e : Ieee.Datum) (hd : fits d) (he : fits e) (nd : ¬ dNaN d) (ne : ¬ dNaN e) : (d.order e == some .lt) = lex (fkey d) (fkey e) := by
  cases d with
  | nan => exact absurd trivial nd
  | infinity s =>
    cases e with
    | nan => exact absurd trivial ne
    | infinity t => cases s <;> cases t <;> decide
    | number t n j => cases s <;> simp [Ieee.Datum.order, fkey, lex]
  | number s m i =>
    cases e with
    | nan => exact absurd trivial ne
    | infinity t => cases t <;> simp [Ieee.Datum.order, fkey, lex]
    | number t n j =>
      simp only [Ieee.Datum.order, fkey, lex, compare_lt]
      simp only [fits] at hd he
      have e1 : Ieee.signed s m (i + 1074).toNat = Ieee.signed s m (i - min i j).toNat * (2 ^ (min i j + 1074).toNat : Nat) := by
        rw [signed_scale s m _ (min i j + 1074).toNat (by omega)]
        congr 2; omega
      have e2 : Ieee.signed t n (j + 1074).toNat = Ieee.signed t n (j - min i j).toNat * (2 ^ (min i j + 1074).toNat : Nat) := by
        rw [signed_scale t n _ (min i j + 1074).toNat (by omega)]
        congr 2; omega
      have hp : (0 : Int) < (2 ^ (min i j + 1074).toNat : Nat) := by have := Nat.two_pow_pos (min i j + 1074).toNat; omega
      rw [e1, e2]
      simp only [Int.lt_irrefl, decide_false, Bool.false_or, beq_self_eq_true, Bool.true_and, Bool.and_false, Bool.or_false]
      apply decide_eq_decide.mpr
      constructor
      · intro h; exact Int.mul_lt_mul_of_pos_right h hp
      · intro h; exact Int.lt_of_mul_lt_mul_right h (by omega)
def nonNaN (x : Nat) : Prop := ¬ dNaN (Ieee.double.read x)
theorem flt_key (x y : Nat) (hx : nonNaN x) (hy : nonNaN y) : (FloatKind.f64.format.order x y == some .lt) = lex (fkey (Ieee.double.read x)) (fkey (Ieee.double.read y)) :=
  order_key _ _ (read_fits x) (read_fits y) hx hy

structure R where
  k : Int
  raw : ByteArray
  str : ByteArray
  num : Nat
def fold (c : Int) : Int := if 65 ≤ c ∧ c ≤ 90 then c + 32 else c
def small (s : ByteArray) : List Int := (bytesOf s).map fold
def lessR (cased : Bool) (a b : R) : Bool :=
  if a.k < b.k then true else if b.k < a.k then false else
  if a.k = 3 then (if cased = true then Op.bytesLess a.str.toList b.str.toList else lex (small a.str) (small b.str)) else
  if a.k = 2 then FloatKind.f64.format.order a.num b.num == some .lt else Op.bytesLess a.raw.toList b.raw.toList
/-- Whatever decides among those of one kind, decided by a strict weak order: so is the whole. -/
theorem kinds_swo {α : Type} (k : α → Int) (lt : Int → α → α → Bool) (h : ∀ n, SWO (lt n)) : SWO (fun a b => if k a < k b then true else if k b < k a then false else lt (k a) a b) := by
  refine ⟨fun a => ?_, fun a b c h1 h2 => ?_, fun a b c h1 h2 => ?_⟩
  · simp [(h (k a)).irr a]
  · by_cases c1 : k a < k b
    · by_cases c2 : k b < k c
      · rw [if_pos (by omega)]
      · rw [if_neg c2] at h2
        by_cases c3 : k c < k b
        · rw [if_pos c3] at h2; cases h2
        · rw [if_pos (by omega)]
    · rw [if_neg c1] at h1
      by_cases c2 : k b < k a
      · rw [if_pos c2] at h1; cases h1
      · rw [if_neg c2] at h1
        have e : k a = k b := by omega
        by_cases c2 : k b < k c
        · rw [if_pos (by omega)]
        · rw [if_neg c2] at h2
          by_cases c3 : k c < k b
          · rw [if_pos c3] at h2; cases h2
          · rw [if_neg c3] at h2
            rw [if_neg (by omega), if_neg (by omega)]
            rw [← e] at h2
            exact (h (k a)).tr a b c h1 h2
  · by_cases c1 : k a < k b
    · rw [if_pos c1] at h1; cases h1
    rw [if_neg c1] at h1
    by_cases c2 : k b < k a
    · rw [if_pos c2] at h2; cases h2
    rw [if_neg c2] at h1
    rw [if_neg c2, if_neg c1] at h2
    have e : k a = k b := by omega
    rw [← e] at h2
    obtain ⟨i1, i2⟩ := (h (k a)).inc a b c h1 h2
    rw [← e]
    refine ⟨by rw [i1], ?_⟩
    by_cases c3 : k c < k a
    · rw [if_pos c3, if_pos c3]
    rw [if_neg c3, if_neg c3]
    by_cases c4 : k a < k c
    · rw [if_pos c4, if_pos c4]
    rw [if_neg c4, if_neg c4]
    have e3 : k c = k a := by omega
    rw [e3, i2]
def N := { r : R // nonNaN r.num }
theorem lessR_swo (cased : Bool) : SWO (fun a b : N => lessR cased a.1 b.1) := by
  have hf : SWO (fun a b : N => FloatKind.f64.format.order a.1.num b.1.num == some .lt) := by
    have h := lex_swo.comap (fun a : N => fkey (Ieee.double.read a.1.num))
    have e : (fun a b : N => FloatKind.f64.format.order a.1.num b.1.num == some .lt) = fun a b : N => lex (fkey (Ieee.double.read a.1.num)) (fkey (Ieee.double.read b.1.num)) := by
      funext a b; exact flt_key _ _ a.2 b.2
    rw [e]; exact h
  have h := kinds_swo (fun a : N => a.1.k) (fun n a b => if n = 3 then (if cased = true then Op.bytesLess a.1.str.toList b.1.str.toList else lex (small a.1.str) (small b.1.str)) else
    if n = 2 then FloatKind.f64.format.order a.1.num b.1.num == some .lt else Op.bytesLess a.1.raw.toList b.1.raw.toList) (by
      intro n
      by_cases h3 : n = 3
      · simp only [h3, if_true]
        cases cased with
        | true => simp only [if_true]; exact bytesLess_swo.comap (fun a : N => a.1.str)
        | false => exact lex_swo.comap (fun a : N => small a.1.str)
      · simp only [h3, if_false]
        by_cases h2 : n = 2
        · simp only [h2, if_true]; exact hf
        · simp only [h2, if_false]; exact bytesLess_swo.comap (fun a : N => a.1.raw))
  exact h
/-- What the law asks of three Results. -/
theorem three (cased : Bool) (a b c : R) (ha : nonNaN a.num) (hb : nonNaN b.num) (hc : nonNaN c.num) :
    lessR cased a a = false ∧ (lessR cased a b = true → lessR cased b a = false) ∧ (lessR cased a b = true → lessR cased b c = true → lessR cased a c = true) ∧
    (lessR cased a b = false → lessR cased b a = false → lessR cased a c = lessR cased b c ∧ lessR cased c a = lessR cased c b) := by
  have h := lessR_swo cased
  exact ⟨h.irr ⟨a, ha⟩, h.asym ⟨a, ha⟩ ⟨b, hb⟩, h.tr ⟨a, ha⟩ ⟨b, hb⟩ ⟨c, hc⟩, h.inc ⟨a, ha⟩ ⟨b, hb⟩ ⟨c, hc⟩⟩
end Go.Proofs.YtbpiooeklkjilaaDoor.LessPure
