/- The reader of JSON texts on lists of bytes: what it reads, of no program. -/
import Derived.Test.YtbpiooeklkjilaaDoorZAid
set_option linter.unusedVariables false
namespace Go.Proofs.YtbpiooeklkjilaaDoor.J
abbrev L := List Int

def blank (c : Int) : Bool := c == 32 || c == 9 || c == 10 || c == 13
def skip : L → L
  | [] => []
  | c :: t => if blank c = true then skip t else c :: t
/-- The byte that stands here, 0 at the end. -/
def hd : L → Int
  | [] => 0
  | c :: _ => c
def dig (c : Int) : Bool := decide (48 ≤ c) && decide (c ≤ 57)
def digs : L → L
  | [] => []
  | c :: t => if dig c = true then digs t else c :: t
def digits : L → Option L
  | [] => none
  | c :: t => if dig c = true then some (digs t) else none
def take (c : Int) : L → Option L
  | [] => none
  | d :: t => if d = c then some t else none
def opt (c : Int) (l : L) : L := (take c l).getD l
def expTail (t : L) : Option L := match take 43 t with
  | some u => digits u
  | none => digits (opt 45 t)
def expo (l : L) : Option L := match take 101 l with
  | some t => expTail t
  | none => match take 69 l with
    | some t => expTail t
    | none => some l
def frac (l : L) : Option L := match take 46 l with
  | some t => (digits t).bind expo
  | none => expo l
def whole (l : L) : Option L := match take 48 l with
  | some t => some t
  | none => digits l
def num (l : L) : Option L := (whole (opt 45 l)).bind frac
def hex (c : Int) : Bool := dig c || (decide (97 ≤ c) && decide (c ≤ 102)) || (decide (65 ≤ c) && decide (c ≤ 70))
def hexes : Nat → L → Option L
  | 0, l => some l
  | _ + 1, [] => none
  | n + 1, c :: t => if hex c = true then hexes n t else none
def plainEsc (c : Int) : Bool := c == 34 || c == 92 || c == 47 || c == 98 || c == 102 || c == 110 || c == 114 || c == 116
def esc : L → Option L
  | [] => none
  | c :: t => if plainEsc c = true then some t else if c = 117 then hexes 4 t else none

theorem hexes_lt : ∀ n l r, hexes n l = some r → r.length + n = l.length
  | 0, l, r, h => by simp only [hexes, Option.some.injEq] at h; subst h; rfl
  | n + 1, [], r, h => by simp [hexes] at h
  | n + 1, c :: t, r, h => by
    simp only [hexes] at h
    split at h
    · have := hexes_lt n t r h
      simp only [List.length_cons]; omega
    · cases h
theorem esc_lt {l r : L} (h : esc l = some r) : r.length < l.length := by
  cases l with
  | nil => simp [esc] at h
  | cons c t =>
    simp only [esc] at h
    split at h
    · injection h with h; subst h; simp
    · split at h
      · have := hexes_lt 4 t r h
        simp only [List.length_cons]; omega
      · cases h

/-- What stands behind a string whose first mark is read. -/
def str (l : L) : Option L :=
  match l with
  | [] => none
  | c :: t => if c = 34 then some t else if c < 32 then none else if c = 92 then (match h : esc t with
      | some r => str r
      | none => none) else str t
termination_by l.length
decreasing_by
  · have := esc_lt h; simp only [List.length_cons]; omega
  · simp

def word (w l : L) : Option L := if w.isPrefixOf l = true then some (l.drop w.length) else none

structure Sp where
  b : Int
  e : Int
structure Pl where
  kind : Int
  b : Int
  e : Int
  names : List Sp
  kids : List Pl
/-- Where a rest begins. -/
def pos (N : Nat) (l : L) : Int := (N : Int) - l.length

def elems (v : L → Option (Pl × L)) : Nat → L → List Pl → Option (List Pl × L)
  | 0, _, _ => none
  | m + 1, l, acc => (v l).bind fun x => match take 93 (skip x.2) with
    | some t => some (acc ++ [x.1], t)
    | none => (take 44 (skip x.2)).bind fun t => elems v m (skip t) (acc ++ [x.1])
def mems (N : Nat) (v : L → Option (Pl × L)) : Nat → L → List Sp → List Pl → Option ((List Sp × List Pl) × L)
  | 0, _, _, _ => none
  | m + 1, l, ns, ks => (take 34 l).bind fun t => (str t).bind fun l1 => (take 58 (skip l1)).bind fun l2 => (v (skip l2)).bind fun x =>
    match take 125 (skip x.2) with
    | some t => some ((ns ++ [⟨pos N l, pos N l1⟩], ks ++ [x.1]), t)
    | none => (take 44 (skip x.2)).bind fun t => mems N v m (skip t) (ns ++ [⟨pos N l, pos N l1⟩]) (ks ++ [x.1])
/-- An array behind its bracket; an object behind its brace. -/
def arr (v : L → Option (Pl × L)) (t : L) : Option (List Pl × L) := match take 93 (skip t) with
  | some t' => some ([], t')
  | none => elems v (t.length + 1) (skip t) []
def obj (N : Nat) (v : L → Option (Pl × L)) (t : L) : Option ((List Sp × List Pl) × L) := match take 125 (skip t) with
  | some t' => some (([], []), t')
  | none => mems N v (t.length + 1) (skip t) [] []
def nullW : L := [110, 117, 108, 108]
def falseW : L := [102, 97, 108, 115, 101]
def trueW : L := [116, 114, 117, 101]
def val (N : Nat) : Nat → L → Option (Pl × L)
  | 0, _ => none
  | _ + 1, [] => none
  | n + 1, c :: t =>
    if c = 123 then (obj N (val N n) t).map fun x => (⟨6, pos N (c :: t), pos N x.2, x.1.1, x.1.2⟩, x.2)
    else if c = 91 then (arr (val N n) t).map fun x => (⟨5, pos N (c :: t), pos N x.2, [], x.1⟩, x.2)
    else if c = 34 then (str t).map fun r => (⟨4, pos N (c :: t), pos N r, [], []⟩, r)
    else if c = 45 ∨ dig c = true then (num (c :: t)).map fun r => (⟨3, pos N (c :: t), pos N r, [], []⟩, r)
    else match word nullW (c :: t) with
      | some r => some (⟨0, pos N (c :: t), pos N r, [], []⟩, r)
      | none => match word falseW (c :: t) with
        | some r => some (⟨1, pos N (c :: t), pos N r, [], []⟩, r)
        | none => match word trueW (c :: t) with
          | some r => some (⟨2, pos N (c :: t), pos N r, [], []⟩, r)
          | none => none
/-- The value of a text with blanks around it. -/
def text (l : L) : Option Pl := (val l.length (l.length + 1) (skip l)).bind fun x => if skip x.2 = [] then some x.1 else none

end Go.Proofs.YtbpiooeklkjilaaDoor.J
