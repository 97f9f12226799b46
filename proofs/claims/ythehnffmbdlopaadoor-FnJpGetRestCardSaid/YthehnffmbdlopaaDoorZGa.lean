/- Several texts in one. -/
import Derived.Test.YthehnffmbdlopaaDoorZWMore
import Derived.Lib.Hide
import Derived.LoopTactic
import Derived.Test.YthehnffmbdlopaaDoorProg
import Derived.BigQuiet
import Derived.Deep.LoopGhost
import Derived.Deep.DeepCutAuto
import Derived.IntWalk
namespace Go.Proofs.YthehnffmbdlopaaDoor.Aid
open Go.RowKit Go.Proofs.YthehnffmbdlopaaDoorW.PrintWords

theorem ret_int {k : IntKind} {a b : Int} (h : a = b) : Ending.returned (.int k a) = .returned (.int k b) := by rw [h]
theorem ret_bool {a b : Bool} (h : a = b) : Ending.returned (.bool a) = .returned (.bool b) := by rw [h]

theorem ba_ext {a b : ByteArray} (h : a.data.toList = b.data.toList) : a = b := by
  cases a with | mk a => cases b with | mk b => cases a with | mk a => cases b with | mk b => simp at h; rw [h]
theorem str_of_bytes (s : ByteArray) : strOfNums (bytesOf s) = s := by
  apply ba_ext
  simp only [strOfNums, bytesOf, List.map_map]
  conv => rhs; rw [← List.map_id s.data.toList]
  apply List.map_congr_left
  intro x _
  simp
theorem bytes_of_str (xs : List Int) (h : ∀ x ∈ xs, 0 ≤ x ∧ x < 256) : bytesOf (strOfNums xs) = xs := by
  simp only [strOfNums, bytesOf, List.map_map]
  conv => rhs; rw [← List.map_id xs]
  apply List.map_congr_left
  intro x hx
  have := h x hx
  simp [UInt8.toNat_ofNat']
  omega
theorem bytesOf_append (a b : ByteArray) : bytesOf (a ++ b) = bytesOf a ++ bytesOf b := by
  simp [bytesOf, ByteArray.data_append]
theorem bytesOf_extract (s : ByteArray) (a b : Nat) : bytesOf (s.extract a b) = ((bytesOf s).drop a).take (b - a) := by
  simp only [bytesOf, ByteArray.data_extract, Array.toList_extract, List.map_take, List.map_drop, List.extract_eq_take_drop]
theorem bytesOf_range (s : ByteArray) : ∀ x ∈ bytesOf s, 0 ≤ x ∧ x < 256 := by
  intro x hx
  simp only [bytesOf, List.mem_map] at hx
  obtain ⟨b, _, rfl⟩ := hx
  have := b.toNat_lt
  omega
theorem bytesOf_getD (s : ByteArray) (i : Nat) : (bytesOf s).getD i 0 = bt s i := by
  have := rd_bytesOf s i
  rwa [rd, Int.toNat_natCast] at this
theorem bytesOf_get? (s : ByteArray) (i : Nat) (h : i < s.size) : (bytesOf s)[i]? = some (bt s i) := by
  have h' : i < (bytesOf s).length := by rw [bytesOf_length]; exact h
  have := bytesOf_getD s i
  rw [List.getElem?_eq_getElem h']
  rw [List.getD_eq_getElem?_getD, List.getElem?_eq_getElem h'] at this
  simpa using this
/-- The cells of '[]byte(s)'. -/
theorem bytes_cells (W : World) (e : TypeId) (s : ByteArray) : ∀ j, j < s.size → (Lib.bytesWorld W e s).cell? ⟨W.heap.size, j, none⟩ = some (.int .u8 ((bytesOf s).getD j 0)) := by
  intro j hj
  rw [Lib.bytesWorld_cell W e s j hj, bytesOf_getD, ← bt_at s j (by simpa using hj)]
  have h' : j < s.data.toList.length := by rw [data_length]; exact hj
  simp [List.getD_eq_getElem?_getD, List.getElem?_eq_getElem h']
  rfl
end Go.Proofs.YthehnffmbdlopaaDoor.Aid

set_option linter.unusedVariables false
namespace Go.Proofs.YthehnffmbdlopaaDoor.J
abbrev L := List Int

def blank (c : Int) : Bool := c == 32 || c == 9 || c == 10 || c == 13
def skip : L → L
  | [] => []
  | c :: t => if blank c = true then skip t else c :: t
/-- The byte that stands here, 0 at the end. -/
def hd : L → Int
  | [] => 0
  | c :: _ => c
def dig (c : Int) : Bool := decide (48 ≤ c) && decide (c ≤ 57)
def digs : L → L
  | [] => []
  | c :: t => if dig c = true then digs t else c :: t
def digits : L → Option L
  | [] => none
  | c :: t => if dig c = true then some (digs t) else none
def take (c : Int) : L → Option L
  | [] => none
  | d :: t => if d = c then some t else none
def opt (c : Int) (l : L) : L := (take c l).getD l
def expTail (t : L) : Option L := match take 43 t with
  | some u => digits u
  | none => digits (opt 45 t)
def expo (l : L) : Option L := match take 101 l with
  | some t => expTail t
  | none => match take 69 l with
    | some t => expTail t
    | none => some l
def frac (l : L) : Option L := match take 46 l with
  | some t => (digits t).bind expo
  | none => expo l
def whole (l : L) : Option L := match take 48 l with
  | some t => some t
  | none => digits l
def num (l : L) : Option L := (whole (opt 45 l)).bind frac
def hex (c : Int) : Bool := dig c || (decide (97 ≤ c) && decide (c ≤ 102)) || (decide (65 ≤ c) && decide (c ≤ 70))
def hexes : Nat → L → Option L
  | 0, l => some l
  | _ + 1, [] => none
  | n + 1, c :: t => if hex c = true then hexes n t else none
def plainEsc (c : Int) : Bool := c == 34 || c == 92 || c == 47 || c == 98 || c == 102 || c == 110 || c == 114 || c == 116
def esc : L → Option L
  | [] => none
  | c :: t => if plainEsc c = true then some t else if c = 117 then hexes 4 t else none

theorem hexes_lt : ∀ n l r, hexes n l = some r → r.length + n = l.length
  | 0, l, r, h => by simp only [hexes, Option.some.injEq] at h; subst h; rfl
  | n + 1, [], r, h => by simp [hexes] at h
  | n + 1, c :: t, r, h => by
    simp only [hexes] at h
    split at h
    · have := hexes_lt n t r h
      simp only [List.length_cons]; omega
    · cases h
theorem esc_lt {l r : L} (h : esc l = some r) : r.length < l.length := by
  cases l with
  | nil => simp [esc] at h
  | cons c t =>
    simp only [esc] at h
    split at h
    · injection h with h; subst h; simp
    · split at h
      · have := hexes_lt 4 t r h
        simp only [List.length_cons]; omega
      · cases h

/-- What stands behind a string whose first mark is read. -/
def str (l : L) : Option L :=
  match l with
  | [] => none
  | c :: t => if c = 34 then some t else if c < 32 then none else if c = 92 then (match h : esc t with
      | some r => str r
      | none => none) else str t
termination_by l.length
decreasing_by
  · have := esc_lt h; simp only [List.length_cons]; omega
  · simp

theorem str_nil : str [] = none := by rw [str]
theorem str_cons (c : Int) (t : L) : str (c :: t) = if c = 34 then some t else if c < 32 then none else if c = 92 then (esc t).bind str else str t := by
  rw [str]
  split
  · rfl
  split
  · rfl
  split
  · split <;> simp [*]
  · rfl

def word (w l : L) : Option L := if w.isPrefixOf l = true then some (l.drop w.length) else none

structure Sp where
  b : Int
  e : Int
structure Pl where
  kind : Int
  b : Int
  e : Int
  names : List Sp
  kids : List Pl
/-- Where a rest begins. -/
def pos (N : Nat) (l : L) : Int := (N : Int) - l.length

def elems (v : L → Option (Pl × L)) : Nat → L → List Pl → Option (List Pl × L)
  | 0, _, _ => none
  | m + 1, l, acc => (v l).bind fun x => match take 93 (skip x.2) with
    | some t => some (acc ++ [x.1], t)
    | none => (take 44 (skip x.2)).bind fun t => elems v m (skip t) (acc ++ [x.1])
def mems (N : Nat) (v : L → Option (Pl × L)) : Nat → L → List Sp → List Pl → Option ((List Sp × List Pl) × L)
  | 0, _, _, _ => none
  | m + 1, l, ns, ks => (take 34 l).bind fun t => (str t).bind fun l1 => (take 58 (skip l1)).bind fun l2 => (v (skip l2)).bind fun x =>
    match take 125 (skip x.2) with
    | some t => some ((ns ++ [⟨pos N l, pos N l1⟩], ks ++ [x.1]), t)
    | none => (take 44 (skip x.2)).bind fun t => mems N v m (skip t) (ns ++ [⟨pos N l, pos N l1⟩]) (ks ++ [x.1])
/-- An array behind its bracket; an object behind its brace. -/
def arr (v : L → Option (Pl × L)) (t : L) : Option (List Pl × L) := match take 93 (skip t) with
  | some t' => some ([], t')
  | none => elems v (t.length + 1) (skip t) []
def obj (N : Nat) (v : L → Option (Pl × L)) (t : L) : Option ((List Sp × List Pl) × L) := match take 125 (skip t) with
  | some t' => some (([], []), t')
  | none => mems N v (t.length + 1) (skip t) [] []
def nullW : L := [110, 117, 108, 108]
def falseW : L := [102, 97, 108, 115, 101]
def trueW : L := [116, 114, 117, 101]
def val (N : Nat) : Nat → L → Option (Pl × L)
  | 0, _ => none
  | _ + 1, [] => none
  | n + 1, c :: t =>
    if c = 123 then (obj N (val N n) t).map fun x => (⟨6, pos N (c :: t), pos N x.2, x.1.1, x.1.2⟩, x.2)
    else if c = 91 then (arr (val N n) t).map fun x => (⟨5, pos N (c :: t), pos N x.2, [], x.1⟩, x.2)
    else if c = 34 then (str t).map fun r => (⟨4, pos N (c :: t), pos N r, [], []⟩, r)
    else if c = 45 ∨ dig c = true then (num (c :: t)).map fun r => (⟨3, pos N (c :: t), pos N r, [], []⟩, r)
    else match word nullW (c :: t) with
      | some r => some (⟨0, pos N (c :: t), pos N r, [], []⟩, r)
      | none => match word falseW (c :: t) with
        | some r => some (⟨1, pos N (c :: t), pos N r, [], []⟩, r)
        | none => match word trueW (c :: t) with
          | some r => some (⟨2, pos N (c :: t), pos N r, [], []⟩, r)
          | none => none
/-- The value of a text with blanks around it. -/
def text (l : L) : Option Pl := (val l.length (l.length + 1) (skip l)).bind fun x => if skip x.2 = [] then some x.1 else none

theorem skip_le : ∀ l : L, (skip l).length ≤ l.length
  | [] => Nat.le_refl _
  | c :: t => by
    simp only [skip]
    split
    · have := skip_le t; simp only [List.length_cons]; omega
    · exact Nat.le_refl _
theorem digs_le : ∀ l : L, (digs l).length ≤ l.length
  | [] => Nat.le_refl _
  | c :: t => by
    simp only [digs]
    split
    · have := digs_le t; simp only [List.length_cons]; omega
    · exact Nat.le_refl _
theorem take_some {c : Int} {l t : L} (h : take c l = some t) : l = c :: t := by
  cases l with
  | nil => simp [take] at h
  | cons d r =>
    simp only [take] at h
    split at h
    · rename_i e; injection h with h; rw [e, h]
    · cases h
theorem take_lt {c : Int} {l t : L} (h : take c l = some t) : t.length + 1 = l.length := by rw [take_some h]; rfl
theorem digits_lt {l t : L} (h : digits l = some t) : t.length < l.length := by
  cases l with
  | nil => simp [digits] at h
  | cons d r =>
    simp only [digits] at h
    split at h
    · injection h with h; subst h; have := digs_le r; simp only [List.length_cons]; omega
    · cases h
theorem str_lt : ∀ (n : Nat) (l r : L), l.length = n → str l = some r → r.length < l.length := by
  intro n
  induction n using Nat.strongRecOn with
  | _ n ih =>
    intro l r hn h
    cases l with
    | nil => rw [str_nil] at h; cases h
    | cons c t =>
      rw [str_cons] at h
      split at h
      · injection h with h; subst h; simp
      split at h
      · cases h
      split at h
      · obtain ⟨u, hu, h⟩ := Option.bind_eq_some_iff.1 h
        have h1 := esc_lt hu
        have h2 := ih u.length (by simp only [List.length_cons] at hn; omega) u r rfl h
        simp only [List.length_cons]; omega
      · have h2 := ih t.length (by simp only [List.length_cons] at hn; omega) t r rfl h
        simp only [List.length_cons]; omega
theorem str_lt' {l r : L} (h : str l = some r) : r.length < l.length := str_lt _ l r rfl h
end Go.Proofs.YthehnffmbdlopaaDoor.J

set_option linter.unusedVariables false
set_option linter.unusedSimpArgs false
namespace Go.Proofs.YthehnffmbdlopaaDoor.J
open Go.RowKit Go.Proofs.YthehnffmbdlopaaDoorW.PrintWords Go.Proofs.YthehnffmbdlopaaDoorW.PrintLast Go.Proofs.YthehnffmbdlopaaDoorW.PrintMore Go.Proofs.YthehnffmbdlopaaDoor.Aid
abbrev tSp : Nat := 43
abbrev tPl : Nat := 27
abbrev tRd : Nat := 80

def kSp : Kd Sp := Kd.iso (Kd.pair (Kd.int .i64) (Kd.int .i64)) (fun x : Sp => (x.b, x.e))
theorem kSp_open {w : World} {x : Sp} {cs : List Value} (h : kSp.K w x cs) : cs = [.int .i64 x.b, .int .i64 x.e] := by
  obtain ⟨_, _, rfl, rfl, rfl⟩ := h
  exact rfl
theorem kSp_mkM (w : World) (base : Nat) (ok : Nat → Prop) (x : Sp) : kSp.M w base ok x [.int .i64 x.b, .int .i64 x.e] := ⟨[.int .i64 x.b], [.int .i64 x.e], rfl, rfl, rfl⟩
def zSp : Sp := ⟨0, 0⟩
def FPl (d : Kd Pl) : Kd Pl := Kd.iso (Kd.pair (Kd.int .i64) (Kd.pair (Kd.int .i64) (Kd.pair (Kd.int .i64) (Kd.pair (Kd.slice tSp kSp) (Kd.slice tPl d))))) (fun x : Pl => (x.kind, x.b, x.e, x.names, x.kids))
theorem monoPl : Kd.Mono FPl := Kd.mono_iso _ (Kd.mono_pair (Kd.mono_const _) (Kd.mono_pair (Kd.mono_const _) (Kd.mono_pair (Kd.mono_const _) (Kd.mono_pair (Kd.mono_const _) (Kd.mono_slice tPl Kd.mono_id)))))
theorem subPl : Kd.Sub FPl [tPl, tSp] := Kd.sub_iso _ (Kd.sub_pair (Kd.sub_const _ (by decide)) (Kd.sub_pair (Kd.sub_const _ (by decide)) (Kd.sub_pair (Kd.sub_const _ (by decide)) (Kd.sub_pair (Kd.sub_const _ (by decide)) (Kd.sub_slice tPl (by decide) Kd.sub_id)))))
theorem szPl : ∀ n, (Kd.upto FPl 5 [tPl, tSp] n).sz = 5 := Kd.upto_sz (fun _ => rfl)
def kPl : Kd Pl := Kd.fix FPl 5 [tPl, tSp] szPl (Kd.upto_E subPl)
theorem kPl_mkM (w : World) (base : Nat) (ok : Nat → Prop) (x : Pl) {v3 : Value} (g3 : kSp.R tSp w base ok v3 x.names) {v4 : Value} (g4 : kPl.R tPl w base ok v4 x.kids) : kPl.M w base ok x [.int .i64 x.kind, .int .i64 x.b, .int .i64 x.e, v3, v4] := by
  obtain ⟨n4, q4⟩ := Kd.fix_R_back monoPl g4
  have r4 := Kd.upto_R_le monoPl szPl (show n4 ≤ n4 by omega) q4
  exact ⟨n4 + 1, ⟨[.int .i64 x.kind], [.int .i64 x.b, .int .i64 x.e, v3, v4], rfl, rfl, ⟨[.int .i64 x.b], [.int .i64 x.e, v3, v4], rfl, rfl, ⟨[.int .i64 x.e], [v3, v4], rfl, rfl, ⟨[v3], [v4], rfl, ⟨v3, rfl, g3⟩, ⟨v4, rfl, r4⟩⟩⟩⟩⟩⟩
def zPl : Pl := ⟨0, 0, 0, [], []⟩

/-- The reader in block g stands at a of the text s; l is what is left. -/
structure Rd (w : World) (g : Nat) (s : ByteArray) (a : Nat) (l : L) : Prop where
  blk : w.heap[g]? = some (.cells #[.string s, .int .i64 a] tRd (0, 0))
  le : a ≤ s.size
  rest : (bytesOf s).drop a = l
/-- But block g nothing that was there has turned. -/
structure But (g : Nat) (w w' : World) : Prop where
  os : w'.os = w.os
  tape : w'.tape = w.tape
  output : w'.output = w.output
  size : w.heap.size ≤ w'.heap.size
  block : ∀ i, i < w.heap.size → i ≠ g → w'.heap[i]? = w.heap[i]?
theorem But.refl (g : Nat) (w : World) : But g w w := ⟨rfl, rfl, rfl, Nat.le_refl _, fun _ _ _ => rfl⟩
theorem But.trans {g : Nat} {a b c : World} (h : But g a b) (k : But g b c) : But g a c :=
  ⟨k.os.trans h.os, k.tape.trans h.tape, k.output.trans h.output, Nat.le_trans h.size k.size, fun i hi hg => (k.block i (Nat.lt_of_lt_of_le hi h.size) hg).trans (h.block i hi hg)⟩
theorem But.below {g B : Nat} {a b c : World} (h : But g a b) (hB : a.heap.size ≤ B) (k : Below B b c) : But g a c :=
  ⟨k.os.trans h.os, k.tape.trans h.tape, k.output.trans h.output, Nat.le_trans h.size k.size, fun i hi hg => (k.block i (by omega)).trans (h.block i hi hg)⟩
theorem But.of_below {g : Nat} {a b : World} (k : Below a.heap.size a b) : But g a b := (But.refl g a).below (Nat.le_refl _) k
/-- What is new is g, too. -/
theorem But.to_below {g B : Nat} {a b : World} (h : But g a b) (hB : B ≤ g) (hB' : B ≤ a.heap.size) : Below B a b :=
  ⟨h.os, h.tape, h.output, h.size, fun i hi => h.block i (by omega) (by omega)⟩
theorem But.set {g : Nat} {a b : World} (h : But g a b) (j : Nat) (u : Value) : But g a (b.setCell ⟨g, j, none⟩ u) :=
  ⟨h.os, h.tape, h.output, by simpa using h.size, fun i hi hg => (Below.heap_setCell b ⟨g, j, none⟩ u i hg).trans (h.block i hi hg)⟩
theorem But.alloc {g : Nat} {a b : World} (h : But g a b) (o : Obj) : But g a (b.alloc o) := h.below (Nat.le_refl _) ((Below.refl _ _).alloc h.size o)
theorem But.drewN {g : Nat} {a b : World} (h : But g a b) (n : Nat) : But g a (b.drewN n) := ⟨h.os, h.tape, h.output, h.size, h.block⟩
theorem But.setNew {g : Nat} {a b : World} (h : But g a b) (p : Addr) (hp : a.heap.size ≤ p.block) (u : Value) : But g a (b.setCell p u) :=
  h.below (Nat.le_refl _) ((Below.refl _ _).setCell hp u)
theorem Rd.lt {w : World} {g : Nat} {s : ByteArray} {a : Nat} {l : L} (h : Rd w g s a l) : g < w.heap.size := blk_lt h.blk
theorem Rd.cell0 {w : World} {g : Nat} {s : ByteArray} {a : Nat} {l : L} (h : Rd w g s a l) : w.cell? ⟨g, 0, none⟩ = some (.string s) := (blk_cell h.blk 0).trans rfl
theorem Rd.cell1 {w : World} {g : Nat} {s : ByteArray} {a : Nat} {l : L} (h : Rd w g s a l) : w.cell? ⟨g, 1, none⟩ = some (.int .i64 a) := (blk_cell h.blk 1).trans rfl
theorem Rd.frozen1 {w : World} {g : Nat} {s : ByteArray} {a : Nat} {l : L} (h : Rd w g s a l) : w.frozen? ⟨g, 1, none⟩ = false := blk_frozen h.blk 1
theorem Rd.len {w : World} {g : Nat} {s : ByteArray} {a : Nat} {l : L} (h : Rd w g s a l) : a + l.length = s.size := by
  have := h.le
  rw [← h.rest, List.length_drop, bytesOf_length]; omega
theorem Rd.pos {w : World} {g : Nat} {s : ByteArray} {a : Nat} {l : L} (h : Rd w g s a l) : pos s.size l = a := by
  have := h.len; unfold J.pos; omega
theorem Rd.set {w : World} {g : Nat} {s : ByteArray} {a : Nat} {l : L} (h : Rd w g s a l) (b : Nat) (hb : b ≤ s.size) : Rd (w.setCell ⟨g, 1, none⟩ (.int .i64 b)) g s b ((bytesOf s).drop b) :=
  ⟨(blk_set h.blk 1 _).trans rfl, hb, rfl⟩
/-- One step on. -/
theorem Rd.step {w : World} {g : Nat} {s : ByteArray} {a : Nat} {c : Int} {t : L} (h : Rd w g s a (c :: t)) : Rd (w.setCell ⟨g, 1, none⟩ (.int .i64 ((a : Int) + 1))) g s (a + 1) t := by
  have hl := h.len
  simp only [List.length_cons] at hl
  have := h.set (a + 1) (by omega)
  have e : (bytesOf s).drop (a + 1) = t := by
    have h1 : ((bytesOf s).drop a).drop 1 = t := by rw [h.rest]; rfl
    rwa [List.drop_drop] at h1
  rw [e] at this
  exact this
/-- The byte that stands here. -/
theorem Rd.byte {w : World} {g : Nat} {s : ByteArray} {a : Nat} {c : Int} {t : L} (h : Rd w g s a (c :: t)) (ha : a < s.size) : ((s[a]'ha).toNat : Int) = c := by
  have h1 := bt_at s a (by simpa using ha)
  have h2 := bytesOf_get? s a ha
  have h3 : (bytesOf s)[a]? = some c := by
    have : ((bytesOf s).drop a)[0]? = some c := by rw [h.rest]; rfl
    rwa [List.getElem?_drop, Nat.add_zero] at this
  rw [h2] at h3
  have h4 : bt s a = c := Option.some.inj h3
  exact h1.trans h4
theorem Rd.range {w : World} {g : Nat} {s : ByteArray} {a : Nat} {c : Int} {t : L} (h : Rd w g s a (c :: t)) : 0 ≤ c ∧ c ≤ 255 := by
  have hl := h.len
  simp only [List.length_cons] at hl
  have := h.byte (by omega)
  have := (s[a]'(by omega)).toNat_lt
  omega
theorem Rd.below {w w' : World} {g : Nat} {s : ByteArray} {a : Nat} {l : L} {B : Nat} (h : Rd w g s a l) (hg : g < B) (hb : Below B w w') : Rd w' g s a l := ⟨(hb.block g hg).trans h.blk, h.le, h.rest⟩
theorem Rd.of_block {w w' : World} {g : Nat} {s : ByteArray} {a : Nat} {l : L} (h : Rd w g s a l) (hb : w'.heap[g]? = w.heap[g]?) : Rd w' g s a l := ⟨hb.trans h.blk, h.le, h.rest⟩
theorem Rd.alloc {w : World} {g : Nat} {s : ByteArray} {a : Nat} {l : L} (h : Rd w g s a l) (o : Obj) : Rd (w.alloc o) g s a l := ⟨blk_alloc h.blk o, h.le, h.rest⟩
theorem Rd.setFar {w : World} {g : Nat} {s : ByteArray} {a : Nat} {l : L} (h : Rd w g s a l) {p : Addr} (hp : g ≠ p.block) (u : Value) : Rd (w.setCell p u) g s a l := ⟨blk_far h.blk hp u, h.le, h.rest⟩
theorem Rd.drew {w : World} {g : Nat} {s : ByteArray} {a : Nat} {l : L} (h : Rd w g s a l) (n : Nat) : Rd (w.drewN n) g s a l := ⟨h.blk, h.le, h.rest⟩
end Go.Proofs.YthehnffmbdlopaaDoor.J

set_option linter.unusedVariables false
set_option linter.unusedSimpArgs false
namespace Go.Proofs.YthehnffmbdlopaaDoor.J
open Go.RowKit Go.Proofs.YthehnffmbdlopaaDoorW.PrintWords Go.Proofs.YthehnffmbdlopaaDoorW.PrintLast Go.Proofs.YthehnffmbdlopaaDoorW.PrintMore Go.Proofs.YthehnffmbdlopaaDoor.Aid

/-- A reader's function hands back a bool: what it read, if it did. -/
def PostB (g : Nat) (s : ByteArray) (w : World) (l : L) (r : Option L) (e : Ending) (w' : World) : Prop := ∃ b, Rd w' g s b (r.getD l) ∧ But g w w' ∧ e = .returned (.bool r.isSome)
/-- It hands back nothing. -/
def PostU (g : Nat) (s : ByteArray) (w : World) (l : L) (e : Ending) (w' : World) : Prop := ∃ b, Rd w' g s b l ∧ But g w w' ∧ e = .returned (.tuple #[])
theorem Blank_any (c : Int) (w : World) : Calls Tryd.prog 12 #[.int .u8 c] w fun e w' => e = .returned (.bool (blank c)) ∧ w' = w := by
  by_cases h1 : c = 32
  · subst h1
    go_enter Tryd.func12, Tryd.ntmps12
    go_wp2
    go_ret
    exact ⟨rfl, rfl⟩
  by_cases h2 : c = 9
  · subst h2
    go_enter Tryd.func12, Tryd.ntmps12
    go_wp2
    go_ret
    exact ⟨rfl, rfl⟩
  by_cases h3 : c = 10
  · subst h3
    go_enter Tryd.func12, Tryd.ntmps12
    go_wp2
    go_ret
    exact ⟨rfl, rfl⟩
  have b1 : (c == 32) = false := beq_eq_false_iff_ne.mpr h1
  have b2 : (c == 9) = false := beq_eq_false_iff_ne.mpr h2
  have b3 : (c == 10) = false := beq_eq_false_iff_ne.mpr h3
  have e : Hid (blank c = (c == 13)) := Lib.hid (by unfold blank; rw [b1, b2, b3]; simp)
  clear h1 h2 h3
  go_enter Tryd.func12, Tryd.ntmps12
  go_wp2
  go_ret
  exact ⟨by rw [e.out]; rfl, rfl⟩

set_option maxHeartbeats 1000000 in
theorem here_any (g : Nat) (s : ByteArray) (a : Nat) (l : L) (w : World) (hs : s.size ≤ 2147483647) (h : Rd w g s a l) :
    Calls Tryd.prog 54 #[.pointer (some ⟨g, 0, none⟩)] w fun e w' => e = .returned (.int .u8 (hd l)) ∧ ∃ n, w' = w.drewN n := by
  have hl := h.len
  have c0 := h.cell0
  have c1 := h.cell1
  cases l with
  | nil =>
    obtain rfl : a = s.size := by simpa using hl
    clear hl h
    go_enter Tryd.func54, Tryd.ntmps54
    go_wp2
    go_quiet (fail)
    go_wp2
    go_ret
    exact ⟨rfl, _, rfl⟩
  | cons c t =>
    simp only [List.length_cons] at hl
    have hlt : a < s.size := by omega
    have hb := Lib.hid (h.byte hlt)
    clear hl h
    go_enter Tryd.func54, Tryd.ntmps54
    go_wp2
    go_quiet (fail)
    go_wp2
    go_quiet (fail)
    go_wp2
    go_ret
    exact ⟨ret_int hb.out, _, World.drewN_drewN ..⟩

set_option maxHeartbeats 1000000 in
theorem take_any (g : Nat) (s : ByteArray) (a : Nat) (l : L) (c : Int) (w : World) (hs : s.size ≤ 2147483647) (h : Rd w g s a l) :
    Calls Tryd.prog 69 #[.pointer (some ⟨g, 0, none⟩), .int .u8 c] w (PostB g s w l (take c l)) := by
  have hl := h.len
  have c0 := h.cell0
  have c1 := h.cell1
  have f1 := h.frozen1
  have H := Lib.hid h
  clear h
  cases l with
  | nil =>
    obtain rfl : a = s.size := by simpa using hl
    clear hl
    go_enter Tryd.func69, Tryd.ntmps69
    go_wp2
    go_quiet (fail)
    go_wp2
    go_ret
    exact ⟨_, H.out.drew _, ⟨rfl, rfl, rfl, Nat.le_refl _, fun _ _ _ => rfl⟩, rfl⟩
  | cons d t =>
    simp only [List.length_cons] at hl
    have hlt : a < s.size := by omega
    have hb := H.out.byte hlt
    by_cases e : d = c
    · have b1 : (((s[a]'hlt).toNat : Int) == c) = true := by rw [hb, e]; exact beq_self_eq_true _
      have E := Lib.hid e
      clear hl hb e
      go_enter Tryd.func69, Tryd.ntmps69
      go_wp2
      go_quiet (fail)
      go_wp2
      go_ret
      refine ⟨a + 1, ?_, ((But.refl g w).drewN nq).set 1 _, ?_⟩
      · have := (H.out.drew nq).step
        simpa [take, E.out] using this
      · simp [take, E.out]
    · have b1 : (((s[a]'hlt).toNat : Int) == c) = false := by rw [hb]; exact beq_eq_false_iff_ne.mpr e
      have E := Lib.hid e
      clear hl hb e
      go_enter Tryd.func69, Tryd.ntmps69
      go_wp2
      go_quiet (fail)
      go_wp2
      go_ret
      refine ⟨a, ?_, (But.refl g w).drewN nq, ?_⟩
      · have := H.out.drew nq
        simpa [take, E.out] using this
      · simp [take, E.out]

set_option maxHeartbeats 1000000 in
theorem blanks_any (g : Nat) (s : ByteArray) (a : Nat) (l : L) (w : World) (hs : s.size ≤ 2147483647) (h : Rd w g s a l) :
    Calls Tryd.prog 46 #[.pointer (some ⟨g, 0, none⟩)] w (PostU g s w (skip l)) := by
  have H := Lib.hid h
  clear h
  go_enter Tryd.func46, Tryd.ntmps46
  go_wp2
  go_loopg [] l.length (fun kq w' => Hid (∃ a' l', Rd w' g s a' l' ∧ l'.length = kq ∧ skip l' = skip l ∧ But g w w'))
  case atStart => exact Lib.hid ⟨a, l, H.out, rfl, rfl, But.refl g w⟩
  case round =>
    obtain ⟨a', l', hr, hk, hsk, hbut⟩ := hrel.out
    clear hrel H
    have hl := hr.len
    have c0 := hr.cell0
    have c1 := hr.cell1
    have f1 := hr.frozen1
    have HR := Lib.hid hr
    have HB := Lib.hid hbut
    have HS := Lib.hid hsk
    have HK := Lib.hid hk
    clear hr hbut hsk hk
    cases l' with
    | nil =>
      obtain rfl : a' = s.size := by simpa using hl
      clear hl
      go_wp2
      go_quiet (fail)
      go_wp2
      go_end0
      exact ⟨_, by have := HR.out.drew nq; rwa [← HS.out], HB.out.drewN _, rfl⟩
    | cons c t =>
      simp only [List.length_cons] at hl
      have hlt : a' < s.size := by omega
      have hb := HR.out.byte hlt
      by_cases e : blank c = true
      · have HBl : Hid (∀ w, Calls Tryd.prog 12 #[.int .u8 (((s[a']'hlt).toNat : Int))] w fun e w' => e = .returned (.bool true) ∧ w' = w) := Lib.hid (by rw [hb, ← e]; exact fun w => Blank_any c w)
        have E := Lib.hid e
        clear hl hb e
        go_wp2
        go_quiet ((go_at_call 12; exact Calls.quiet_of_same (HBl.out _)))
        go_wp2
        go_roundg t.length
        case rel => exact Lib.hid ⟨a' + 1, t, (HR.out.drew nq).step, rfl, by rw [← HS.out]; simp [skip, E.out], (HB.out.drewN nq).set 1 _⟩
        case measure => have := HK.out; simp only [List.length_cons] at this; omega
      · have HBl : Hid (∀ w, Calls Tryd.prog 12 #[.int .u8 (((s[a']'hlt).toNat : Int))] w fun e w' => e = .returned (.bool false) ∧ w' = w) := Lib.hid (by rw [hb, ← (show blank c = false by simpa using e)]; exact fun w => Blank_any c w)
        have E := Lib.hid e
        clear hl hb e
        go_wp2
        go_quiet ((go_at_call 12; exact Calls.quiet_of_same (HBl.out _)))
        go_wp2
        go_end0
        exact ⟨_, by have := HR.out.drew nq; rw [← HS.out]; simpa [skip, E.out] using this, HB.out.drewN _, rfl⟩
end Go.Proofs.YthehnffmbdlopaaDoor.J

set_option linter.unusedVariables false
set_option linter.unusedSimpArgs false
namespace Go.Proofs.YthehnffmbdlopaaDoor.J
open Go.RowKit Go.Proofs.YthehnffmbdlopaaDoorW.PrintWords Go.Proofs.YthehnffmbdlopaaDoorW.PrintLast Go.Proofs.YthehnffmbdlopaaDoorW.PrintMore Go.Proofs.YthehnffmbdlopaaDoor.Aid

theorem toList_bytes (s : ByteArray) : bytesOf s = s.toList.map fun b => (b.toNat : Int) := by rw [bytesOf, ByteArray.toList_eq]
theorem toList_eq_iff (x y : ByteArray) : (x.toList == y.toList) = decide (bytesOf x = bytesOf y) := by
  rw [Bool.eq_iff_iff]
  simp only [beq_iff_eq, decide_eq_true_eq, toList_bytes]
  constructor
  · intro h; rw [h]
  · intro h
    exact (List.map_inj_right (fun x y hxy => by
      have : x.toNat = y.toNat := by omega
      exact UInt8.toNat_inj.1 this)).1 h
theorem word_eq (s wd : ByteArray) (a : Nat) (l : L) (h : (bytesOf s).drop a = l) (hlen : wd.size ≤ l.length) :
    ((s.extract a (a + wd.size)).toList == wd.toList) = (word (bytesOf wd) l).isSome := by
  rw [toList_eq_iff, bytesOf_extract, h, Nat.add_sub_cancel_left]
  unfold word
  by_cases c : (bytesOf wd).isPrefixOf l = true
  · rw [if_pos c]
    simp only [Option.isSome_some, decide_eq_true_eq]
    have := List.isPrefixOf_iff_prefix.1 c
    have := List.prefix_iff_eq_take.1 this
    rw [bytesOf_length] at this
    exact this.symm
  · rw [if_neg c]
    simp only [Option.isSome_none, decide_eq_false_iff_not]
    intro e
    apply c
    apply List.isPrefixOf_iff_prefix.2
    rw [← e]
    exact List.take_prefix _ _
theorem word_short (wd l : L) (h : l.length < wd.length) : word wd l = none := by
  unfold word
  rw [if_neg]
  intro c
  have := (List.isPrefixOf_iff_prefix.1 c).length_le
  omega

theorem slice_str (s : ByteArray) (a n : Nat) (h : a + n ≤ s.size) (W : World) :
    (Instr.slice 9 (.string s) (some (.int .i64 (a : Int))) (some (.int .i64 ((a : Int) + n))) none).run Tryd.prog W = .ok (.string (s.extract a (a + n))) W := by
  have h1 : (0 : Int) ≤ (a : Int) + n := by omega
  have h2 : (a : Int) ≤ (a : Int) + n := by omega
  have h3 : (a : Int) + n ≤ s.size := by omega
  have h4 : ((a : Int) + n).toNat = a + n := by omega
  go_simp
set_option maxHeartbeats 1000000 in
theorem word_any (g : Nat) (s wd : ByteArray) (a : Nat) (l : L) (w : World) (hs : s.size ≤ 2147483647) (hw : wd.size ≤ 1000) (h : Rd w g s a l) :
    Calls Tryd.prog 59 #[.pointer (some ⟨g, 0, none⟩), .string wd] w (PostB g s w l (word (bytesOf wd) l)) := by
  have hl := h.len
  have c0 := h.cell0
  have c1 := h.cell1
  have f1 := h.frozen1
  have H := Lib.hid h
  clear h
  by_cases hsz : l.length < wd.size
  · have E := Lib.hid (word_short (bytesOf wd) l (by rw [bytesOf_length]; exact hsz))
    have q0 : IntKind.i64.wrap ((s.size : Int) - a) = (s.size : Int) - a := IntWalk.i64_in _ (by omega)
    have q : decide ((s.size : Int) - a < wd.size) = true := decide_eq_true (by omega)
    clear hl hsz
    go_enter Tryd.func59, Tryd.ntmps59
    go_wp2
    go_quiet (fail)
    go_wp2
    go_ret
    refine ⟨a, ?_, (But.refl g w).drewN nq, ?_⟩
    · have := H.out.drew nq
      rw [E.out]; exact this
    · rw [E.out]; rfl
  · have E := word_eq s wd a l H.out.rest (by omega)
    have q2 : a + wd.size ≤ s.size := by omega
    have q0 : IntKind.i64.wrap ((s.size : Int) - a) = (s.size : Int) - a := IntWalk.i64_in _ (by omega)
    have q : decide ((s.size : Int) - a < wd.size) = false := decide_eq_false (by omega)
    have q3 : IntKind.i64.wrap ((a : Int) + wd.size) = (a : Int) + wd.size := IntWalk.i64_in _ (by omega)
    cases e : word (bytesOf wd) l with
    | none =>
      rw [e] at E
      have b1 : ((s.extract a (a + wd.size)).toList == wd.toList) = false := E
      have ks := slice_str s a wd.size q2
      have EE := Lib.hid e
      clear hl hsz E e
      go_enter Tryd.func59, Tryd.ntmps59
      go_wp2
      go_quiet (fail)
      go_wp2
      go_ret
      refine ⟨a, ?_, (But.refl g w).drewN nq, rfl⟩
      exact H.out.drew nq
    | some r =>
      rw [e] at E
      have b1 : ((s.extract a (a + wd.size)).toList == wd.toList) = true := E
      have ks := slice_str s a wd.size q2
      have EE := Lib.hid e
      clear hl hsz E e
      go_enter Tryd.func59, Tryd.ntmps59
      go_wp2
      go_quiet (fail)
      clear q3 q0 q ks
      go_wp2
      go_ret
      refine ⟨a + wd.size, ?_, ((But.refl g w).drewN nq).set 1 _, rfl⟩
      have h1 := (H.out.drew nq).set (a + wd.size) q2
      have h2 : (bytesOf s).drop (a + wd.size) = r := by
        have e := EE.out
        unfold word at e
        split at e
        · injection e with e
          rw [← e, ← H.out.rest, List.drop_drop, bytesOf_length]
        · cases e
      rw [h2] at h1
      simpa using h1

set_option maxHeartbeats 1000000 in
theorem digits_any (g : Nat) (s : ByteArray) (a : Nat) (l : L) (w : World) (hs : s.size ≤ 2147483647) (h : Rd w g s a l) :
    Calls Tryd.prog 71 #[.pointer (some ⟨g, 0, none⟩)] w (PostB g s w l (digits l)) := by
  have hl := h.len
  have c1 := h.cell1
  have H := Lib.hid h
  clear h
  go_enter Tryd.func71, Tryd.ntmps71
  go_wp2_with (go_at_call 54; refine (here_any g s a l _ hs H.out).mono ?_; rintro e w' ⟨rfl, ⟨n0, rfl⟩⟩)
  go_loopg [4] l.length (fun kq v w' => Hid (∃ a' l', Rd w' g s a' l' ∧ l'.length = kq ∧ digs l' = digs l ∧ a ≤ a' ∧ But g w w' ∧ v = .int .u8 (hd l')))
  case atStart => exact Lib.hid ⟨a, l, H.out.drew _, rfl, rfl, Nat.le_refl _, (But.refl g w).drewN _, rfl⟩
  case round =>
    obtain ⟨a', l', hr, hk, hsk, hle, hbut, rfl⟩ := hrel.out
    clear hrel c1
    have hl' := hr.len
    have c1 := hr.cell1
    have f1 := hr.frozen1
    have HR := Lib.hid hr
    have HB := Lib.hid hbut
    have HS := Lib.hid hsk
    have HK := Lib.hid hk
    clear hr hbut hsk hk
    have step : ∀ c t, l' = c :: t → dig c = true → hd l' = c ∧ 48 ≤ c ∧ c ≤ 57 := by
      intro c t e hd'
      simp only [dig, Bool.and_eq_true, decide_eq_true_eq] at hd'
      exact ⟨by rw [e]; rfl, hd'.1, hd'.2⟩
    by_cases hdg : ∃ c t, l' = c :: t ∧ dig c = true
    · obtain ⟨c, t, rfl, hc⟩ := hdg
      obtain ⟨e, e1, e2⟩ := step c t rfl hc
      rw [e]
      have E := Lib.hid hc
      clear step e hc
      simp only [List.length_cons] at hl'
      go_wp2_with (go_at_call 54; refine (here_any g s (a' + 1) t _ hs HR.out.step).mono ?_; rintro e w' ⟨rfl, ⟨n1, rfl⟩⟩)
      go_roundg t.length
      case rel => exact Lib.hid ⟨a' + 1, t, HR.out.step.drew _, rfl, by rw [← HS.out]; simp [digs, E.out], by omega, (HB.out.set 1 _).drewN _, rfl⟩
      case measure => have := HK.out; simp only [List.length_cons] at this; omega
    · have b1 : (decide (48 ≤ hd l') && decide (hd l' ≤ 57)) = false := by
        cases l' with
        | nil => rfl
        | cons c t =>
          cases e : dig c with
          | true => exact absurd ⟨c, t, rfl, e⟩ hdg
          | false => exact e
      have E : Hid (digs l' = l') := Lib.hid (by
        cases l' with
        | nil => rfl
        | cons c t =>
          have : dig c = false := b1
          simp [digs, this])
      have fin : Hid (decide (a < a') = (digits l).isSome ∧ (digits l).getD l = l') := Lib.hid (by
        have h1 := H.out.len
        have h2 : l' = digs l := by rw [← HS.out, E.out]
        cases l with
        | nil =>
          have : l' = [] := by rw [h2]; rfl
          subst this
          simp only [List.length_nil] at h1 hl'
          exact ⟨by simp [digits]; omega, rfl⟩
        | cons c t =>
          cases e : dig c with
          | true =>
            have h3 : l' = digs t := by rw [h2]; simp [digs, e]
            have h4 := digs_le t
            simp only [List.length_cons] at h1
            rw [h3] at hl'
            exact ⟨by simp [digits, e]; omega, by simp [digits, e, h3]⟩
          | false =>
            have h3 : l' = c :: t := by rw [h2]; simp [digs, e]
            subst h3
            simp only [List.length_cons] at h1 hl'
            exact ⟨by simp [digits, e] <;> omega, by simp [digits, e]⟩)
      generalize hd l' = x at b1 ⊢
      clear step hdg
      by_cases x1 : 48 ≤ x
      · have b2 : decide (x ≤ 57) = false := by simpa [x1] using b1
        clear b1
        go_wp2
        go_ret
        exact ⟨a', by rw [fin.out.2]; exact HR.out, HB.out, ret_bool fin.out.1⟩
      · clear b1
        go_wp2
        go_ret
        exact ⟨a', by rw [fin.out.2]; exact HR.out, HB.out, ret_bool fin.out.1⟩
end Go.Proofs.YthehnffmbdlopaaDoor.J

set_option linter.unusedVariables false
set_option linter.unusedSimpArgs false
namespace Go.Proofs.YthehnffmbdlopaaDoor.J
open Go.RowKit Go.Proofs.YthehnffmbdlopaaDoorW.PrintWords Go.Proofs.YthehnffmbdlopaaDoorW.PrintLast Go.Proofs.YthehnffmbdlopaaDoorW.PrintMore Go.Proofs.YthehnffmbdlopaaDoor.Aid

/-- A reader's function hands back whether it read something; where it did not, the reader stands somewhere. -/
def PostN (g : Nat) (s : ByteArray) (w : World) (r : Option L) (e : Ending) (w' : World) : Prop := ∃ b t, Rd w' g s b t ∧ But g w w' ∧ e = .returned (.bool r.isSome) ∧ ∀ u, r = some u → t = u
theorem PostN.ok {g : Nat} {s : ByteArray} {w w' : World} {r : Option L} {b : Nat} {t : L} (hr : Rd w' g s b t) (hb : But g w w') (hn : r = some t) : PostN g s w r (.returned (.bool true)) w' := by
  subst hn; exact ⟨b, t, hr, hb, rfl, fun u hu => Option.some.inj hu⟩
theorem PostN.no {g : Nat} {s : ByteArray} {w w' : World} {r : Option L} {b : Nat} {t : L} (hr : Rd w' g s b t) (hb : But g w w') (hn : r = none) : PostN g s w r (.returned (.bool false)) w' := by
  subst hn; exact ⟨b, t, hr, hb, rfl, fun u hu => by cases hu⟩

set_option maxHeartbeats 4000000 in
theorem number_any (g : Nat) (s : ByteArray) (a : Nat) (l : L) (w : World) (hs : s.size ≤ 2147483647) (h : Rd w g s a l) :
    Calls Tryd.prog 58 #[.pointer (some ⟨g, 0, none⟩)] w (PostN g s w (num l)) := by
  have H := Lib.hid h
  have HB := Lib.hid (But.refl g w)
  clear h
  go_enter Tryd.func58, Tryd.ntmps58
  go_wp2_with fail
  refine (take_any g s _ (l) 45 _ hs H.out).mono ?_
  rintro e w' ⟨b, hr, hb, rfl⟩
  replace HB := Lib.hid (HB.out.trans hb)
  clear hb H
  have H := Lib.hid (show Rd _ g s b (opt 45 l) from hr)
  clear hr
  have EO := Lib.hid (show num l = (whole (opt 45 l)).bind frac from rfl)
  generalize opt 45 l = m at H EO
  go_wp2_with fail
  refine (take_any g s _ (m) 48 _ hs H.out).mono ?_
  rintro e w' ⟨b, hr, hb, rfl⟩
  replace HB := Lib.hid (HB.out.trans hb)
  clear hb H
  cases F1 : take 48 (m) with
  | some t1 =>
    rw [F1] at hr
    have H := Lib.hid (show Rd _ g s b t1 from hr)
    replace F1 := Lib.hid F1
    clear hr
    go_wp2_with fail
    refine (take_any g s _ (t1) 46 _ hs H.out).mono ?_
    rintro e w' ⟨b, hr, hb, rfl⟩
    replace HB := Lib.hid (HB.out.trans hb)
    clear hb H
    cases F2 : take 46 (t1) with
    | some t2 =>
      rw [F2] at hr
      have H := Lib.hid (show Rd _ g s b t2 from hr)
      replace F2 := Lib.hid F2
      clear hr
      go_wp2_with fail
      refine (digits_any g s _ (t2) _ hs H.out).mono ?_
      rintro e w' ⟨b, hr, hb, rfl⟩
      replace HB := Lib.hid (HB.out.trans hb)
      clear hb H
      cases F3 : digits (t2) with
      | some t3 =>
        rw [F3] at hr
        have H := Lib.hid (show Rd _ g s b t3 from hr)
        replace F3 := Lib.hid F3
        clear hr
        go_wp2_with fail
        refine (take_any g s _ (t3) 101 _ hs H.out).mono ?_
        rintro e w' ⟨b, hr, hb, rfl⟩
        replace HB := Lib.hid (HB.out.trans hb)
        clear hb H
        cases F4 : take 101 (t3) with
        | some t4 =>
          rw [F4] at hr
          have H := Lib.hid (show Rd _ g s b t4 from hr)
          replace F4 := Lib.hid F4
          clear hr
          go_wp2_with fail
          refine (take_any g s _ (t4) 43 _ hs H.out).mono ?_
          rintro e w' ⟨b, hr, hb, rfl⟩
          replace HB := Lib.hid (HB.out.trans hb)
          clear hb H
          cases F5 : take 43 (t4) with
          | some t5 =>
            rw [F5] at hr
            have H := Lib.hid (show Rd _ g s b t5 from hr)
            replace F5 := Lib.hid F5
            clear hr
            go_wp2_with fail
            refine (digits_any g s _ (t5) _ hs H.out).mono ?_
            rintro e w' ⟨b, hr, hb, rfl⟩
            replace HB := Lib.hid (HB.out.trans hb)
            clear hb H
            cases F6 : digits (t5) with
            | some t6 =>
              rw [F6] at hr
              have H := Lib.hid (show Rd _ g s b t6 from hr)
              replace F6 := Lib.hid F6
              clear hr
              go_wp2
              go_ret
              have eEO := EO.out
              have eF1 := F1.out
              have eF2 := F2.out
              have eF3 := F3.out
              have eF4 := F4.out
              have eF5 := F5.out
              have eF6 := F6.out
              exact PostN.ok H.out HB.out (by rw [eEO]; simp [whole, frac, expo, expTail, opt, eF1, eF2, eF3, eF4, eF5, eF6])
            | none =>
              rw [F6] at hr
              have H := Lib.hid (show Rd _ g s b (t5) from hr)
              replace F6 := Lib.hid F6
              clear hr
              go_wp2
              go_ret
              have eEO := EO.out
              have eF1 := F1.out
              have eF2 := F2.out
              have eF3 := F3.out
              have eF4 := F4.out
              have eF5 := F5.out
              have eF6 := F6.out
              exact PostN.no H.out HB.out (by rw [eEO]; simp [whole, frac, expo, expTail, opt, eF1, eF2, eF3, eF4, eF5, eF6])
          | none =>
            rw [F5] at hr
            have H := Lib.hid (show Rd _ g s b (t4) from hr)
            replace F5 := Lib.hid F5
            clear hr
            go_wp2_with fail
            refine (take_any g s _ (t4) 45 _ hs H.out).mono ?_
            rintro e w' ⟨b, hr, hb, rfl⟩
            replace HB := Lib.hid (HB.out.trans hb)
            clear hb H
            cases F7 : take 45 (t4) with
            | some t7 =>
              rw [F7] at hr
              have H := Lib.hid (show Rd _ g s b t7 from hr)
              replace F7 := Lib.hid F7
              clear hr
              go_wp2_with fail
              refine (digits_any g s _ (t7) _ hs H.out).mono ?_
              rintro e w' ⟨b, hr, hb, rfl⟩
              replace HB := Lib.hid (HB.out.trans hb)
              clear hb H
              cases F8 : digits (t7) with
              | some t8 =>
                rw [F8] at hr
                have H := Lib.hid (show Rd _ g s b t8 from hr)
                replace F8 := Lib.hid F8
                clear hr
                go_wp2
                go_ret
                have eEO := EO.out
                have eF1 := F1.out
                have eF2 := F2.out
                have eF3 := F3.out
                have eF4 := F4.out
                have eF5 := F5.out
                have eF7 := F7.out
                have eF8 := F8.out
                exact PostN.ok H.out HB.out (by rw [eEO]; simp [whole, frac, expo, expTail, opt, eF1, eF2, eF3, eF4, eF5, eF7, eF8])
              | none =>
                rw [F8] at hr
                have H := Lib.hid (show Rd _ g s b (t7) from hr)
                replace F8 := Lib.hid F8
                clear hr
                go_wp2
                go_ret
                have eEO := EO.out
                have eF1 := F1.out
                have eF2 := F2.out
                have eF3 := F3.out
                have eF4 := F4.out
                have eF5 := F5.out
                have eF7 := F7.out
                have eF8 := F8.out
                exact PostN.no H.out HB.out (by rw [eEO]; simp [whole, frac, expo, expTail, opt, eF1, eF2, eF3, eF4, eF5, eF7, eF8])
            | none =>
              rw [F7] at hr
              have H := Lib.hid (show Rd _ g s b (t4) from hr)
              replace F7 := Lib.hid F7
              clear hr
              go_wp2_with fail
              refine (digits_any g s _ (t4) _ hs H.out).mono ?_
              rintro e w' ⟨b, hr, hb, rfl⟩
              replace HB := Lib.hid (HB.out.trans hb)
              clear hb H
              cases F9 : digits (t4) with
              | some t9 =>
                rw [F9] at hr
                have H := Lib.hid (show Rd _ g s b t9 from hr)
                replace F9 := Lib.hid F9
                clear hr
                go_wp2
                go_ret
                have eEO := EO.out
                have eF1 := F1.out
                have eF2 := F2.out
                have eF3 := F3.out
                have eF4 := F4.out
                have eF5 := F5.out
                have eF7 := F7.out
                have eF9 := F9.out
                exact PostN.ok H.out HB.out (by rw [eEO]; simp [whole, frac, expo, expTail, opt, eF1, eF2, eF3, eF4, eF5, eF7, eF9])
              | none =>
                rw [F9] at hr
                have H := Lib.hid (show Rd _ g s b (t4) from hr)
                replace F9 := Lib.hid F9
                clear hr
                go_wp2
                go_ret
                have eEO := EO.out
                have eF1 := F1.out
                have eF2 := F2.out
                have eF3 := F3.out
                have eF4 := F4.out
                have eF5 := F5.out
                have eF7 := F7.out
                have eF9 := F9.out
                exact PostN.no H.out HB.out (by rw [eEO]; simp [whole, frac, expo, expTail, opt, eF1, eF2, eF3, eF4, eF5, eF7, eF9])
        | none =>
          rw [F4] at hr
          have H := Lib.hid (show Rd _ g s b (t3) from hr)
          replace F4 := Lib.hid F4
          clear hr
          go_wp2_with fail
          refine (take_any g s _ (t3) 69 _ hs H.out).mono ?_
          rintro e w' ⟨b, hr, hb, rfl⟩
          replace HB := Lib.hid (HB.out.trans hb)
          clear hb H
          cases F10 : take 69 (t3) with
          | some t10 =>
            rw [F10] at hr
            have H := Lib.hid (show Rd _ g s b t10 from hr)
            replace F10 := Lib.hid F10
            clear hr
            go_wp2_with fail
            refine (take_any g s _ (t10) 43 _ hs H.out).mono ?_
            rintro e w' ⟨b, hr, hb, rfl⟩
            replace HB := Lib.hid (HB.out.trans hb)
            clear hb H
            cases F11 : take 43 (t10) with
            | some t11 =>
              rw [F11] at hr
              have H := Lib.hid (show Rd _ g s b t11 from hr)
              replace F11 := Lib.hid F11
              clear hr
              go_wp2_with fail
              refine (digits_any g s _ (t11) _ hs H.out).mono ?_
              rintro e w' ⟨b, hr, hb, rfl⟩
              replace HB := Lib.hid (HB.out.trans hb)
              clear hb H
              cases F12 : digits (t11) with
              | some t12 =>
                rw [F12] at hr
                have H := Lib.hid (show Rd _ g s b t12 from hr)
                replace F12 := Lib.hid F12
                clear hr
                go_wp2
                go_ret
                have eEO := EO.out
                have eF1 := F1.out
                have eF2 := F2.out
                have eF3 := F3.out
                have eF4 := F4.out
                have eF10 := F10.out
                have eF11 := F11.out
                have eF12 := F12.out
                exact PostN.ok H.out HB.out (by rw [eEO]; simp [whole, frac, expo, expTail, opt, eF1, eF2, eF3, eF4, eF10, eF11, eF12])
              | none =>
                rw [F12] at hr
                have H := Lib.hid (show Rd _ g s b (t11) from hr)
                replace F12 := Lib.hid F12
                clear hr
                go_wp2
                go_ret
                have eEO := EO.out
                have eF1 := F1.out
                have eF2 := F2.out
                have eF3 := F3.out
                have eF4 := F4.out
                have eF10 := F10.out
                have eF11 := F11.out
                have eF12 := F12.out
                exact PostN.no H.out HB.out (by rw [eEO]; simp [whole, frac, expo, expTail, opt, eF1, eF2, eF3, eF4, eF10, eF11, eF12])
            | none =>
              rw [F11] at hr
              have H := Lib.hid (show Rd _ g s b (t10) from hr)
              replace F11 := Lib.hid F11
              clear hr
              go_wp2_with fail
              refine (take_any g s _ (t10) 45 _ hs H.out).mono ?_
              rintro e w' ⟨b, hr, hb, rfl⟩
              replace HB := Lib.hid (HB.out.trans hb)
              clear hb H
              cases F13 : take 45 (t10) with
              | some t13 =>
                rw [F13] at hr
                have H := Lib.hid (show Rd _ g s b t13 from hr)
                replace F13 := Lib.hid F13
                clear hr
                go_wp2_with fail
                refine (digits_any g s _ (t13) _ hs H.out).mono ?_
                rintro e w' ⟨b, hr, hb, rfl⟩
                replace HB := Lib.hid (HB.out.trans hb)
                clear hb H
                cases F14 : digits (t13) with
                | some t14 =>
                  rw [F14] at hr
                  have H := Lib.hid (show Rd _ g s b t14 from hr)
                  replace F14 := Lib.hid F14
                  clear hr
                  go_wp2
                  go_ret
                  have eEO := EO.out
                  have eF1 := F1.out
                  have eF2 := F2.out
                  have eF3 := F3.out
                  have eF4 := F4.out
                  have eF10 := F10.out
                  have eF11 := F11.out
                  have eF13 := F13.out
                  have eF14 := F14.out
                  exact PostN.ok H.out HB.out (by rw [eEO]; simp [whole, frac, expo, expTail, opt, eF1, eF2, eF3, eF4, eF10, eF11, eF13, eF14])
                | none =>
                  rw [F14] at hr
                  have H := Lib.hid (show Rd _ g s b (t13) from hr)
                  replace F14 := Lib.hid F14
                  clear hr
                  go_wp2
                  go_ret
                  have eEO := EO.out
                  have eF1 := F1.out
                  have eF2 := F2.out
                  have eF3 := F3.out
                  have eF4 := F4.out
                  have eF10 := F10.out
                  have eF11 := F11.out
                  have eF13 := F13.out
                  have eF14 := F14.out
                  exact PostN.no H.out HB.out (by rw [eEO]; simp [whole, frac, expo, expTail, opt, eF1, eF2, eF3, eF4, eF10, eF11, eF13, eF14])
              | none =>
                rw [F13] at hr
                have H := Lib.hid (show Rd _ g s b (t10) from hr)
                replace F13 := Lib.hid F13
                clear hr
                go_wp2_with fail
                refine (digits_any g s _ (t10) _ hs H.out).mono ?_
                rintro e w' ⟨b, hr, hb, rfl⟩
                replace HB := Lib.hid (HB.out.trans hb)
                clear hb H
                cases F15 : digits (t10) with
                | some t15 =>
                  rw [F15] at hr
                  have H := Lib.hid (show Rd _ g s b t15 from hr)
                  replace F15 := Lib.hid F15
                  clear hr
                  go_wp2
                  go_ret
                  have eEO := EO.out
                  have eF1 := F1.out
                  have eF2 := F2.out
                  have eF3 := F3.out
                  have eF4 := F4.out
                  have eF10 := F10.out
                  have eF11 := F11.out
                  have eF13 := F13.out
                  have eF15 := F15.out
                  exact PostN.ok H.out HB.out (by rw [eEO]; simp [whole, frac, expo, expTail, opt, eF1, eF2, eF3, eF4, eF10, eF11, eF13, eF15])
                | none =>
                  rw [F15] at hr
                  have H := Lib.hid (show Rd _ g s b (t10) from hr)
                  replace F15 := Lib.hid F15
                  clear hr
                  go_wp2
                  go_ret
                  have eEO := EO.out
                  have eF1 := F1.out
                  have eF2 := F2.out
                  have eF3 := F3.out
                  have eF4 := F4.out
                  have eF10 := F10.out
                  have eF11 := F11.out
                  have eF13 := F13.out
                  have eF15 := F15.out
                  exact PostN.no H.out HB.out (by rw [eEO]; simp [whole, frac, expo, expTail, opt, eF1, eF2, eF3, eF4, eF10, eF11, eF13, eF15])
          | none =>
            rw [F10] at hr
            have H := Lib.hid (show Rd _ g s b (t3) from hr)
            replace F10 := Lib.hid F10
            clear hr
            go_wp2
            go_ret
            have eEO := EO.out
            have eF1 := F1.out
            have eF2 := F2.out
            have eF3 := F3.out
            have eF4 := F4.out
            have eF10 := F10.out
            exact PostN.ok H.out HB.out (by rw [eEO]; simp [whole, frac, expo, expTail, opt, eF1, eF2, eF3, eF4, eF10])
      | none =>
        rw [F3] at hr
        have H := Lib.hid (show Rd _ g s b (t2) from hr)
        replace F3 := Lib.hid F3
        clear hr
        go_wp2
        go_ret
        have eEO := EO.out
        have eF1 := F1.out
        have eF2 := F2.out
        have eF3 := F3.out
        exact PostN.no H.out HB.out (by rw [eEO]; simp [whole, frac, expo, expTail, opt, eF1, eF2, eF3])
    | none =>
      rw [F2] at hr
      have H := Lib.hid (show Rd _ g s b (t1) from hr)
      replace F2 := Lib.hid F2
      clear hr
      go_wp2_with fail
      refine (take_any g s _ (t1) 101 _ hs H.out).mono ?_
      rintro e w' ⟨b, hr, hb, rfl⟩
      replace HB := Lib.hid (HB.out.trans hb)
      clear hb H
      cases F16 : take 101 (t1) with
      | some t16 =>
        rw [F16] at hr
        have H := Lib.hid (show Rd _ g s b t16 from hr)
        replace F16 := Lib.hid F16
        clear hr
        go_wp2_with fail
        refine (take_any g s _ (t16) 43 _ hs H.out).mono ?_
        rintro e w' ⟨b, hr, hb, rfl⟩
        replace HB := Lib.hid (HB.out.trans hb)
        clear hb H
        cases F17 : take 43 (t16) with
        | some t17 =>
          rw [F17] at hr
          have H := Lib.hid (show Rd _ g s b t17 from hr)
          replace F17 := Lib.hid F17
          clear hr
          go_wp2_with fail
          refine (digits_any g s _ (t17) _ hs H.out).mono ?_
          rintro e w' ⟨b, hr, hb, rfl⟩
          replace HB := Lib.hid (HB.out.trans hb)
          clear hb H
          cases F18 : digits (t17) with
          | some t18 =>
            rw [F18] at hr
            have H := Lib.hid (show Rd _ g s b t18 from hr)
            replace F18 := Lib.hid F18
            clear hr
            go_wp2
            go_ret
            have eEO := EO.out
            have eF1 := F1.out
            have eF2 := F2.out
            have eF16 := F16.out
            have eF17 := F17.out
            have eF18 := F18.out
            exact PostN.ok H.out HB.out (by rw [eEO]; simp [whole, frac, expo, expTail, opt, eF1, eF2, eF16, eF17, eF18])
          | none =>
            rw [F18] at hr
            have H := Lib.hid (show Rd _ g s b (t17) from hr)
            replace F18 := Lib.hid F18
            clear hr
            go_wp2
            go_ret
            have eEO := EO.out
            have eF1 := F1.out
            have eF2 := F2.out
            have eF16 := F16.out
            have eF17 := F17.out
            have eF18 := F18.out
            exact PostN.no H.out HB.out (by rw [eEO]; simp [whole, frac, expo, expTail, opt, eF1, eF2, eF16, eF17, eF18])
        | none =>
          rw [F17] at hr
          have H := Lib.hid (show Rd _ g s b (t16) from hr)
          replace F17 := Lib.hid F17
          clear hr
          go_wp2_with fail
          refine (take_any g s _ (t16) 45 _ hs H.out).mono ?_
          rintro e w' ⟨b, hr, hb, rfl⟩
          replace HB := Lib.hid (HB.out.trans hb)
          clear hb H
          cases F19 : take 45 (t16) with
          | some t19 =>
            rw [F19] at hr
            have H := Lib.hid (show Rd _ g s b t19 from hr)
            replace F19 := Lib.hid F19
            clear hr
            go_wp2_with fail
            refine (digits_any g s _ (t19) _ hs H.out).mono ?_
            rintro e w' ⟨b, hr, hb, rfl⟩
            replace HB := Lib.hid (HB.out.trans hb)
            clear hb H
            cases F20 : digits (t19) with
            | some t20 =>
              rw [F20] at hr
              have H := Lib.hid (show Rd _ g s b t20 from hr)
              replace F20 := Lib.hid F20
              clear hr
              go_wp2
              go_ret
              have eEO := EO.out
              have eF1 := F1.out
              have eF2 := F2.out
              have eF16 := F16.out
              have eF17 := F17.out
              have eF19 := F19.out
              have eF20 := F20.out
              exact PostN.ok H.out HB.out (by rw [eEO]; simp [whole, frac, expo, expTail, opt, eF1, eF2, eF16, eF17, eF19, eF20])
            | none =>
              rw [F20] at hr
              have H := Lib.hid (show Rd _ g s b (t19) from hr)
              replace F20 := Lib.hid F20
              clear hr
              go_wp2
              go_ret
              have eEO := EO.out
              have eF1 := F1.out
              have eF2 := F2.out
              have eF16 := F16.out
              have eF17 := F17.out
              have eF19 := F19.out
              have eF20 := F20.out
              exact PostN.no H.out HB.out (by rw [eEO]; simp [whole, frac, expo, expTail, opt, eF1, eF2, eF16, eF17, eF19, eF20])
          | none =>
            rw [F19] at hr
            have H := Lib.hid (show Rd _ g s b (t16) from hr)
            replace F19 := Lib.hid F19
            clear hr
            go_wp2_with fail
            refine (digits_any g s _ (t16) _ hs H.out).mono ?_
            rintro e w' ⟨b, hr, hb, rfl⟩
            replace HB := Lib.hid (HB.out.trans hb)
            clear hb H
            cases F21 : digits (t16) with
            | some t21 =>
              rw [F21] at hr
              have H := Lib.hid (show Rd _ g s b t21 from hr)
              replace F21 := Lib.hid F21
              clear hr
              go_wp2
              go_ret
              have eEO := EO.out
              have eF1 := F1.out
              have eF2 := F2.out
              have eF16 := F16.out
              have eF17 := F17.out
              have eF19 := F19.out
              have eF21 := F21.out
              exact PostN.ok H.out HB.out (by rw [eEO]; simp [whole, frac, expo, expTail, opt, eF1, eF2, eF16, eF17, eF19, eF21])
            | none =>
              rw [F21] at hr
              have H := Lib.hid (show Rd _ g s b (t16) from hr)
              replace F21 := Lib.hid F21
              clear hr
              go_wp2
              go_ret
              have eEO := EO.out
              have eF1 := F1.out
              have eF2 := F2.out
              have eF16 := F16.out
              have eF17 := F17.out
              have eF19 := F19.out
              have eF21 := F21.out
              exact PostN.no H.out HB.out (by rw [eEO]; simp [whole, frac, expo, expTail, opt, eF1, eF2, eF16, eF17, eF19, eF21])
      | none =>
        rw [F16] at hr
        have H := Lib.hid (show Rd _ g s b (t1) from hr)
        replace F16 := Lib.hid F16
        clear hr
        go_wp2_with fail
        refine (take_any g s _ (t1) 69 _ hs H.out).mono ?_
        rintro e w' ⟨b, hr, hb, rfl⟩
        replace HB := Lib.hid (HB.out.trans hb)
        clear hb H
        cases F22 : take 69 (t1) with
        | some t22 =>
          rw [F22] at hr
          have H := Lib.hid (show Rd _ g s b t22 from hr)
          replace F22 := Lib.hid F22
          clear hr
          go_wp2_with fail
          refine (take_any g s _ (t22) 43 _ hs H.out).mono ?_
          rintro e w' ⟨b, hr, hb, rfl⟩
          replace HB := Lib.hid (HB.out.trans hb)
          clear hb H
          cases F23 : take 43 (t22) with
          | some t23 =>
            rw [F23] at hr
            have H := Lib.hid (show Rd _ g s b t23 from hr)
            replace F23 := Lib.hid F23
            clear hr
            go_wp2_with fail
            refine (digits_any g s _ (t23) _ hs H.out).mono ?_
            rintro e w' ⟨b, hr, hb, rfl⟩
            replace HB := Lib.hid (HB.out.trans hb)
            clear hb H
            cases F24 : digits (t23) with
            | some t24 =>
              rw [F24] at hr
              have H := Lib.hid (show Rd _ g s b t24 from hr)
              replace F24 := Lib.hid F24
              clear hr
              go_wp2
              go_ret
              have eEO := EO.out
              have eF1 := F1.out
              have eF2 := F2.out
              have eF16 := F16.out
              have eF22 := F22.out
              have eF23 := F23.out
              have eF24 := F24.out
              exact PostN.ok H.out HB.out (by rw [eEO]; simp [whole, frac, expo, expTail, opt, eF1, eF2, eF16, eF22, eF23, eF24])
            | none =>
              rw [F24] at hr
              have H := Lib.hid (show Rd _ g s b (t23) from hr)
              replace F24 := Lib.hid F24
              clear hr
              go_wp2
              go_ret
              have eEO := EO.out
              have eF1 := F1.out
              have eF2 := F2.out
              have eF16 := F16.out
              have eF22 := F22.out
              have eF23 := F23.out
              have eF24 := F24.out
              exact PostN.no H.out HB.out (by rw [eEO]; simp [whole, frac, expo, expTail, opt, eF1, eF2, eF16, eF22, eF23, eF24])
          | none =>
            rw [F23] at hr
            have H := Lib.hid (show Rd _ g s b (t22) from hr)
            replace F23 := Lib.hid F23
            clear hr
            go_wp2_with fail
            refine (take_any g s _ (t22) 45 _ hs H.out).mono ?_
            rintro e w' ⟨b, hr, hb, rfl⟩
            replace HB := Lib.hid (HB.out.trans hb)
            clear hb H
            cases F25 : take 45 (t22) with
            | some t25 =>
              rw [F25] at hr
              have H := Lib.hid (show Rd _ g s b t25 from hr)
              replace F25 := Lib.hid F25
              clear hr
              go_wp2_with fail
              refine (digits_any g s _ (t25) _ hs H.out).mono ?_
              rintro e w' ⟨b, hr, hb, rfl⟩
              replace HB := Lib.hid (HB.out.trans hb)
              clear hb H
              cases F26 : digits (t25) with
              | some t26 =>
                rw [F26] at hr
                have H := Lib.hid (show Rd _ g s b t26 from hr)
                replace F26 := Lib.hid F26
                clear hr
                go_wp2
                go_ret
                have eEO := EO.out
                have eF1 := F1.out
                have eF2 := F2.out
                have eF16 := F16.out
                have eF22 := F22.out
                have eF23 := F23.out
                have eF25 := F25.out
                have eF26 := F26.out
                exact PostN.ok H.out HB.out (by rw [eEO]; simp [whole, frac, expo, expTail, opt, eF1, eF2, eF16, eF22, eF23, eF25, eF26])
              | none =>
                rw [F26] at hr
                have H := Lib.hid (show Rd _ g s b (t25) from hr)
                replace F26 := Lib.hid F26
                clear hr
                go_wp2
                go_ret
                have eEO := EO.out
                have eF1 := F1.out
                have eF2 := F2.out
                have eF16 := F16.out
                have eF22 := F22.out
                have eF23 := F23.out
                have eF25 := F25.out
                have eF26 := F26.out
                exact PostN.no H.out HB.out (by rw [eEO]; simp [whole, frac, expo, expTail, opt, eF1, eF2, eF16, eF22, eF23, eF25, eF26])
            | none =>
              rw [F25] at hr
              have H := Lib.hid (show Rd _ g s b (t22) from hr)
              replace F25 := Lib.hid F25
              clear hr
              go_wp2_with fail
              refine (digits_any g s _ (t22) _ hs H.out).mono ?_
              rintro e w' ⟨b, hr, hb, rfl⟩
              replace HB := Lib.hid (HB.out.trans hb)
              clear hb H
              cases F27 : digits (t22) with
              | some t27 =>
                rw [F27] at hr
                have H := Lib.hid (show Rd _ g s b t27 from hr)
                replace F27 := Lib.hid F27
                clear hr
                go_wp2
                go_ret
                have eEO := EO.out
                have eF1 := F1.out
                have eF2 := F2.out
                have eF16 := F16.out
                have eF22 := F22.out
                have eF23 := F23.out
                have eF25 := F25.out
                have eF27 := F27.out
                exact PostN.ok H.out HB.out (by rw [eEO]; simp [whole, frac, expo, expTail, opt, eF1, eF2, eF16, eF22, eF23, eF25, eF27])
              | none =>
                rw [F27] at hr
                have H := Lib.hid (show Rd _ g s b (t22) from hr)
                replace F27 := Lib.hid F27
                clear hr
                go_wp2
                go_ret
                have eEO := EO.out
                have eF1 := F1.out
                have eF2 := F2.out
                have eF16 := F16.out
                have eF22 := F22.out
                have eF23 := F23.out
                have eF25 := F25.out
                have eF27 := F27.out
                exact PostN.no H.out HB.out (by rw [eEO]; simp [whole, frac, expo, expTail, opt, eF1, eF2, eF16, eF22, eF23, eF25, eF27])
        | none =>
          rw [F22] at hr
          have H := Lib.hid (show Rd _ g s b (t1) from hr)
          replace F22 := Lib.hid F22
          clear hr
          go_wp2
          go_ret
          have eEO := EO.out
          have eF1 := F1.out
          have eF2 := F2.out
          have eF16 := F16.out
          have eF22 := F22.out
          exact PostN.ok H.out HB.out (by rw [eEO]; simp [whole, frac, expo, expTail, opt, eF1, eF2, eF16, eF22])
  | none =>
    rw [F1] at hr
    have H := Lib.hid (show Rd _ g s b (m) from hr)
    replace F1 := Lib.hid F1
    clear hr
    go_wp2_with fail
    refine (digits_any g s _ (m) _ hs H.out).mono ?_
    rintro e w' ⟨b, hr, hb, rfl⟩
    replace HB := Lib.hid (HB.out.trans hb)
    clear hb H
    cases F28 : digits (m) with
    | some t28 =>
      rw [F28] at hr
      have H := Lib.hid (show Rd _ g s b t28 from hr)
      replace F28 := Lib.hid F28
      clear hr
      go_wp2_with fail
      refine (take_any g s _ (t28) 46 _ hs H.out).mono ?_
      rintro e w' ⟨b, hr, hb, rfl⟩
      replace HB := Lib.hid (HB.out.trans hb)
      clear hb H
      cases F29 : take 46 (t28) with
      | some t29 =>
        rw [F29] at hr
        have H := Lib.hid (show Rd _ g s b t29 from hr)
        replace F29 := Lib.hid F29
        clear hr
        go_wp2_with fail
        refine (digits_any g s _ (t29) _ hs H.out).mono ?_
        rintro e w' ⟨b, hr, hb, rfl⟩
        replace HB := Lib.hid (HB.out.trans hb)
        clear hb H
        cases F30 : digits (t29) with
        | some t30 =>
          rw [F30] at hr
          have H := Lib.hid (show Rd _ g s b t30 from hr)
          replace F30 := Lib.hid F30
          clear hr
          go_wp2_with fail
          refine (take_any g s _ (t30) 101 _ hs H.out).mono ?_
          rintro e w' ⟨b, hr, hb, rfl⟩
          replace HB := Lib.hid (HB.out.trans hb)
          clear hb H
          cases F31 : take 101 (t30) with
          | some t31 =>
            rw [F31] at hr
            have H := Lib.hid (show Rd _ g s b t31 from hr)
            replace F31 := Lib.hid F31
            clear hr
            go_wp2_with fail
            refine (take_any g s _ (t31) 43 _ hs H.out).mono ?_
            rintro e w' ⟨b, hr, hb, rfl⟩
            replace HB := Lib.hid (HB.out.trans hb)
            clear hb H
            cases F32 : take 43 (t31) with
            | some t32 =>
              rw [F32] at hr
              have H := Lib.hid (show Rd _ g s b t32 from hr)
              replace F32 := Lib.hid F32
              clear hr
              go_wp2_with fail
              refine (digits_any g s _ (t32) _ hs H.out).mono ?_
              rintro e w' ⟨b, hr, hb, rfl⟩
              replace HB := Lib.hid (HB.out.trans hb)
              clear hb H
              cases F33 : digits (t32) with
              | some t33 =>
                rw [F33] at hr
                have H := Lib.hid (show Rd _ g s b t33 from hr)
                replace F33 := Lib.hid F33
                clear hr
                go_wp2
                go_ret
                have eEO := EO.out
                have eF1 := F1.out
                have eF28 := F28.out
                have eF29 := F29.out
                have eF30 := F30.out
                have eF31 := F31.out
                have eF32 := F32.out
                have eF33 := F33.out
                exact PostN.ok H.out HB.out (by rw [eEO]; simp [whole, frac, expo, expTail, opt, eF1, eF28, eF29, eF30, eF31, eF32, eF33])
              | none =>
                rw [F33] at hr
                have H := Lib.hid (show Rd _ g s b (t32) from hr)
                replace F33 := Lib.hid F33
                clear hr
                go_wp2
                go_ret
                have eEO := EO.out
                have eF1 := F1.out
                have eF28 := F28.out
                have eF29 := F29.out
                have eF30 := F30.out
                have eF31 := F31.out
                have eF32 := F32.out
                have eF33 := F33.out
                exact PostN.no H.out HB.out (by rw [eEO]; simp [whole, frac, expo, expTail, opt, eF1, eF28, eF29, eF30, eF31, eF32, eF33])
            | none =>
              rw [F32] at hr
              have H := Lib.hid (show Rd _ g s b (t31) from hr)
              replace F32 := Lib.hid F32
              clear hr
              go_wp2_with fail
              refine (take_any g s _ (t31) 45 _ hs H.out).mono ?_
              rintro e w' ⟨b, hr, hb, rfl⟩
              replace HB := Lib.hid (HB.out.trans hb)
              clear hb H
              cases F34 : take 45 (t31) with
              | some t34 =>
                rw [F34] at hr
                have H := Lib.hid (show Rd _ g s b t34 from hr)
                replace F34 := Lib.hid F34
                clear hr
                go_wp2_with fail
                refine (digits_any g s _ (t34) _ hs H.out).mono ?_
                rintro e w' ⟨b, hr, hb, rfl⟩
                replace HB := Lib.hid (HB.out.trans hb)
                clear hb H
                cases F35 : digits (t34) with
                | some t35 =>
                  rw [F35] at hr
                  have H := Lib.hid (show Rd _ g s b t35 from hr)
                  replace F35 := Lib.hid F35
                  clear hr
                  go_wp2
                  go_ret
                  have eEO := EO.out
                  have eF1 := F1.out
                  have eF28 := F28.out
                  have eF29 := F29.out
                  have eF30 := F30.out
                  have eF31 := F31.out
                  have eF32 := F32.out
                  have eF34 := F34.out
                  have eF35 := F35.out
                  exact PostN.ok H.out HB.out (by rw [eEO]; simp [whole, frac, expo, expTail, opt, eF1, eF28, eF29, eF30, eF31, eF32, eF34, eF35])
                | none =>
                  rw [F35] at hr
                  have H := Lib.hid (show Rd _ g s b (t34) from hr)
                  replace F35 := Lib.hid F35
                  clear hr
                  go_wp2
                  go_ret
                  have eEO := EO.out
                  have eF1 := F1.out
                  have eF28 := F28.out
                  have eF29 := F29.out
                  have eF30 := F30.out
                  have eF31 := F31.out
                  have eF32 := F32.out
                  have eF34 := F34.out
                  have eF35 := F35.out
                  exact PostN.no H.out HB.out (by rw [eEO]; simp [whole, frac, expo, expTail, opt, eF1, eF28, eF29, eF30, eF31, eF32, eF34, eF35])
              | none =>
                rw [F34] at hr
                have H := Lib.hid (show Rd _ g s b (t31) from hr)
                replace F34 := Lib.hid F34
                clear hr
                go_wp2_with fail
                refine (digits_any g s _ (t31) _ hs H.out).mono ?_
                rintro e w' ⟨b, hr, hb, rfl⟩
                replace HB := Lib.hid (HB.out.trans hb)
                clear hb H
                cases F36 : digits (t31) with
                | some t36 =>
                  rw [F36] at hr
                  have H := Lib.hid (show Rd _ g s b t36 from hr)
                  replace F36 := Lib.hid F36
                  clear hr
                  go_wp2
                  go_ret
                  have eEO := EO.out
                  have eF1 := F1.out
                  have eF28 := F28.out
                  have eF29 := F29.out
                  have eF30 := F30.out
                  have eF31 := F31.out
                  have eF32 := F32.out
                  have eF34 := F34.out
                  have eF36 := F36.out
                  exact PostN.ok H.out HB.out (by rw [eEO]; simp [whole, frac, expo, expTail, opt, eF1, eF28, eF29, eF30, eF31, eF32, eF34, eF36])
                | none =>
                  rw [F36] at hr
                  have H := Lib.hid (show Rd _ g s b (t31) from hr)
                  replace F36 := Lib.hid F36
                  clear hr
                  go_wp2
                  go_ret
                  have eEO := EO.out
                  have eF1 := F1.out
                  have eF28 := F28.out
                  have eF29 := F29.out
                  have eF30 := F30.out
                  have eF31 := F31.out
                  have eF32 := F32.out
                  have eF34 := F34.out
                  have eF36 := F36.out
                  exact PostN.no H.out HB.out (by rw [eEO]; simp [whole, frac, expo, expTail, opt, eF1, eF28, eF29, eF30, eF31, eF32, eF34, eF36])
          | none =>
            rw [F31] at hr
            have H := Lib.hid (show Rd _ g s b (t30) from hr)
            replace F31 := Lib.hid F31
            clear hr
            go_wp2_with fail
            refine (take_any g s _ (t30) 69 _ hs H.out).mono ?_
            rintro e w' ⟨b, hr, hb, rfl⟩
            replace HB := Lib.hid (HB.out.trans hb)
            clear hb H
            cases F37 : take 69 (t30) with
            | some t37 =>
              rw [F37] at hr
              have H := Lib.hid (show Rd _ g s b t37 from hr)
              replace F37 := Lib.hid F37
              clear hr
              go_wp2_with fail
              refine (take_any g s _ (t37) 43 _ hs H.out).mono ?_
              rintro e w' ⟨b, hr, hb, rfl⟩
              replace HB := Lib.hid (HB.out.trans hb)
              clear hb H
              cases F38 : take 43 (t37) with
              | some t38 =>
                rw [F38] at hr
                have H := Lib.hid (show Rd _ g s b t38 from hr)
                replace F38 := Lib.hid F38
                clear hr
                go_wp2_with fail
                refine (digits_any g s _ (t38) _ hs H.out).mono ?_
                rintro e w' ⟨b, hr, hb, rfl⟩
                replace HB := Lib.hid (HB.out.trans hb)
                clear hb H
                cases F39 : digits (t38) with
                | some t39 =>
                  rw [F39] at hr
                  have H := Lib.hid (show Rd _ g s b t39 from hr)
                  replace F39 := Lib.hid F39
                  clear hr
                  go_wp2
                  go_ret
                  have eEO := EO.out
                  have eF1 := F1.out
                  have eF28 := F28.out
                  have eF29 := F29.out
                  have eF30 := F30.out
                  have eF31 := F31.out
                  have eF37 := F37.out
                  have eF38 := F38.out
                  have eF39 := F39.out
                  exact PostN.ok H.out HB.out (by rw [eEO]; simp [whole, frac, expo, expTail, opt, eF1, eF28, eF29, eF30, eF31, eF37, eF38, eF39])
                | none =>
                  rw [F39] at hr
                  have H := Lib.hid (show Rd _ g s b (t38) from hr)
                  replace F39 := Lib.hid F39
                  clear hr
                  go_wp2
                  go_ret
                  have eEO := EO.out
                  have eF1 := F1.out
                  have eF28 := F28.out
                  have eF29 := F29.out
                  have eF30 := F30.out
                  have eF31 := F31.out
                  have eF37 := F37.out
                  have eF38 := F38.out
                  have eF39 := F39.out
                  exact PostN.no H.out HB.out (by rw [eEO]; simp [whole, frac, expo, expTail, opt, eF1, eF28, eF29, eF30, eF31, eF37, eF38, eF39])
              | none =>
                rw [F38] at hr
                have H := Lib.hid (show Rd _ g s b (t37) from hr)
                replace F38 := Lib.hid F38
                clear hr
                go_wp2_with fail
                refine (take_any g s _ (t37) 45 _ hs H.out).mono ?_
                rintro e w' ⟨b, hr, hb, rfl⟩
                replace HB := Lib.hid (HB.out.trans hb)
                clear hb H
                cases F40 : take 45 (t37) with
                | some t40 =>
                  rw [F40] at hr
                  have H := Lib.hid (show Rd _ g s b t40 from hr)
                  replace F40 := Lib.hid F40
                  clear hr
                  go_wp2_with fail
                  refine (digits_any g s _ (t40) _ hs H.out).mono ?_
                  rintro e w' ⟨b, hr, hb, rfl⟩
                  replace HB := Lib.hid (HB.out.trans hb)
                  clear hb H
                  cases F41 : digits (t40) with
                  | some t41 =>
                    rw [F41] at hr
                    have H := Lib.hid (show Rd _ g s b t41 from hr)
                    replace F41 := Lib.hid F41
                    clear hr
                    go_wp2
                    go_ret
                    have eEO := EO.out
                    have eF1 := F1.out
                    have eF28 := F28.out
                    have eF29 := F29.out
                    have eF30 := F30.out
                    have eF31 := F31.out
                    have eF37 := F37.out
                    have eF38 := F38.out
                    have eF40 := F40.out
                    have eF41 := F41.out
                    exact PostN.ok H.out HB.out (by rw [eEO]; simp [whole, frac, expo, expTail, opt, eF1, eF28, eF29, eF30, eF31, eF37, eF38, eF40, eF41])
                  | none =>
                    rw [F41] at hr
                    have H := Lib.hid (show Rd _ g s b (t40) from hr)
                    replace F41 := Lib.hid F41
                    clear hr
                    go_wp2
                    go_ret
                    have eEO := EO.out
                    have eF1 := F1.out
                    have eF28 := F28.out
                    have eF29 := F29.out
                    have eF30 := F30.out
                    have eF31 := F31.out
                    have eF37 := F37.out
                    have eF38 := F38.out
                    have eF40 := F40.out
                    have eF41 := F41.out
                    exact PostN.no H.out HB.out (by rw [eEO]; simp [whole, frac, expo, expTail, opt, eF1, eF28, eF29, eF30, eF31, eF37, eF38, eF40, eF41])
                | none =>
                  rw [F40] at hr
                  have H := Lib.hid (show Rd _ g s b (t37) from hr)
                  replace F40 := Lib.hid F40
                  clear hr
                  go_wp2_with fail
                  refine (digits_any g s _ (t37) _ hs H.out).mono ?_
                  rintro e w' ⟨b, hr, hb, rfl⟩
                  replace HB := Lib.hid (HB.out.trans hb)
                  clear hb H
                  cases F42 : digits (t37) with
                  | some t42 =>
                    rw [F42] at hr
                    have H := Lib.hid (show Rd _ g s b t42 from hr)
                    replace F42 := Lib.hid F42
                    clear hr
                    go_wp2
                    go_ret
                    have eEO := EO.out
                    have eF1 := F1.out
                    have eF28 := F28.out
                    have eF29 := F29.out
                    have eF30 := F30.out
                    have eF31 := F31.out
                    have eF37 := F37.out
                    have eF38 := F38.out
                    have eF40 := F40.out
                    have eF42 := F42.out
                    exact PostN.ok H.out HB.out (by rw [eEO]; simp [whole, frac, expo, expTail, opt, eF1, eF28, eF29, eF30, eF31, eF37, eF38, eF40, eF42])
                  | none =>
                    rw [F42] at hr
                    have H := Lib.hid (show Rd _ g s b (t37) from hr)
                    replace F42 := Lib.hid F42
                    clear hr
                    go_wp2
                    go_ret
                    have eEO := EO.out
                    have eF1 := F1.out
                    have eF28 := F28.out
                    have eF29 := F29.out
                    have eF30 := F30.out
                    have eF31 := F31.out
                    have eF37 := F37.out
                    have eF38 := F38.out
                    have eF40 := F40.out
                    have eF42 := F42.out
                    exact PostN.no H.out HB.out (by rw [eEO]; simp [whole, frac, expo, expTail, opt, eF1, eF28, eF29, eF30, eF31, eF37, eF38, eF40, eF42])
            | none =>
              rw [F37] at hr
              have H := Lib.hid (show Rd _ g s b (t30) from hr)
              replace F37 := Lib.hid F37
              clear hr
              go_wp2
              go_ret
              have eEO := EO.out
              have eF1 := F1.out
              have eF28 := F28.out
              have eF29 := F29.out
              have eF30 := F30.out
              have eF31 := F31.out
              have eF37 := F37.out
              exact PostN.ok H.out HB.out (by rw [eEO]; simp [whole, frac, expo, expTail, opt, eF1, eF28, eF29, eF30, eF31, eF37])
        | none =>
          rw [F30] at hr
          have H := Lib.hid (show Rd _ g s b (t29) from hr)
          replace F30 := Lib.hid F30
          clear hr
          go_wp2
          go_ret
          have eEO := EO.out
          have eF1 := F1.out
          have eF28 := F28.out
          have eF29 := F29.out
          have eF30 := F30.out
          exact PostN.no H.out HB.out (by rw [eEO]; simp [whole, frac, expo, expTail, opt, eF1, eF28, eF29, eF30])
      | none =>
        rw [F29] at hr
        have H := Lib.hid (show Rd _ g s b (t28) from hr)
        replace F29 := Lib.hid F29
        clear hr
        go_wp2_with fail
        refine (take_any g s _ (t28) 101 _ hs H.out).mono ?_
        rintro e w' ⟨b, hr, hb, rfl⟩
        replace HB := Lib.hid (HB.out.trans hb)
        clear hb H
        cases F43 : take 101 (t28) with
        | some t43 =>
          rw [F43] at hr
          have H := Lib.hid (show Rd _ g s b t43 from hr)
          replace F43 := Lib.hid F43
          clear hr
          go_wp2_with fail
          refine (take_any g s _ (t43) 43 _ hs H.out).mono ?_
          rintro e w' ⟨b, hr, hb, rfl⟩
          replace HB := Lib.hid (HB.out.trans hb)
          clear hb H
          cases F44 : take 43 (t43) with
          | some t44 =>
            rw [F44] at hr
            have H := Lib.hid (show Rd _ g s b t44 from hr)
            replace F44 := Lib.hid F44
            clear hr
            go_wp2_with fail
            refine (digits_any g s _ (t44) _ hs H.out).mono ?_
            rintro e w' ⟨b, hr, hb, rfl⟩
            replace HB := Lib.hid (HB.out.trans hb)
            clear hb H
            cases F45 : digits (t44) with
            | some t45 =>
              rw [F45] at hr
              have H := Lib.hid (show Rd _ g s b t45 from hr)
              replace F45 := Lib.hid F45
              clear hr
              go_wp2
              go_ret
              have eEO := EO.out
              have eF1 := F1.out
              have eF28 := F28.out
              have eF29 := F29.out
              have eF43 := F43.out
              have eF44 := F44.out
              have eF45 := F45.out
              exact PostN.ok H.out HB.out (by rw [eEO]; simp [whole, frac, expo, expTail, opt, eF1, eF28, eF29, eF43, eF44, eF45])
            | none =>
              rw [F45] at hr
              have H := Lib.hid (show Rd _ g s b (t44) from hr)
              replace F45 := Lib.hid F45
              clear hr
              go_wp2
              go_ret
              have eEO := EO.out
              have eF1 := F1.out
              have eF28 := F28.out
              have eF29 := F29.out
              have eF43 := F43.out
              have eF44 := F44.out
              have eF45 := F45.out
              exact PostN.no H.out HB.out (by rw [eEO]; simp [whole, frac, expo, expTail, opt, eF1, eF28, eF29, eF43, eF44, eF45])
          | none =>
            rw [F44] at hr
            have H := Lib.hid (show Rd _ g s b (t43) from hr)
            replace F44 := Lib.hid F44
            clear hr
            go_wp2_with fail
            refine (take_any g s _ (t43) 45 _ hs H.out).mono ?_
            rintro e w' ⟨b, hr, hb, rfl⟩
            replace HB := Lib.hid (HB.out.trans hb)
            clear hb H
            cases F46 : take 45 (t43) with
            | some t46 =>
              rw [F46] at hr
              have H := Lib.hid (show Rd _ g s b t46 from hr)
              replace F46 := Lib.hid F46
              clear hr
              go_wp2_with fail
              refine (digits_any g s _ (t46) _ hs H.out).mono ?_
              rintro e w' ⟨b, hr, hb, rfl⟩
              replace HB := Lib.hid (HB.out.trans hb)
              clear hb H
              cases F47 : digits (t46) with
              | some t47 =>
                rw [F47] at hr
                have H := Lib.hid (show Rd _ g s b t47 from hr)
                replace F47 := Lib.hid F47
                clear hr
                go_wp2
                go_ret
                have eEO := EO.out
                have eF1 := F1.out
                have eF28 := F28.out
                have eF29 := F29.out
                have eF43 := F43.out
                have eF44 := F44.out
                have eF46 := F46.out
                have eF47 := F47.out
                exact PostN.ok H.out HB.out (by rw [eEO]; simp [whole, frac, expo, expTail, opt, eF1, eF28, eF29, eF43, eF44, eF46, eF47])
              | none =>
                rw [F47] at hr
                have H := Lib.hid (show Rd _ g s b (t46) from hr)
                replace F47 := Lib.hid F47
                clear hr
                go_wp2
                go_ret
                have eEO := EO.out
                have eF1 := F1.out
                have eF28 := F28.out
                have eF29 := F29.out
                have eF43 := F43.out
                have eF44 := F44.out
                have eF46 := F46.out
                have eF47 := F47.out
                exact PostN.no H.out HB.out (by rw [eEO]; simp [whole, frac, expo, expTail, opt, eF1, eF28, eF29, eF43, eF44, eF46, eF47])
            | none =>
              rw [F46] at hr
              have H := Lib.hid (show Rd _ g s b (t43) from hr)
              replace F46 := Lib.hid F46
              clear hr
              go_wp2_with fail
              refine (digits_any g s _ (t43) _ hs H.out).mono ?_
              rintro e w' ⟨b, hr, hb, rfl⟩
              replace HB := Lib.hid (HB.out.trans hb)
              clear hb H
              cases F48 : digits (t43) with
              | some t48 =>
                rw [F48] at hr
                have H := Lib.hid (show Rd _ g s b t48 from hr)
                replace F48 := Lib.hid F48
                clear hr
                go_wp2
                go_ret
                have eEO := EO.out
                have eF1 := F1.out
                have eF28 := F28.out
                have eF29 := F29.out
                have eF43 := F43.out
                have eF44 := F44.out
                have eF46 := F46.out
                have eF48 := F48.out
                exact PostN.ok H.out HB.out (by rw [eEO]; simp [whole, frac, expo, expTail, opt, eF1, eF28, eF29, eF43, eF44, eF46, eF48])
              | none =>
                rw [F48] at hr
                have H := Lib.hid (show Rd _ g s b (t43) from hr)
                replace F48 := Lib.hid F48
                clear hr
                go_wp2
                go_ret
                have eEO := EO.out
                have eF1 := F1.out
                have eF28 := F28.out
                have eF29 := F29.out
                have eF43 := F43.out
                have eF44 := F44.out
                have eF46 := F46.out
                have eF48 := F48.out
                exact PostN.no H.out HB.out (by rw [eEO]; simp [whole, frac, expo, expTail, opt, eF1, eF28, eF29, eF43, eF44, eF46, eF48])
        | none =>
          rw [F43] at hr
          have H := Lib.hid (show Rd _ g s b (t28) from hr)
          replace F43 := Lib.hid F43
          clear hr
          go_wp2_with fail
          refine (take_any g s _ (t28) 69 _ hs H.out).mono ?_
          rintro e w' ⟨b, hr, hb, rfl⟩
          replace HB := Lib.hid (HB.out.trans hb)
          clear hb H
          cases F49 : take 69 (t28) with
          | some t49 =>
            rw [F49] at hr
            have H := Lib.hid (show Rd _ g s b t49 from hr)
            replace F49 := Lib.hid F49
            clear hr
            go_wp2_with fail
            refine (take_any g s _ (t49) 43 _ hs H.out).mono ?_
            rintro e w' ⟨b, hr, hb, rfl⟩
            replace HB := Lib.hid (HB.out.trans hb)
            clear hb H
            cases F50 : take 43 (t49) with
            | some t50 =>
              rw [F50] at hr
              have H := Lib.hid (show Rd _ g s b t50 from hr)
              replace F50 := Lib.hid F50
              clear hr
              go_wp2_with fail
              refine (digits_any g s _ (t50) _ hs H.out).mono ?_
              rintro e w' ⟨b, hr, hb, rfl⟩
              replace HB := Lib.hid (HB.out.trans hb)
              clear hb H
              cases F51 : digits (t50) with
              | some t51 =>
                rw [F51] at hr
                have H := Lib.hid (show Rd _ g s b t51 from hr)
                replace F51 := Lib.hid F51
                clear hr
                go_wp2
                go_ret
                have eEO := EO.out
                have eF1 := F1.out
                have eF28 := F28.out
                have eF29 := F29.out
                have eF43 := F43.out
                have eF49 := F49.out
                have eF50 := F50.out
                have eF51 := F51.out
                exact PostN.ok H.out HB.out (by rw [eEO]; simp [whole, frac, expo, expTail, opt, eF1, eF28, eF29, eF43, eF49, eF50, eF51])
              | none =>
                rw [F51] at hr
                have H := Lib.hid (show Rd _ g s b (t50) from hr)
                replace F51 := Lib.hid F51
                clear hr
                go_wp2
                go_ret
                have eEO := EO.out
                have eF1 := F1.out
                have eF28 := F28.out
                have eF29 := F29.out
                have eF43 := F43.out
                have eF49 := F49.out
                have eF50 := F50.out
                have eF51 := F51.out
                exact PostN.no H.out HB.out (by rw [eEO]; simp [whole, frac, expo, expTail, opt, eF1, eF28, eF29, eF43, eF49, eF50, eF51])
            | none =>
              rw [F50] at hr
              have H := Lib.hid (show Rd _ g s b (t49) from hr)
              replace F50 := Lib.hid F50
              clear hr
              go_wp2_with fail
              refine (take_any g s _ (t49) 45 _ hs H.out).mono ?_
              rintro e w' ⟨b, hr, hb, rfl⟩
              replace HB := Lib.hid (HB.out.trans hb)
              clear hb H
              cases F52 : take 45 (t49) with
              | some t52 =>
                rw [F52] at hr
                have H := Lib.hid (show Rd _ g s b t52 from hr)
                replace F52 := Lib.hid F52
                clear hr
                go_wp2_with fail
                refine (digits_any g s _ (t52) _ hs H.out).mono ?_
                rintro e w' ⟨b, hr, hb, rfl⟩
                replace HB := Lib.hid (HB.out.trans hb)
                clear hb H
                cases F53 : digits (t52) with
                | some t53 =>
                  rw [F53] at hr
                  have H := Lib.hid (show Rd _ g s b t53 from hr)
                  replace F53 := Lib.hid F53
                  clear hr
                  go_wp2
                  go_ret
                  have eEO := EO.out
                  have eF1 := F1.out
                  have eF28 := F28.out
                  have eF29 := F29.out
                  have eF43 := F43.out
                  have eF49 := F49.out
                  have eF50 := F50.out
                  have eF52 := F52.out
                  have eF53 := F53.out
                  exact PostN.ok H.out HB.out (by rw [eEO]; simp [whole, frac, expo, expTail, opt, eF1, eF28, eF29, eF43, eF49, eF50, eF52, eF53])
                | none =>
                  rw [F53] at hr
                  have H := Lib.hid (show Rd _ g s b (t52) from hr)
                  replace F53 := Lib.hid F53
                  clear hr
                  go_wp2
                  go_ret
                  have eEO := EO.out
                  have eF1 := F1.out
                  have eF28 := F28.out
                  have eF29 := F29.out
                  have eF43 := F43.out
                  have eF49 := F49.out
                  have eF50 := F50.out
                  have eF52 := F52.out
                  have eF53 := F53.out
                  exact PostN.no H.out HB.out (by rw [eEO]; simp [whole, frac, expo, expTail, opt, eF1, eF28, eF29, eF43, eF49, eF50, eF52, eF53])
              | none =>
                rw [F52] at hr
                have H := Lib.hid (show Rd _ g s b (t49) from hr)
                replace F52 := Lib.hid F52
                clear hr
                go_wp2_with fail
                refine (digits_any g s _ (t49) _ hs H.out).mono ?_
                rintro e w' ⟨b, hr, hb, rfl⟩
                replace HB := Lib.hid (HB.out.trans hb)
                clear hb H
                cases F54 : digits (t49) with
                | some t54 =>
                  rw [F54] at hr
                  have H := Lib.hid (show Rd _ g s b t54 from hr)
                  replace F54 := Lib.hid F54
                  clear hr
                  go_wp2
                  go_ret
                  have eEO := EO.out
                  have eF1 := F1.out
                  have eF28 := F28.out
                  have eF29 := F29.out
                  have eF43 := F43.out
                  have eF49 := F49.out
                  have eF50 := F50.out
                  have eF52 := F52.out
                  have eF54 := F54.out
                  exact PostN.ok H.out HB.out (by rw [eEO]; simp [whole, frac, expo, expTail, opt, eF1, eF28, eF29, eF43, eF49, eF50, eF52, eF54])
                | none =>
                  rw [F54] at hr
                  have H := Lib.hid (show Rd _ g s b (t49) from hr)
                  replace F54 := Lib.hid F54
                  clear hr
                  go_wp2
                  go_ret
                  have eEO := EO.out
                  have eF1 := F1.out
                  have eF28 := F28.out
                  have eF29 := F29.out
                  have eF43 := F43.out
                  have eF49 := F49.out
                  have eF50 := F50.out
                  have eF52 := F52.out
                  have eF54 := F54.out
                  exact PostN.no H.out HB.out (by rw [eEO]; simp [whole, frac, expo, expTail, opt, eF1, eF28, eF29, eF43, eF49, eF50, eF52, eF54])
          | none =>
            rw [F49] at hr
            have H := Lib.hid (show Rd _ g s b (t28) from hr)
            replace F49 := Lib.hid F49
            clear hr
            go_wp2
            go_ret
            have eEO := EO.out
            have eF1 := F1.out
            have eF28 := F28.out
            have eF29 := F29.out
            have eF43 := F43.out
            have eF49 := F49.out
            exact PostN.ok H.out HB.out (by rw [eEO]; simp [whole, frac, expo, expTail, opt, eF1, eF28, eF29, eF43, eF49])
    | none =>
      rw [F28] at hr
      have H := Lib.hid (show Rd _ g s b (m) from hr)
      replace F28 := Lib.hid F28
      clear hr
      go_wp2
      go_ret
      have eEO := EO.out
      have eF1 := F1.out
      have eF28 := F28.out
      exact PostN.no H.out HB.out (by rw [eEO]; simp [whole, frac, expo, expTail, opt, eF1, eF28])
end Go.Proofs.YthehnffmbdlopaaDoor.J

set_option linter.unusedVariables false
set_option linter.unusedSimpArgs false
namespace Go.Proofs.YthehnffmbdlopaaDoor.J
open Go.RowKit Go.Proofs.YthehnffmbdlopaaDoorW.PrintWords Go.Proofs.YthehnffmbdlopaaDoorW.PrintLast Go.Proofs.YthehnffmbdlopaaDoorW.PrintMore Go.Proofs.YthehnffmbdlopaaDoor.Aid

/-- What a hexadecimal digit stands for. -/
def hexV (c : Int) : Int := if dig c = true then c - 48 else if 97 ≤ c ∧ c ≤ 102 then c - 87 else if 65 ≤ c ∧ c ≤ 70 then c - 55 else 0

theorem hexDigit_any (c : Int) (h0 : 0 ≤ c) (h1 : c ≤ 255) (w : World) :
    Calls Tryd.prog 49 #[.int .u8 c] w fun e w' => e = .returned (.tuple #[.int .i64 (hexV c), .bool (hex c)]) ∧ w' = w := by
  by_cases d : 48 ≤ c ∧ c ≤ 57
  · obtain ⟨d1, d2⟩ := d
    have E : Hid (hexV c = c - 48 ∧ hex c = true) := Lib.hid (by
      have e : dig c = true := by simp [dig, d1, d2]
      exact ⟨by simp [hexV, e], by simp [hex, e]⟩)
    go_enter Tryd.func49, Tryd.ntmps49
    go_wp2
    go_ret2
    exact ⟨by rw [E.out.1, E.out.2]; rfl, rfl⟩
  by_cases d' : 97 ≤ c ∧ c ≤ 102
  · obtain ⟨d1, d2⟩ := d'
    have E : Hid (hexV c = c - 97 + 10 ∧ hex c = true) := Lib.hid (by
      have e : dig c = false := by simp [dig]; omega
      refine ⟨?_, by simp [hex, e, d1, d2]⟩
      unfold hexV
      rw [e, if_neg (by simp), if_pos ⟨d1, d2⟩]; omega)
    have q : ¬ c ≤ 57 := by omega
    clear d
    go_enter Tryd.func49, Tryd.ntmps49
    go_wp2
    go_ret2
    exact ⟨by rw [E.out.1, E.out.2]; rfl, rfl⟩
  by_cases d'' : 65 ≤ c ∧ c ≤ 70
  · obtain ⟨d1, d2⟩ := d''
    have E : Hid (hexV c = c - 65 + 10 ∧ hex c = true) := Lib.hid (by
      have e : dig c = false := by simp [dig]; omega
      refine ⟨?_, by simp [hex, e, d1, d2]⟩
      unfold hexV
      rw [e, if_neg (by simp), if_neg (by omega), if_pos ⟨d1, d2⟩]; omega)
    have q : ¬ c ≤ 57 := by omega
    have q' : ¬ 97 ≤ c := by omega
    clear d d'
    go_enter Tryd.func49, Tryd.ntmps49
    go_wp2
    go_ret2
    exact ⟨by rw [E.out.1, E.out.2]; rfl, rfl⟩
  have E : Hid (hexV c = 0 ∧ hex c = false) := Lib.hid (by
    have e : dig c = false := by simp [dig]; omega
    refine ⟨?_, by simp [hex, e]; omega⟩
    unfold hexV
    rw [e, if_neg (by simp), if_neg d', if_neg d''])
  by_cases e1 : 48 ≤ c <;> by_cases e2 : 97 ≤ c <;> by_cases e3 : 65 ≤ c
  all_goals first | (exfalso; omega) | skip
  all_goals
    have q1 : ¬ (48 ≤ c ∧ c ≤ 57) := d
    have q2 : ¬ (97 ≤ c ∧ c ≤ 102) := d'
    have q3 : ¬ (65 ≤ c ∧ c ≤ 70) := d''
    clear d d' d''
    go_enter Tryd.func49, Tryd.ntmps49
    go_wp2
    all_goals go_ret2
    all_goals exact ⟨by rw [E.out.1, E.out.2]; rfl, rfl⟩

set_option maxHeartbeats 2000000 in
theorem escape_any (g : Nat) (s : ByteArray) (a : Nat) (l : L) (w : World) (hs : s.size ≤ 2147483647) (h : Rd w g s a l) :
    Calls Tryd.prog 70 #[.pointer (some ⟨g, 0, none⟩)] w (PostN g s w (esc l)) := by
  have H := Lib.hid h
  have HB := Lib.hid (But.refl g w)
  have c1 := h.cell1
  have f1 := h.frozen1
  clear h
  cases l with
  | nil =>
    go_enter Tryd.func70, Tryd.ntmps70
    go_wp2_with fail
    refine (here_any g s _ _ _ hs H.out).mono ?_
    rw [show hd ([] : L) = 0 from rfl]
    rintro e w' ⟨rfl, n0, rfl⟩
    go_wp2
    go_ret
    exact PostN.no (H.out.drew _) (HB.out.drewN _) rfl
  | cons c t =>
    have hr := H.out.range
    have hl := H.out.len
    simp only [List.length_cons] at hl
    by_cases hp : plainEsc c = true
    · have HE : Hid (esc (c :: t) = some t) := Lib.hid (by simp [esc, hp])
      simp only [plainEsc, Bool.or_eq_true, beq_iff_eq] at hp
      rcases hp with ((((((rfl | rfl) | rfl) | rfl) | rfl) | rfl) | rfl) | rfl
      all_goals
        go_enter Tryd.func70, Tryd.ntmps70
        go_wp2_with fail
        refine (here_any g s _ _ _ hs H.out).mono ?_
        rw [show ∀ c : Int, hd (c :: t) = c from fun _ => rfl]
        rintro e w' ⟨rfl, n0, rfl⟩
        go_wp2
        go_ret
        exact PostN.ok (H.out.drew n0).step ((HB.out.drewN n0).set 1 _) HE.out
    · have hp' := hp
      simp only [plainEsc, Bool.or_eq_true, beq_iff_eq, not_or] at hp'
      obtain ⟨⟨⟨⟨⟨⟨⟨p1, p2⟩, p3⟩, p4⟩, p5⟩, p6⟩, p7⟩, p8⟩ := hp'
      have b1 : (c == 34) = false := beq_eq_false_iff_ne.mpr p1
      have b2 : (c == 92) = false := beq_eq_false_iff_ne.mpr p2
      have b3 : (c == 47) = false := beq_eq_false_iff_ne.mpr p3
      have b4 : (c == 98) = false := beq_eq_false_iff_ne.mpr p4
      have b5 : (c == 102) = false := beq_eq_false_iff_ne.mpr p5
      have b6 : (c == 110) = false := beq_eq_false_iff_ne.mpr p6
      have b7 : (c == 114) = false := beq_eq_false_iff_ne.mpr p7
      have b8 : (c == 116) = false := beq_eq_false_iff_ne.mpr p8
      clear p1 p2 p3 p4 p5 p6 p7 p8
      by_cases hu : c = 117
      · have b9 : (c == 117) = true := beq_iff_eq.mpr hu
        have HE : Hid (esc (c :: t) = hexes 4 t) := Lib.hid (by simp only [esc]; rw [if_neg hp, if_pos hu])
        clear hp hu
        go_enter Tryd.func70, Tryd.ntmps70
        go_wp2_with fail
        refine (here_any g s _ _ _ hs H.out).mono ?_
        rw [show hd (c :: t) = c from rfl]
        rintro e w' ⟨rfl, n0, rfl⟩
        go_wp2
        have H1 := Lib.hid (H.out.drew n0).step
        have HB1 := Lib.hid ((HB.out.drewN n0).set 1 (.int .i64 ((a : Int) + 1)))
        clear H HB c1 f1 b1 b2 b3 b4 b5 b6 b7 b8 b9
        go_loopg [3] 4 (fun kq v w' => Hid (∃ k a' l', kq + k = 4 ∧ v = .int .i64 (k : Nat) ∧ Rd w' g s a' l' ∧ hexes kq l' = hexes 4 t ∧ But g w w'))
        case atStart => exact Lib.hid ⟨0, a + 1, t, rfl, rfl, H1.out, rfl, HB1.out⟩
        case round =>
          obtain ⟨k, a', l', hk, rfl, hr', he, hb'⟩ := hrel.out
          clear hrel
          have HK := Lib.hid hk
          have H := Lib.hid hr'
          have HB := Lib.hid hb'
          have HX := Lib.hid he
          have hk4 : k ≤ 4 := by omega
          clear hk hr' hb' he
          by_cases hlt : k < 4
          · obtain ⟨m, hm⟩ : ∃ m, gk = m + 1 := ⟨gk - 1, by have := HK.out; omega⟩
            cases l' with
            | nil =>
              have HN : Hid (esc (c :: t) = none) := Lib.hid (by rw [HE.out, ← HX.out, hm]; rfl)
              clear hm
              go_wp2_with (first | (go_at_call 54; refine (here_any g s _ _ _ hs H.out).mono ?_; rw [show hd ([] : L) = 0 from rfl]; rintro e w' ⟨rfl, n1, rfl⟩) | (go_at_call 49; refine (hexDigit_any 0 (by omega) (by omega) _).mono ?_; rw [show hexV 0 = 0 from rfl, show hex 0 = false from rfl]; rintro e w' ⟨rfl, rfl⟩))
              go_ret
              exact PostN.no (H.out.drew _) (HB.out.drewN _) HN.out
            | cons x r =>
              have hx := H.out.range
              have c1 := H.out.cell1
              have f1 := H.out.frozen1
              have hl2 := H.out.len
              simp only [List.length_cons] at hl2
              cases hh : hex x with
              | false =>
                have HN : Hid (esc (c :: t) = none) := Lib.hid (by rw [HE.out, ← HX.out, hm]; simp [hexes, hh])
                have HH := Lib.hid hh
                clear hm hh
                go_wp2_with (first | (go_at_call 54; refine (here_any g s _ _ _ hs H.out).mono ?_; rw [show hd (x :: r) = x from rfl]; rintro e w' ⟨rfl, n1, rfl⟩) | (go_at_call 49; refine (hexDigit_any x hx.1 hx.2 _).mono ?_; rw [HH.out]; rintro e w' ⟨rfl, rfl⟩))
                go_ret
                exact PostN.no (H.out.drew _) (HB.out.drewN _) HN.out
              | true =>
                have HH := Lib.hid hh
                have HY : Hid (hexes m r = hexes 4 t) := Lib.hid (by rw [← HX.out, hm]; simp [hexes, hh])
                have HM := Lib.hid hm
                clear hm hh
                go_wp2_with (first | (go_at_call 54; refine (here_any g s _ _ _ hs H.out).mono ?_; rw [show hd (x :: r) = x from rfl]; rintro e w' ⟨rfl, n1, rfl⟩) | (go_at_call 49; refine (hexDigit_any x hx.1 hx.2 _).mono ?_; rw [HH.out]; rintro e w' ⟨rfl, rfl⟩))
                go_roundg m
                case rel => exact Lib.hid ⟨k + 1, a' + 1, r, by have := HK.out; have := HM.out; omega, by go_num, (H.out.drew n1).step, HY.out, (HB.out.drewN n1).set 1 _⟩
                case measure => have := HM.out; omega
          · obtain rfl : k = 4 := by omega
            have HG : Hid (gk = 0) := Lib.hid (by have := HK.out; omega)
            have HS : Hid (esc (c :: t) = some l') := Lib.hid (by rw [HE.out, ← HX.out, HG.out]; rfl)
            go_wp2
            go_ret
            exact PostN.ok H.out HB.out HS.out
      · have b9 : (c == 117) = false := beq_eq_false_iff_ne.mpr hu
        have HE : Hid (esc (c :: t) = none) := Lib.hid (by simp [esc, hp, hu])
        clear hp hu
        go_enter Tryd.func70, Tryd.ntmps70
        go_wp2_with fail
        refine (here_any g s _ _ _ hs H.out).mono ?_
        rw [show hd (c :: t) = c from rfl]
        rintro e w' ⟨rfl, n0, rfl⟩
        go_wp2
        go_ret
        exact PostN.no (H.out.drew _) (HB.out.drewN _) HE.out

/-- quoted: the first mark stands here. -/
theorem quoted_any (g : Nat) (s : ByteArray) (a : Nat) (c : Int) (t : L) (w : World) (hs : s.size ≤ 2147483647) (h : Rd w g s a (c :: t)) :
    Calls Tryd.prog 57 #[.pointer (some ⟨g, 0, none⟩)] w (PostN g s w (str t)) := by
  have c1 := h.cell1
  have f1 := h.frozen1
  have hl := h.len
  simp only [List.length_cons] at hl
  have H1 := Lib.hid h.step
  have HB1 := Lib.hid ((But.refl g w).set 1 (.int .i64 ((a : Int) + 1)))
  clear h
  go_enter Tryd.func57, Tryd.ntmps57
  go_wp2
  clear c1 f1
  go_loopg [] t.length (fun kq w' => Hid (∃ a' l', l'.length = kq ∧ Rd w' g s a' l' ∧ str l' = str t ∧ But g w w'))
  case atStart => exact Lib.hid ⟨a + 1, t, rfl, H1.out, rfl, HB1.out⟩
  case round =>
    obtain ⟨a', l', hk, hr', he, hb'⟩ := hrel.out
    clear hrel H1 HB1
    have hl' := hr'.len
    have c0 := hr'.cell0
    have c1 := hr'.cell1
    have f1 := hr'.frozen1
    have HK := Lib.hid hk
    have H := Lib.hid hr'
    have HB := Lib.hid hb'
    have HX := Lib.hid he
    clear hk hr' hb' he
    cases l' with
    | nil =>
      obtain rfl : a' = s.size := by simpa using hl'
      clear hl'
      go_wp2
      go_quiet (fail)
      go_wp2
      go_ret
      exact PostN.no (H.out.drew _) (HB.out.drewN _) (by rw [← HX.out, str_nil])
    | cons x r =>
      simp only [List.length_cons] at hl'
      have hlt : a' < s.size := by omega
      have hb := H.out.byte hlt
      have hx := H.out.range
      have HX' := Lib.hid (HX.out.symm.trans (str_cons x r))
      by_cases q1 : x = 34
      · have b1 : (((s[a']'hlt).toNat : Int) == 34) = true := by rw [hb]; exact beq_iff_eq.mpr q1
        have HN : Hid (str t = some r) := Lib.hid (by rw [HX'.out, if_pos q1])
        clear hb hl' q1
        go_wp2
        go_quiet (fail)
        go_wp2
        go_quiet (fail)
        go_wp2
        go_ret
        exact PostN.ok (H.out.drew _).step ((HB.out.drewN _).set 1 _) HN.out
      have b1 : (((s[a']'hlt).toNat : Int) == 34) = false := by rw [hb]; exact beq_eq_false_iff_ne.mpr q1
      by_cases q2 : x < 32
      · have b2 : decide (((s[a']'hlt).toNat : Int) < 32) = true := by rw [hb]; exact decide_eq_true q2
        have HN : Hid (str t = none) := Lib.hid (by rw [HX'.out, if_neg q1, if_pos q2])
        clear hb hl' q1 q2
        go_wp2
        go_quiet (fail)
        go_wp2
        go_quiet (fail)
        go_wp2
        go_ret
        exact PostN.no (H.out.drew _).step ((HB.out.drewN _).set 1 _) HN.out
      have b2 : decide (((s[a']'hlt).toNat : Int) < 32) = false := by rw [hb]; exact decide_eq_false q2
      by_cases q3 : x = 92
      · have b3 : (((s[a']'hlt).toNat : Int) == 92) = true := by rw [hb]; exact beq_iff_eq.mpr q3
        have HN : Hid (str t = (esc r).bind str) := Lib.hid (by rw [HX'.out, if_neg q1, if_neg q2, if_pos q3])
        clear hb hl' q1 q2 q3
        cases he : esc r with
        | none =>
          have HE := Lib.hid he
          clear he
          go_wp2
          go_quiet (fail)
          go_wp2
          go_quiet (fail)
          go_wp2_with fail
          refine (escape_any g s _ r _ hs (H.out.drew _).step).mono ?_
          rw [HE.out]
          rintro e w' ⟨b, t', hr2, hb2, rfl, hu⟩
          have H2 := Lib.hid hr2
          have HB2 := Lib.hid (((HB.out.drewN _).set 1 _).trans hb2)
          clear hr2 hb2 hu
          go_wp2
          go_ret
          exact PostN.no H2.out HB2.out (by rw [HN.out, HE.out]; rfl)
        | some u =>
          have HE := Lib.hid he
          clear he
          go_wp2
          go_quiet (fail)
          go_wp2
          go_quiet (fail)
          go_wp2_with fail
          refine (escape_any g s _ r _ hs (H.out.drew _).step).mono ?_
          rw [HE.out]
          rintro e w' ⟨b, t', hr2, hb2, rfl, hu⟩
          obtain rfl := hu u rfl
          have H2 := Lib.hid hr2
          have HB2 := Lib.hid (((HB.out.drewN _).set 1 _).trans hb2)
          clear hr2 hb2 hu
          go_wp2
          go_roundg t'.length
          case rel => exact Lib.hid ⟨b, t', rfl, H2.out, by rw [HN.out, HE.out]; rfl, HB2.out⟩
          case measure => have := HK.out; have := esc_lt HE.out; simp only [List.length_cons] at *; omega
      · have b3 : (((s[a']'hlt).toNat : Int) == 92) = false := by rw [hb]; exact beq_eq_false_iff_ne.mpr q3
        have HN : Hid (str t = str r) := Lib.hid (by rw [HX'.out, if_neg q1, if_neg q2, if_neg q3])
        clear hb hl' q1 q2 q3
        go_wp2
        go_quiet (fail)
        go_wp2
        go_quiet (fail)
        go_wp2
        go_roundg r.length
        case rel => exact Lib.hid ⟨a' + 1, r, rfl, (H.out.drew _).step, HN.out.symm, (HB.out.drewN _).set 1 _⟩
        case measure => have := HK.out; simp only [List.length_cons] at *; omega
end Go.Proofs.YthehnffmbdlopaaDoor.J

set_option linter.unusedVariables false
namespace Go.Proofs.YthehnffmbdlopaaDoor.J

/-- A hexadecimal digit's value. -/
def hv (c : Int) : Int := if dig c = true then c - 48 else if 97 ≤ c then c - 87 else c - 55
theorem hv_range {c : Int} (h : hex c = true) : 0 ≤ hv c ∧ hv c ≤ 15 := by
  unfold hex at h
  unfold hv
  by_cases d : dig c = true
  · rw [if_pos d]; unfold dig at d; simp at d; omega
  · rw [if_neg d]
    simp [d] at h
    split <;> omega
/-- The number of the escape \uXXXX that stands here. -/
def unit (l : L) : Option Int :=
  if 6 ≤ l.length ∧ l.getD 0 0 = 92 ∧ l.getD 1 0 = 117 ∧ hex (l.getD 2 0) = true ∧ hex (l.getD 3 0) = true ∧ hex (l.getD 4 0) = true ∧ hex (l.getD 5 0) = true then
    some (((hv (l.getD 2 0) * 16 + hv (l.getD 3 0)) * 16 + hv (l.getD 4 0)) * 16 + hv (l.getD 5 0)) else none
theorem unit_range {l : L} {n : Int} (h : unit l = some n) : 0 ≤ n ∧ n ≤ 65535 := by
  unfold unit at h
  split at h
  · rename_i hh
    obtain ⟨_, _, _, h2, h3, h4, h5⟩ := hh
    have := hv_range h2; have := hv_range h3; have := hv_range h4; have := hv_range h5
    injection h with h; omega
  · cases h
def high (n : Int) : Bool := decide (55296 ≤ n) && decide (n ≤ 56319)
def low (n : Int) : Bool := decide (56320 ≤ n) && decide (n ≤ 57343)
/-- A character in UTF-8; half a surrogate pair as U+FFFD. -/
def utf8 (c : Int) : L :=
  if c < 128 then [c] else if c < 2048 then [192 + c / 64, 128 + c % 64] else if high c = true ∨ low c = true then [239, 191, 189]
  else if c < 65536 then [224 + c / 4096, 128 + c / 64 % 64, 128 + c % 64] else [240 + c / 262144, 128 + c / 4096 % 64, 128 + c / 64 % 64, 128 + c % 64]
def comb (n m : Int) : Int := 65536 + (n - 55296) * 1024 + (m - 56320)
def short (c : Int) : Int := if c = 98 then 8 else if c = 102 then 12 else if c = 110 then 10 else if c = 114 then 13 else if c = 116 then 9 else c

/-- The reference: a well-formed inside. -/
def unq (l : L) : L :=
  match l with
  | [] => []
  | c :: t => if c = 92 then (match unit (c :: t) with
      | none => short (t.headD 0) :: unq t.tail
      | some n => match unit (t.drop 5) with
        | some m => if high n = true ∧ low m = true then utf8 (comb n m) ++ unq (t.drop 11) else utf8 n ++ unq (t.drop 5)
        | none => utf8 n ++ unq (t.drop 5))
    else c :: unq t
termination_by l.length
decreasing_by all_goals (simp only [List.length_drop, List.length_tail, List.length_cons]; omega)
theorem unq_nil : unq [] = [] := by rw [unq]
theorem unq_plain {c : Int} (t : L) (h : c ≠ 92) : unq (c :: t) = c :: unq t := by rw [unq, if_neg h]
theorem unq_short {t : L} (h : unit (92 :: t) = none) : unq (92 :: t) = short (t.headD 0) :: unq t.tail := by rw [unq, if_pos rfl]; simp only [h]
theorem unq_pair {t : L} {n m : Int} (h : unit (92 :: t) = some n) (k : unit (t.drop 5) = some m) (g : high n = true ∧ low m = true) : unq (92 :: t) = utf8 (comb n m) ++ unq (t.drop 11) := by
  rw [unq, if_pos rfl]; simp only [h, k]; rw [if_pos g]
theorem unq_one {t : L} {n : Int} (h : unit (92 :: t) = some n) (k : ∀ m, unit (t.drop 5) = some m → ¬ (high n = true ∧ low m = true)) : unq (92 :: t) = utf8 n ++ unq (t.drop 5) := by
  rw [unq, if_pos rfl]; simp only [h]
  cases e : unit (t.drop 5) with
  | none => rfl
  | some m => simp only []; rw [if_neg (k m e)]
/-- Each backslash begins an escape. -/
def wellE (l : L) : Bool :=
  match l with
  | [] => true
  | c :: t => if c = 92 then (match h : esc t with
      | none => false
      | some r => wellE r)
    else wellE t
termination_by l.length
decreasing_by
  · have := esc_lt h; simp only [List.length_cons]; omega
  · simp only [List.length_cons]; omega
theorem wellE_nil : wellE [] = true := by rw [wellE]
theorem wellE_plain {c : Int} (t : L) (h : c ≠ 92) : wellE (c :: t) = wellE t := by rw [wellE, if_neg h]
theorem wellE_no {t : L} (h : esc t = none) : wellE (92 :: t) = false := by
  rw [wellE, if_pos rfl]
  split
  · rfl
  · rename_i r e; rw [h] at e; cases e
theorem wellE_yes {t r : L} (h : esc t = some r) : wellE (92 :: t) = wellE r := by
  rw [wellE, if_pos rfl]
  split
  · rename_i e; rw [h] at e; cases e
  · rename_i r' e; rw [h] at e; injection e with e; rw [e]
def unesc (l : L) : Option L := if wellE l = true then some (unq l) else none

/-- The parser at a backslash: how many bytes are read, and what they stand for. -/
def ue (l : L) : Option (Nat × L) :=
  if l.length < 2 then none
  else if plainEsc (l.getD 1 0) = true then some (2, [short (l.getD 1 0)])
  else if l.getD 1 0 = 117 then (match unit l with
    | none => none
    | some n => if high n = true then (if l.length < 8 ∨ l.getD 6 0 ≠ 92 ∨ l.getD 7 0 ≠ 117 then some (6, [239, 191, 189]) else match unit (l.drop 6) with
        | none => none
        | some m => if low m = true then some (12, utf8 (comb n m)) else some (6, [239, 191, 189]))
      else some (6, utf8 n))
  else none
theorem ue_pos {l o : L} {k : Nat} (h : ue l = some (k, o)) : 2 ≤ k ∧ k ≤ l.length ∧ o.length ≤ k ∧ o.length ≤ 4 := by
  have hu : ∀ n, (utf8 n).length ≤ 4 := by intro n; unfold utf8; repeat' split
                                           all_goals simp
  have hl : ∀ (l : L) n, unit l = some n → 6 ≤ l.length := by intro l n h; unfold unit at h; split at h; · rename_i g; exact g.1
                                                              · cases h
  unfold ue at h
  split at h
  · cases h
  split at h
  · simp only [Option.some.injEq, Prod.mk.injEq] at h; obtain ⟨rfl, rfl⟩ := h; simp; omega
  split at h
  · split at h
    · cases h
    · rename_i n e
      have h6 := hl _ _ e
      split at h
      · split at h
        · simp only [Option.some.injEq, Prod.mk.injEq] at h; obtain ⟨rfl, rfl⟩ := h; simp; omega
        · split at h
          · cases h
          · rename_i m e2
            have h12 := hl _ _ e2
            rw [List.length_drop] at h12
            split at h
            · simp only [Option.some.injEq, Prod.mk.injEq] at h; obtain ⟨rfl, rfl⟩ := h; have := hu (comb n m); omega
            · simp only [Option.some.injEq, Prod.mk.injEq] at h; obtain ⟨rfl, rfl⟩ := h; simp; omega
      · simp only [Option.some.injEq, Prod.mk.injEq] at h; obtain ⟨rfl, rfl⟩ := h; have := hu n; omega
  · cases h
/-- The parser over the whole text. -/
def pu (l : L) : Option L :=
  match l with
  | [] => some []
  | c :: t => if c = 92 then (match h : ue (c :: t) with
      | none => none
      | some (k, o) => (pu ((c :: t).drop k)).map (o ++ ·))
    else (pu t).map (c :: ·)
termination_by l.length
decreasing_by
  · have := ue_pos h; simp only [List.length_drop, List.length_cons] at *; omega
  · simp only [List.length_cons]; omega
theorem pu_nil : pu [] = some [] := by rw [pu]
theorem pu_plain {c : Int} (t : L) (h : c ≠ 92) : pu (c :: t) = (pu t).map (c :: ·) := by rw [pu, if_neg h]
theorem pu_no {t : L} (h : ue (92 :: t) = none) : pu (92 :: t) = none := by
  rw [pu, if_pos rfl]
  split
  · rfl
  · rename_i r e; rw [h] at e; cases e
theorem pu_yes {t o : L} {k : Nat} (h : ue (92 :: t) = some (k, o)) : pu (92 :: t) = (pu ((92 :: t).drop k)).map (o ++ ·) := by
  rw [pu, if_pos rfl]
  split
  · rename_i e; rw [h] at e; cases e
  · rename_i k' o' e; rw [h] at e; simp only [Option.some.injEq, Prod.mk.injEq] at e; obtain ⟨rfl, rfl⟩ := e; rfl
theorem hexes4 (r : L) : hexes 4 r = if 4 ≤ r.length ∧ hex (r.getD 0 0) = true ∧ hex (r.getD 1 0) = true ∧ hex (r.getD 2 0) = true ∧ hex (r.getD 3 0) = true then some (r.drop 4) else none := by
  rcases r with _ | ⟨a, _ | ⟨b, _ | ⟨c, _ | ⟨d, r⟩⟩⟩⟩
  · simp [hexes]
  · simp only [hexes]; split <;> simp
  · simp only [hexes]; split
    · split <;> simp
    · simp
  · simp only [hexes]; split
    · split
      · split <;> simp
      · simp
    · simp
  · simp only [hexes, List.getD_cons_zero, List.getD_cons_succ, List.length_cons]
    by_cases h0 : hex a = true <;> by_cases h1 : hex b = true <;> by_cases h2 : hex c = true <;> by_cases h3 : hex d = true <;> simp [h0, h1, h2, h3]
theorem unit_yes {r : L} {n : Int} (h : unit (92 :: 117 :: r) = some n) : hexes 4 r = some (r.drop 4) ∧ 4 ≤ r.length := by
  unfold unit at h
  split at h
  · rename_i g
    obtain ⟨g1, _, _, g2, g3, g4, g5⟩ := g
    simp only [List.length_cons] at g1
    exact ⟨by rw [hexes4, if_pos ⟨by omega, g2, g3, g4, g5⟩], by omega⟩
  · cases h
theorem unit_no {r : L} (h : unit (92 :: 117 :: r) = none) : hexes 4 r = none := by
  unfold unit at h
  split at h
  · cases h
  · rename_i g
    rw [hexes4, if_neg]
    intro k
    exact g ⟨by simp only [List.length_cons]; omega, rfl, rfl, k.2.1, k.2.2.1, k.2.2.2.1, k.2.2.2.2⟩
theorem unit_else {l : L} (h : ¬ (l.getD 0 0 = 92 ∧ l.getD 1 0 = 117)) : unit l = none := by
  unfold unit
  rw [if_neg]
  intro k
  exact h ⟨k.2.1, k.2.2.1⟩
theorem plainEsc_ne {d : Int} (h : plainEsc d = true) : d ≠ 117 := by
  intro e
  subst e
  exact absurd h (by decide)
theorem esc_plain {d : Int} (r : L) (h : plainEsc d = true) : esc (d :: r) = some r := by simp only [esc]; rw [if_pos h]
theorem esc_u (r : L) : esc (117 :: r) = hexes 4 r := by simp only [esc]; rw [if_neg (by decide), if_pos trivial]
theorem esc_else {d : Int} (r : L) (h : ¬ plainEsc d = true) (k : d ≠ 117) : esc (d :: r) = none := by simp only [esc]; rw [if_neg h, if_neg k]
theorem getD_drop' (l : L) (a b : Nat) : (l.drop a).getD b 0 = l.getD (a + b) 0 := by
  rw [List.getD_eq_getElem?_getD, List.getD_eq_getElem?_getD, List.getElem?_drop]
theorem hexes4_no_u {r : L} (h : hexes 4 r = none) : wellE (92 :: 117 :: r) = false := wellE_no (by rw [esc_u, h])
theorem head2 {x : L} (h : 2 ≤ x.length) (h0 : x.getD 0 0 = 92) (h1 : x.getD 1 0 = 117) : x = 92 :: 117 :: x.drop 2 := by
  rcases x with _ | ⟨a, _ | ⟨b, x⟩⟩
  · simp at h
  · simp at h
  · simp only [List.getD_cons_zero, List.getD_cons_succ] at h0 h1
    subst h0 h1
    rfl
theorem utf8_sur {n : Int} (h : high n = true ∨ low n = true) : utf8 n = [239, 191, 189] := by
  have h' := h
  unfold high low at h'
  simp at h'
  unfold utf8
  rw [if_neg (by omega), if_neg (by omega), if_pos h]
theorem unesc_of {l : L} (h : wellE l = false) : unesc l = none := by unfold unesc; rw [if_neg (by rw [h]; decide)]
theorem unesc_step {l r o : L} (h : wellE l = wellE r) (k : unq l = o ++ unq r) : unesc l = (unesc r).map (o ++ ·) := by
  unfold unesc
  rw [h, k]
  split <;> rfl
theorem pu_eq' (n : Nat) : ∀ l : L, l.length = n → pu l = unesc l := by
  induction n using Nat.strongRecOn with
  | _ n ih =>
  intro l hn
  have ih' : ∀ r : L, r.length < l.length → pu r = unesc r := fun r h => ih r.length (by omega) r rfl
  clear ih
  cases l with
  | nil => rw [pu_nil, unesc, wellE_nil, if_pos rfl, unq_nil]
  | cons c t =>
  by_cases h : c = 92
  · subst h
    cases t with
    | nil => rw [pu_no (by rfl), unesc_of (wellE_no rfl)]
    | cons d r =>
    have hlen : ¬ (92 :: d :: r).length < 2 := by simp only [List.length_cons]; omega
    by_cases hp : plainEsc d = true
    · have e : ue (92 :: d :: r) = some (2, [short d]) := by unfold ue; rw [if_neg hlen]; simp only [List.getD_cons_succ, List.getD_cons_zero]; rw [if_pos hp]
      rw [pu_yes e, show (92 :: d :: r).drop 2 = r from rfl, ih' r (by simp only [List.length_cons]; omega)]
      refine (unesc_step (wellE_yes (esc_plain r hp)) ?_).symm
      rw [unq_short (unit_else (by simp only [List.getD_cons_succ, List.getD_cons_zero]; exact fun k => plainEsc_ne hp k.2))]; rfl
    by_cases hd : d = 117
    · subst hd
      cases hu : unit (92 :: 117 :: r) with
      | none =>
        have e : ue (92 :: 117 :: r) = none := by unfold ue; rw [if_neg hlen]; simp only [List.getD_cons_succ, List.getD_cons_zero]; rw [if_neg hp, if_pos trivial]; simp only [hu]
        rw [pu_no e, unesc_of (hexes4_no_u (unit_no hu))]
      | some n =>
        obtain ⟨g1, g2⟩ := unit_yes hu
        have w1 : wellE (92 :: 117 :: r) = wellE (r.drop 4) := wellE_yes (by rw [esc_u, g1])
        have l1 : ((92 : Int) :: 117 :: r).length = r.length + 2 := rfl
        have d5 : ((117 : Int) :: r).drop 5 = r.drop 4 := rfl
        have q6 : ∀ k, ((92 : Int) :: 117 :: r).getD (6 + k) 0 = (r.drop 4).getD k 0 := by
          intro k; rw [getD_drop', show 6 + k = (4 + k) + 1 + 1 by omega, List.getD_cons_succ, List.getD_cons_succ]
        have base : ue (92 :: 117 :: r) = (if high n = true then (if ((92 : Int) :: 117 :: r).length < 8 ∨ (r.drop 4).getD 0 0 ≠ 92 ∨ (r.drop 4).getD 1 0 ≠ 117 then some (6, [239, 191, 189]) else match unit (r.drop 4) with
            | none => none
            | some m => if low m = true then some (12, utf8 (comb n m)) else some (6, [239, 191, 189]))
          else some (6, utf8 n)) := by
          unfold ue; rw [if_neg hlen]
          have := q6 0; have := q6 1
          simp only [Nat.add_zero, Nat.reduceAdd] at *
          simp only [List.getD_cons_succ, List.getD_cons_zero]
          rw [if_neg hp, if_pos trivial]; simp only [hu, List.drop_succ_cons]
          simp only [List.getD_cons_succ] at *
          simp only [*]
        have one : ∀ o, ue (92 :: 117 :: r) = some (6, o) → utf8 n = o → (∀ m, unit (r.drop 4) = some m → ¬ (high n = true ∧ low m = true)) → pu (92 :: 117 :: r) = unesc (92 :: 117 :: r) := by
          intro o e1 e2 e3
          rw [pu_yes e1, show (92 :: 117 :: r).drop 6 = r.drop 4 from rfl, ih' (r.drop 4) (by rw [List.length_drop, l1]; omega)]
          refine (unesc_step w1 ?_).symm
          rw [unq_one hu (by rw [d5]; exact e3), d5, e2]
        by_cases hh : high n = true
        · rw [if_pos hh] at base
          by_cases hc : ((92 : Int) :: 117 :: r).length < 8 ∨ (r.drop 4).getD 0 0 ≠ 92 ∨ (r.drop 4).getD 1 0 ≠ 117
          · rw [if_pos hc] at base
            refine one _ base (utf8_sur (.inl hh)) ?_
            intro m hm
            exfalso
            unfold unit at hm
            split at hm
            · rename_i g
              rw [List.length_drop] at g
              rcases hc with hc | hc | hc
              · rw [l1] at hc; omega
              · exact hc g.2.1
              · exact hc g.2.2.1
            · cases hm
          · rw [if_neg hc] at base
            have hc1 : 2 ≤ (r.drop 4).length := by rw [List.length_drop]; rw [l1] at hc; omega
            have hx := head2 hc1 (Classical.not_not.1 fun h => hc (.inr (.inl h))) (Classical.not_not.1 fun h => hc (.inr (.inr h)))
            cases hm : unit (r.drop 4) with
            | none =>
              rw [hm] at base
              rw [pu_no base]
              rw [hx] at hm
              rw [unesc_of (by rw [w1, hx]; exact hexes4_no_u (unit_no hm))]
            | some m =>
              rw [hm] at base
              simp only [] at base
              by_cases hlo : low m = true
              · rw [if_pos hlo] at base
                have hm' := hm
                rw [hx] at hm'
                obtain ⟨k1, k2⟩ := unit_yes hm'
                rw [pu_yes base, show (92 :: 117 :: r).drop 12 = r.drop 10 from rfl, ih' (r.drop 10) (by rw [List.length_drop, l1]; omega)]
                refine (unesc_step ?_ ?_).symm
                · rw [w1, hx, wellE_yes (by rw [esc_u, k1]), List.drop_drop, List.drop_drop]
                · rw [unq_pair hu (by rw [d5]; exact hm) ⟨hh, hlo⟩]; rfl
              · rw [if_neg hlo] at base
                refine one _ base (utf8_sur (.inl hh)) ?_
                intro m' hm2
                rw [hm] at hm2
                injection hm2 with hm2
                subst hm2
                exact fun g => hlo g.2
        · rw [if_neg hh] at base
          exact one _ base rfl fun m _ g => hh g.1
    · have e : ue (92 :: d :: r) = none := by unfold ue; rw [if_neg hlen]; simp only [List.getD_cons_succ, List.getD_cons_zero]; rw [if_neg hp, if_neg hd]
      rw [pu_no e, unesc_of (wellE_no (esc_else r hp hd))]
  · rw [pu_plain _ h, ih' t (by simp only [List.length_cons]; omega)]
    exact (unesc_step (o := [c]) (wellE_plain _ h) (unq_plain _ h)).symm
theorem pu_eq (l : L) : pu l = unesc l := pu_eq' _ l rfl
end Go.Proofs.YthehnffmbdlopaaDoor.J

set_option linter.unusedVariables false
set_option linter.unusedSimpArgs false
namespace Go.Proofs.YthehnffmbdlopaaDoor.J
open Go.RowKit Go.Proofs.YthehnffmbdlopaaDoorW.PrintWords Go.Proofs.YthehnffmbdlopaaDoorW.PrintLast Go.Proofs.YthehnffmbdlopaaDoorW.PrintMore Go.Proofs.YthehnffmbdlopaaDoor.Aid

theorem short_any (c : Int) (w : World) : Calls Tryd.prog 37 #[.int .u8 c] w fun e w' => e = .returned (.int .u8 (short c)) ∧ w = w' := by
  by_cases h1 : c = 98
  · subst h1
    go_enter Tryd.func37, Tryd.ntmps37
    go_wp2
    go_ret
    exact ⟨rfl, rfl⟩
  by_cases h2 : c = 102
  · subst h2
    go_enter Tryd.func37, Tryd.ntmps37
    go_wp2
    go_ret
    exact ⟨rfl, rfl⟩
  by_cases h3 : c = 110
  · subst h3
    go_enter Tryd.func37, Tryd.ntmps37
    go_wp2
    go_ret
    exact ⟨rfl, rfl⟩
  by_cases h4 : c = 114
  · subst h4
    go_enter Tryd.func37, Tryd.ntmps37
    go_wp2
    go_ret
    exact ⟨rfl, rfl⟩
  by_cases h5 : c = 116
  · subst h5
    go_enter Tryd.func37, Tryd.ntmps37
    go_wp2
    go_ret
    exact ⟨rfl, rfl⟩
  have b1 : (c == 98) = false := beq_eq_false_iff_ne.mpr h1
  have b2 : (c == 102) = false := beq_eq_false_iff_ne.mpr h2
  have b3 : (c == 110) = false := beq_eq_false_iff_ne.mpr h3
  have b4 : (c == 114) = false := beq_eq_false_iff_ne.mpr h4
  have b5 : (c == 116) = false := beq_eq_false_iff_ne.mpr h5
  have e : Hid (short c = c) := Lib.hid (by unfold short; rw [if_neg h1, if_neg h2, if_neg h3, if_neg h4, if_neg h5])
  clear h1 h2 h3 h4 h5
  go_enter Tryd.func37, Tryd.ntmps37
  go_wp2
  go_ret
  exact ⟨by rw [e.out]; rfl, rfl⟩
theorem high_any (c : Int) (w : World) : Calls Tryd.prog 38 #[.int .i64 c] w fun e w' => e = .returned (.bool (high c)) ∧ w = w' := by
  by_cases h1 : 55296 ≤ c
  · have hd : decide (55296 ≤ c) = true := decide_eq_true h1
    have e : Hid (high c = decide (c ≤ 56319)) := Lib.hid (by unfold high; rw [hd]; simp)
    clear h1
    go_enter Tryd.func38, Tryd.ntmps38
    go_wp2
    go_ret
    exact ⟨by rw [e.out]; rfl, rfl⟩
  · have hd : decide (55296 ≤ c) = false := decide_eq_false h1
    have e : Hid (high c = false) := Lib.hid (by unfold high; rw [hd]; simp)
    clear h1
    go_enter Tryd.func38, Tryd.ntmps38
    go_wp2
    go_ret
    exact ⟨by rw [e.out]; rfl, rfl⟩
theorem low_any (c : Int) (w : World) : Calls Tryd.prog 39 #[.int .i64 c] w fun e w' => e = .returned (.bool (low c)) ∧ w = w' := by
  by_cases h1 : 56320 ≤ c
  · have hd : decide (56320 ≤ c) = true := decide_eq_true h1
    have e : Hid (low c = decide (c ≤ 57343)) := Lib.hid (by unfold low; rw [hd]; simp)
    clear h1
    go_enter Tryd.func39, Tryd.ntmps39
    go_wp2
    go_ret
    exact ⟨by rw [e.out]; rfl, rfl⟩
  · have hd : decide (56320 ≤ c) = false := decide_eq_false h1
    have e : Hid (low c = false) := Lib.hid (by unfold low; rw [hd]; simp)
    clear h1
    go_enter Tryd.func39, Tryd.ntmps39
    go_wp2
    go_ret
    exact ⟨by rw [e.out]; rfl, rfl⟩

/-- The bytes of a text from a place on. -/
def from_ (s : ByteArray) (a : Nat) : L := (bytesOf s).drop a
theorem from_len (s : ByteArray) (a : Nat) : (from_ s a).length = s.size - a := by unfold from_; rw [List.length_drop, bytesOf_length]
theorem from_at (s : ByteArray) (a i : Nat) (h : a + i < s.size) : ((s[a + i]'h).toNat : Int) = (from_ s a).getD i 0 := by
  have h1 := bt_at s ((a + i : Nat) : Int) (by rw [Int.toNat_natCast]; exact h)
  unfold from_
  rw [List.getD_eq_getElem?_getD, List.getElem?_drop, bytesOf_get? s (a + i) h]
  exact h1
theorem from_at0 (s : ByteArray) (a : Nat) (h : a < s.size) : ((s[a]'h).toNat : Int) = (from_ s a).getD 0 0 := from_at s a 0 h
theorem from_byt (s : ByteArray) (a : Nat) : ∀ x ∈ from_ s a, 0 ≤ x ∧ x ≤ 255 := fun x hx => by
  have := bytesOf_range s x (List.mem_of_mem_drop hx); omega
theorem from_drop (s : ByteArray) (a k : Nat) : (from_ s a).drop k = from_ s (a + k) := by unfold from_; rw [List.drop_drop]
/-- The number of the first j digits behind two bytes. -/
def hxs (l : L) : Nat → Int
  | 0 => 0
  | j + 1 => hxs l j * 16 + hv (l.getD (2 + j) 0)
theorem hxs_range (l : L) (j : Nat) (h : ∀ i, i < j → hex (l.getD (2 + i) 0) = true) (hj : j ≤ 4) : 0 ≤ hxs l j ∧ hxs l j < 16 ^ j := by
  induction j with
  | zero => simp [hxs]
  | succ j ih =>
    obtain ⟨h0, h1⟩ := ih (fun i hi => h i (by omega)) (by omega)
    have := hv_range (h j (by omega))
    simp only [hxs]
    rw [Int.pow_succ]
    omega
theorem hexV_hv {c : Int} (h : hex c = true) : hexV c = hv c := by
  unfold hex at h
  unfold hexV hv dig at *
  simp only [Bool.or_eq_true, Bool.and_eq_true, decide_eq_true_eq] at *
  repeat' split
  all_goals omega
def unitR (l : L) : Value := .tuple (match unit l with | some n => #[.int .i64 n, .bool true] | none => #[.int .i64 0, .bool false])
theorem unitR_some {l : L} {n : Int} (h : unit l = some n) : unitR l = .tuple #[.int .i64 n, .bool true] := by unfold unitR; rw [h]
theorem unitR_none {l : L} (h : unit l = none) : unitR l = .tuple #[.int .i64 0, .bool false] := by unfold unitR; rw [h]

set_option maxHeartbeats 2000000 in
theorem unit_any (s : ByteArray) (a : Nat) (w : World) (hs : s.size ≤ 2147483660) (ha : a ≤ s.size) :
    Calls Tryd.prog 36 #[.string s, .int .i64 (a : Nat)] w fun e w' => e = .returned (unitR (from_ s a)) ∧ w = w' := by
  have hl := from_len s a
  by_cases h6 : s.size < a + 6
  · have hd : decide ((s.size : Int) - (a : Int) < 6) = true := decide_eq_true (by omega)
    rw [unitR_none (l := from_ s a) (by unfold unit; rw [if_neg]; rw [hl]; omega)]
    clear hl
    go_enter Tryd.func36, Tryd.ntmps36
    go_wp2
    go_ret2
    exact ⟨rfl, rfl⟩
  have hd : decide ((s.size : Int) - (a : Int) < 6) = false := decide_eq_false (by omega)
  have x0 := from_at0 s a (by omega)
  have x1 := from_at s a 1 (by omega)
  by_cases c0 : (from_ s a).getD 0 0 = 92
  rotate_left 1
  · rw [unitR_none (l := from_ s a) (by unfold unit; rw [if_neg]; exact fun k => c0 k.2.1)]
    have b0 : (((s[a]'(by omega)).toNat : Int) != 92) = true := by rw [x0]; exact bne_iff_ne.mpr c0
    clear x0 x1 c0 hl
    go_enter Tryd.func36, Tryd.ntmps36
    go_wp2
    go_ret2
    exact ⟨rfl, rfl⟩
  have b0 : (((s[a]'(by omega)).toNat : Int) != 92) = false := by rw [x0]; exact bne_eq_false_iff_eq.mpr c0
  by_cases c1 : (from_ s a).getD 1 0 = 117
  rotate_left 1
  · rw [unitR_none (l := from_ s a) (by unfold unit; rw [if_neg]; exact fun k => c1 k.2.2.1)]
    have b1 : (((s[a + 1]'(by omega)).toNat : Int) != 117) = true := by rw [x1]; exact bne_iff_ne.mpr c1
    clear x0 x1 c0 c1 hl
    go_enter Tryd.func36, Tryd.ntmps36
    go_wp2
    go_ret2
    exact ⟨rfl, rfl⟩
  have b1 : (((s[a + 1]'(by omega)).toNat : Int) != 117) = false := by rw [x1]; exact bne_eq_false_iff_eq.mpr c1
  have C0 := Lib.hid c0
  have C1 := Lib.hid c1
  have HL := Lib.hid hl
  clear x0 x1 c0 c1 hl
  go_enter Tryd.func36, Tryd.ntmps36
  go_wp2
  go_loop [6, 7] (fun n k => ∃ j : Nat, j ≤ 4 ∧ k = .int .i64 ((a + 2 + j : Nat) : Int) ∧ n = .int .i64 (hxs (from_ s a) j) ∧ Hid (∀ i, i < j → hex ((from_ s a).getD (2 + i) 0) = true)) (fun _ k => a + 6 - (intOf k).toNat)
  case atStart => exact ⟨0, by omega, by go_num, rfl, Lib.hid (fun i hi => by omega)⟩
  case round =>
    obtain ⟨j, hj, rfl, rfl, HH⟩ := hrel
    obtain ⟨r0, r1⟩ := hxs_range (from_ s a) j HH.out hj
    by_cases hj4 : j = 4
    · subst hj4
      have e : Hid (unitR (from_ s a) = .tuple #[.int .i64 (hxs (from_ s a) 4), .bool true]) := Lib.hid (unitR_some (by
        unfold unit
        rw [if_pos ⟨by rw [HL.out]; omega, C0.out, C1.out, HH.out 0 (by omega), HH.out 1 (by omega), HH.out 2 (by omega), HH.out 3 (by omega)⟩]
        simp [hxs]))
      go_wp2
      go_ret2
      exact ⟨by rw [e.out]; rfl, rfl⟩
    · have x := from_at s a (2 + j) (by omega)
      have hlt : a + 2 + j < s.size := by omega
      have x' : ((s[a + 2 + j]'hlt).toNat : Int) = (from_ s a).getD (2 + j) 0 := by
        rw [← x]
        have e : a + 2 + j = a + (2 + j) := by omega
        simp only [e]
      have hr := from_byt s a
      have p4 : hxs (from_ s a) j < 65536 := by
        have q : j = 0 ∨ j = 1 ∨ j = 2 ∨ j = 3 := by omega
        clear hr x x' hlt
        rcases q with rfl | rfl | rfl | rfl <;> simp at r1 <;> omega
      by_cases hx : hex ((from_ s a).getD (2 + j) 0) = true
      · have HX : Hid (∀ w, Calls Tryd.prog 49 #[.int .u8 ((s[a + 2 + j]'hlt).toNat : Int)] w fun e w' => e = .returned (.tuple #[.int .i64 (hv ((from_ s a).getD (2 + j) 0)), .bool true]) ∧ w' = w) := Lib.hid (fun w => by
          have hb := from_byt s a ((from_ s a).getD (2 + j) 0) (by rw [List.getD_eq_getElem?_getD, List.getElem?_eq_getElem (by rw [HL.out]; omega)]; simp)
          have := hexDigit_any ((from_ s a).getD (2 + j) 0) hb.1 hb.2 w
          rw [hexV_hv hx, hx] at this
          rw [x']; exact this)
        have HH' : Hid (∀ i, i < j + 1 → hex ((from_ s a).getD (2 + i) 0) = true) := Lib.hid (fun i hi => by
          by_cases e : i = j
          · rw [e]; exact hx
          · exact HH.out i (by omega))
        obtain ⟨v0, v1⟩ := hv_range hx
        obtain ⟨v, hv'⟩ : ∃ v, v = hv ((from_ s a).getD (2 + j) 0) := ⟨_, rfl⟩
        rw [← hv'] at HX v0 v1
        obtain ⟨nn, hnn⟩ : ∃ nn, nn = hxs (from_ s a) j := ⟨_, rfl⟩
        have e2 : Hid (hxs (from_ s a) (j + 1) = nn * 16 + v) := Lib.hid (by rw [hnn, hv']; rfl)
        rw [← hnn] at r0 p4 ⊢
        clear hx hr x x' hnn hv' r1
        go_wp2_with (go_at_call 49; refine (HX.out _).mono ?_; rintro e w' ⟨rfl, rfl⟩)
        go_round
        case rel => exact ⟨j + 1, by omega, by go_num, by rw [e2.out], HH'⟩
        case measure => simp [intOf]; omega
      · have HX : Hid (∀ w, Calls Tryd.prog 49 #[.int .u8 ((s[a + 2 + j]'hlt).toNat : Int)] w fun e w' => e = .returned (.tuple #[.int .i64 (hexV ((from_ s a).getD (2 + j) 0)), .bool false]) ∧ w' = w) := Lib.hid (fun w => by
          have hb := from_byt s a ((from_ s a).getD (2 + j) 0) (by rw [List.getD_eq_getElem?_getD, List.getElem?_eq_getElem (by rw [HL.out]; omega)]; simp)
          have := hexDigit_any ((from_ s a).getD (2 + j) 0) hb.1 hb.2 w
          rw [show hex ((from_ s a).getD (2 + j) 0) = false by simpa using hx] at this
          rw [x']; exact this)
        have e : Hid (unitR (from_ s a) = .tuple #[.int .i64 0, .bool false]) := Lib.hid (unitR_none (by
          unfold unit
          rw [if_neg]
          intro k
          have : j = 0 ∨ j = 1 ∨ j = 2 ∨ j = 3 := by omega
          rcases this with rfl | rfl | rfl | rfl
          · exact hx k.2.2.2.1
          · exact hx k.2.2.2.2.1
          · exact hx k.2.2.2.2.2.1
          · exact hx k.2.2.2.2.2.2))
        clear hx hr x x' r1
        go_wp2_with (go_at_call 49; refine (HX.out _).mono ?_; rintro e w' ⟨rfl, rfl⟩)
        go_ret2
        exact ⟨by rw [e.out]; rfl, rfl⟩
end Go.Proofs.YthehnffmbdlopaaDoor.J
