/- A reader, a span and a place of a text in memory. -/
import Derived.Test.YtkmdcckiehbcmaaDoorProg
import Derived.Test.YtkmdcckiehbcmaaDoorJPure
import Derived.Test.YtkmdcckiehbcmaaDoorWMore
set_option linter.unusedVariables false
set_option linter.unusedSimpArgs false
namespace Go.Proofs.YtkmdcckiehbcmaaDoor.J
open Go.RowKit Go.Proofs.YtkmdcckiehbcmaaDoorW.PrintWords Go.Proofs.YtkmdcckiehbcmaaDoorW.PrintLast Go.Proofs.YtkmdcckiehbcmaaDoorW.PrintMore Go.Proofs.YtkmdcckiehbcmaaDoor.Aid
abbrev tSp : Nat := 85
abbrev tPl : Nat := 48
abbrev tRd : Nat := 60

/-! ### spans and places -/
def kSp : Kd Sp := Kd.iso (Kd.pair (Kd.int .i64) (Kd.int .i64)) (fun x : Sp => (x.b, x.e))
theorem kSp_open {w : World} {x : Sp} {cs : List Value} (h : kSp.K w x cs) : cs = [.int .i64 x.b, .int .i64 x.e] := by
  obtain ⟨_, _, rfl, rfl, rfl⟩ := h
  exact rfl
theorem kSp_openM {w : World} {base : Nat} {ok : Nat → Prop} {x : Sp} {cs : List Value} (h : kSp.M w base ok x cs) : cs = [.int .i64 x.b, .int .i64 x.e] := by
  obtain ⟨_, _, rfl, rfl, rfl⟩ := h
  exact rfl
theorem kSp_mkM (w : World) (base : Nat) (ok : Nat → Prop) (x : Sp) : kSp.M w base ok x [.int .i64 x.b, .int .i64 x.e] := ⟨[.int .i64 x.b], [.int .i64 x.e], rfl, rfl, rfl⟩
def zSp : Sp := ⟨0, 0⟩
theorem at_Sp {w : World} {A : Option Addr} {n : Nat} {xs : List Sp} (h : Kd.C kSp w A n xs) (i : Nat) (h1 : i < n) : ∃ ad, A = some ad ∧ w.cell? (ad.add (i * 2)) = some (.int .i64 (xs.getD i zSp).b) ∧ w.cell? ⟨(ad.add (i * 2)).block, (ad.add (i * 2)).off + 1, none⟩ = some (.int .i64 (xs.getD i zSp).e) := by
  obtain ⟨ad, c, e, _, hK, hc0⟩ := Kd.C_get h zSp i (by omega) (by omega)
  have hc : ∀ j u, c[j]? = some u → w.cell? (ad.add (i * 2 + j)) = some u := hc0
  obtain rfl := kSp_open hK
  exact ⟨ad, e, hc 0 _ rfl, by rw [← add_field _ _ 1 (by omega)]; exact hc 1 _ rfl⟩

def FPl (d : Kd Pl) : Kd Pl := Kd.iso (Kd.pair (Kd.int .i64) (Kd.pair (Kd.int .i64) (Kd.pair (Kd.int .i64) (Kd.pair (Kd.slice tSp kSp) (Kd.slice tPl d))))) (fun x : Pl => (x.kind, x.b, x.e, x.names, x.kids))
theorem monoPl : Kd.Mono FPl := Kd.mono_iso _ (Kd.mono_pair (Kd.mono_const _) (Kd.mono_pair (Kd.mono_const _) (Kd.mono_pair (Kd.mono_const _) (Kd.mono_pair (Kd.mono_const _) (Kd.mono_slice tPl Kd.mono_id)))))
theorem subPl : Kd.Sub FPl [tPl, tSp] := Kd.sub_iso _ (Kd.sub_pair (Kd.sub_const _ (by decide)) (Kd.sub_pair (Kd.sub_const _ (by decide)) (Kd.sub_pair (Kd.sub_const _ (by decide)) (Kd.sub_pair (Kd.sub_const _ (by decide)) (Kd.sub_slice tPl (by decide) Kd.sub_id)))))
theorem szPl : ∀ n, (Kd.upto FPl 5 [tPl, tSp] n).sz = 5 := Kd.upto_sz (fun _ => rfl)
def kPl : Kd Pl := Kd.fix FPl 5 [tPl, tSp] szPl (Kd.upto_E subPl)
theorem kPl_open {w : World} {x : Pl} {cs : List Value} (h : kPl.K w x cs) : ∃ A3 c3 A4 c4, cs = [.int .i64 x.kind, .int .i64 x.b, .int .i64 x.e, .slice A3 x.names.length c3, .slice A4 x.kids.length c4] ∧ x.names.length ≤ c3 ∧ kSp.C w A3 x.names.length x.names ∧ x.kids.length ≤ c4 ∧ kPl.C w A4 x.kids.length x.kids := by
  obtain ⟨n, h⟩ := h
  cases n with
  | zero => exact h.elim
  | succ n =>
    obtain ⟨_, _, rfl, rfl, ⟨_, _, rfl, rfl, ⟨_, _, rfl, rfl, ⟨_, _, rfl, ⟨A3, c3, rfl, l3, g3⟩, ⟨A4, c4, rfl, l4, g4⟩⟩⟩⟩⟩ := h
    exact ⟨A3, c3, A4, c4, rfl, l3, g3, l4, Kd.fix_C g4⟩
theorem kPl_openM {w : World} {base : Nat} {ok : Nat → Prop} {x : Pl} {cs : List Value} (h : kPl.M w base ok x cs) : ∃ v3 v4, cs = [.int .i64 x.kind, .int .i64 x.b, .int .i64 x.e, v3, v4] ∧ kSp.R tSp w base ok v3 x.names ∧ kPl.R tPl w base ok v4 x.kids := by
  obtain ⟨n, h⟩ := h
  cases n with
  | zero => exact h.elim
  | succ n =>
    obtain ⟨_, _, rfl, rfl, ⟨_, _, rfl, rfl, ⟨_, _, rfl, rfl, ⟨_, _, rfl, ⟨v3, rfl, g3⟩, ⟨v4, rfl, g4⟩⟩⟩⟩⟩ := h
    exact ⟨v3, v4, rfl, g3, Kd.fix_R g4⟩
theorem kPl_mkM (w : World) (base : Nat) (ok : Nat → Prop) (x : Pl) {v3 : Value} (g3 : kSp.R tSp w base ok v3 x.names) {v4 : Value} (g4 : kPl.R tPl w base ok v4 x.kids) : kPl.M w base ok x [.int .i64 x.kind, .int .i64 x.b, .int .i64 x.e, v3, v4] := by
  obtain ⟨n4, q4⟩ := Kd.fix_R_back monoPl g4
  have r4 := Kd.upto_R_le monoPl szPl (show n4 ≤ n4 by omega) q4
  exact ⟨n4 + 1, ⟨[.int .i64 x.kind], [.int .i64 x.b, .int .i64 x.e, v3, v4], rfl, rfl, ⟨[.int .i64 x.b], [.int .i64 x.e, v3, v4], rfl, rfl, ⟨[.int .i64 x.e], [v3, v4], rfl, rfl, ⟨[v3], [v4], rfl, ⟨v3, rfl, g3⟩, ⟨v4, rfl, r4⟩⟩⟩⟩⟩⟩
def zPl : Pl := ⟨0, 0, 0, [], []⟩

/-! ### the reader -/
/-- The reader in block g stands at a of the text s; l is what is left. -/
structure Rd (w : World) (g : Nat) (s : ByteArray) (a : Nat) (l : L) : Prop where
  blk : w.heap[g]? = some (.cells #[.string s, .int .i64 a] tRd (0, 0))
  le : a ≤ s.size
  rest : (bytesOf s).drop a = l
/-- But block g nothing that was there has turned. -/
structure But (g : Nat) (w w' : World) : Prop where
  os : w'.os = w.os
  tape : w'.tape = w.tape
  output : w'.output = w.output
  size : w.heap.size ≤ w'.heap.size
  block : ∀ i, i < w.heap.size → i ≠ g → w'.heap[i]? = w.heap[i]?
theorem But.refl (g : Nat) (w : World) : But g w w := ⟨rfl, rfl, rfl, Nat.le_refl _, fun _ _ _ => rfl⟩
theorem But.trans {g : Nat} {a b c : World} (h : But g a b) (k : But g b c) : But g a c :=
  ⟨k.os.trans h.os, k.tape.trans h.tape, k.output.trans h.output, Nat.le_trans h.size k.size, fun i hi hg => (k.block i (Nat.lt_of_lt_of_le hi h.size) hg).trans (h.block i hi hg)⟩
theorem But.below {g B : Nat} {a b c : World} (h : But g a b) (hB : a.heap.size ≤ B) (k : Below B b c) : But g a c :=
  ⟨k.os.trans h.os, k.tape.trans h.tape, k.output.trans h.output, Nat.le_trans h.size k.size, fun i hi hg => (k.block i (by omega)).trans (h.block i hi hg)⟩
theorem But.of_below {g : Nat} {a b : World} (k : Below a.heap.size a b) : But g a b := (But.refl g a).below (Nat.le_refl _) k
/-- What is new is g, too. -/
theorem But.to_below {g B : Nat} {a b : World} (h : But g a b) (hB : B ≤ g) (hB' : B ≤ a.heap.size) : Below B a b :=
  ⟨h.os, h.tape, h.output, h.size, fun i hi => h.block i (by omega) (by omega)⟩
theorem But.set {g : Nat} {a b : World} (h : But g a b) (j : Nat) (u : Value) : But g a (b.setCell ⟨g, j, none⟩ u) :=
  ⟨h.os, h.tape, h.output, by simpa using h.size, fun i hi hg => (Below.heap_setCell b ⟨g, j, none⟩ u i hg).trans (h.block i hi hg)⟩
theorem But.alloc {g : Nat} {a b : World} (h : But g a b) (o : Obj) : But g a (b.alloc o) := h.below (Nat.le_refl _) ((Below.refl _ _).alloc h.size o)
theorem But.drewN {g : Nat} {a b : World} (h : But g a b) (n : Nat) : But g a (b.drewN n) := ⟨h.os, h.tape, h.output, h.size, h.block⟩
theorem But.setNew {g : Nat} {a b : World} (h : But g a b) (p : Addr) (hp : a.heap.size ≤ p.block) (u : Value) : But g a (b.setCell p u) :=
  h.below (Nat.le_refl _) ((Below.refl _ _).setCell hp u)
theorem Rd.lt {w : World} {g : Nat} {s : ByteArray} {a : Nat} {l : L} (h : Rd w g s a l) : g < w.heap.size := blk_lt h.blk
theorem Rd.cell0 {w : World} {g : Nat} {s : ByteArray} {a : Nat} {l : L} (h : Rd w g s a l) : w.cell? ⟨g, 0, none⟩ = some (.string s) := (blk_cell h.blk 0).trans rfl
theorem Rd.cell1 {w : World} {g : Nat} {s : ByteArray} {a : Nat} {l : L} (h : Rd w g s a l) : w.cell? ⟨g, 1, none⟩ = some (.int .i64 a) := (blk_cell h.blk 1).trans rfl
theorem Rd.frozen1 {w : World} {g : Nat} {s : ByteArray} {a : Nat} {l : L} (h : Rd w g s a l) : w.frozen? ⟨g, 1, none⟩ = false := blk_frozen h.blk 1
theorem Rd.len {w : World} {g : Nat} {s : ByteArray} {a : Nat} {l : L} (h : Rd w g s a l) : a + l.length = s.size := by
  have := h.le
  rw [← h.rest, List.length_drop, bytesOf_length]; omega
theorem Rd.pos {w : World} {g : Nat} {s : ByteArray} {a : Nat} {l : L} (h : Rd w g s a l) : pos s.size l = a := by
  have := h.len; unfold J.pos; omega
theorem Rd.set {w : World} {g : Nat} {s : ByteArray} {a : Nat} {l : L} (h : Rd w g s a l) (b : Nat) (hb : b ≤ s.size) : Rd (w.setCell ⟨g, 1, none⟩ (.int .i64 b)) g s b ((bytesOf s).drop b) :=
  ⟨(blk_set h.blk 1 _).trans rfl, hb, rfl⟩
/-- One step on. -/
theorem Rd.step {w : World} {g : Nat} {s : ByteArray} {a : Nat} {c : Int} {t : L} (h : Rd w g s a (c :: t)) : Rd (w.setCell ⟨g, 1, none⟩ (.int .i64 ((a : Int) + 1))) g s (a + 1) t := by
  have hl := h.len
  simp only [List.length_cons] at hl
  have := h.set (a + 1) (by omega)
  have e : (bytesOf s).drop (a + 1) = t := by
    have h1 : ((bytesOf s).drop a).drop 1 = t := by rw [h.rest]; rfl
    rwa [List.drop_drop] at h1
  rw [e] at this
  exact this
/-- The byte that stands here. -/
theorem Rd.byte {w : World} {g : Nat} {s : ByteArray} {a : Nat} {c : Int} {t : L} (h : Rd w g s a (c :: t)) (ha : a < s.size) : ((s[a]'ha).toNat : Int) = c := by
  have h1 := bt_at s a (by simpa using ha)
  have h2 := bytesOf_get? s a ha
  have h3 : (bytesOf s)[a]? = some c := by
    have : ((bytesOf s).drop a)[0]? = some c := by rw [h.rest]; rfl
    rwa [List.getElem?_drop, Nat.add_zero] at this
  rw [h2] at h3
  have h4 : bt s a = c := Option.some.inj h3
  exact h1.trans h4
theorem Rd.range {w : World} {g : Nat} {s : ByteArray} {a : Nat} {c : Int} {t : L} (h : Rd w g s a (c :: t)) : 0 ≤ c ∧ c ≤ 255 := by
  have hl := h.len
  simp only [List.length_cons] at hl
  have := h.byte (by omega)
  have := (s[a]'(by omega)).toNat_lt
  omega
theorem Rd.below {w w' : World} {g : Nat} {s : ByteArray} {a : Nat} {l : L} {B : Nat} (h : Rd w g s a l) (hg : g < B) (hb : Below B w w') : Rd w' g s a l := ⟨(hb.block g hg).trans h.blk, h.le, h.rest⟩
theorem Rd.of_block {w w' : World} {g : Nat} {s : ByteArray} {a : Nat} {l : L} (h : Rd w g s a l) (hb : w'.heap[g]? = w.heap[g]?) : Rd w' g s a l := ⟨hb.trans h.blk, h.le, h.rest⟩
theorem Rd.alloc {w : World} {g : Nat} {s : ByteArray} {a : Nat} {l : L} (h : Rd w g s a l) (o : Obj) : Rd (w.alloc o) g s a l := ⟨blk_alloc h.blk o, h.le, h.rest⟩
theorem Rd.setFar {w : World} {g : Nat} {s : ByteArray} {a : Nat} {l : L} (h : Rd w g s a l) {p : Addr} (hp : g ≠ p.block) (u : Value) : Rd (w.setCell p u) g s a l := ⟨blk_far h.blk hp u, h.le, h.rest⟩
theorem Rd.drew {w : World} {g : Nat} {s : ByteArray} {a : Nat} {l : L} (h : Rd w g s a l) (n : Nat) : Rd (w.drewN n) g s a l := ⟨h.blk, h.le, h.rest⟩
end Go.Proofs.YtkmdcckiehbcmaaDoor.J
