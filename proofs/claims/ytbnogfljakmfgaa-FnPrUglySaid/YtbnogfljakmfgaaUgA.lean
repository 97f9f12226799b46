/- The walk of spec's bareTo. -/
import Derived.Test.YtbnogfljakmfgaaJ8
import Derived.Test.YtbnogfljakmfgaaUgOk
import Derived.StillTailTactics
set_option linter.unusedVariables false
set_option linter.unusedSimpArgs false
namespace Go.Proofs.Ytbnogfljakmfgaa.J
open Go.RowKit Go.Proofs.YtbnogfljakmfgaaW.PrintWords Go.Proofs.YtbnogfljakmfgaaW.PrintLast Go.Proofs.YtbnogfljakmfgaaW.PrintMore Go.Proofs.Ytbnogfljakmfgaa.Aid
abbrev tU8 : Nat := 5
theorem infoU8 : (Try.prog.info? tU8).map (fun i => (i.zero, i.size, i.bytes)) = some (some (.int .u8 0), 1, 1) := by kernel_rfl

/-- A row of bytes of the call's own. -/
def Own (W : World) (base : Nat) (v : Value) (xs : List Int) : Prop := W.ownsRow base tU8 1 v xs.length (nums .u8 xs)
/-- What is no row of bytes has not turned. -/
structure NU (w w' : World) : Prop where
  os : w'.os = w.os
  tape : w'.tape = w.tape
  output : w'.output = w.output
  size : w.heap.size ≤ w'.heap.size
  block : ∀ k, k < w.heap.size → (∀ cs, w.heap[k]? ≠ some (.cells cs tU8 (0, 0))) → w'.heap[k]? = w.heap[k]?
theorem NU.refl (w : World) : NU w w := ⟨rfl, rfl, rfl, Nat.le_refl _, fun _ _ _ => rfl⟩
theorem NU.trans {a b c : World} (h : NU a b) (k : NU b c) : NU a c :=
  ⟨k.os.trans h.os, k.tape.trans h.tape, k.output.trans h.output, Nat.le_trans h.size k.size, fun i hi hn => (k.block i (Nat.lt_of_lt_of_le hi h.size) (fun cs => by rw [h.block i hi hn]; exact hn cs)).trans (h.block i hi hn)⟩
theorem NU.below {a b c : World} (h : NU a b) (k : Below b.heap.size b c) : NU a c :=
  h.trans ⟨k.os, k.tape, k.output, k.size, fun i hi _ => k.block i hi⟩
theorem NU.alloc {a b : World} (h : NU a b) (o : Obj) : NU a (b.alloc o) := h.below ((Below.refl _ _).alloc (Nat.le_refl _) o)
theorem NU.grown {a b c : World} {v : Value} {base : Nat} {xs : List Int} (h : NU a b) (ho : Own b base v xs) (k : b.grownBy c v.ownBlock) : NU a c :=
  h.trans ⟨k.os, k.tape, k.output, k.size, fun i hi hn => k.block i hi fun e => by
    obtain ⟨cs, hc⟩ := own_typed ho i e.symm
    exact hn cs hc⟩
theorem NU.blk {a b : World} (h : NU a b) {g : Nat} {cs : Array Value} {t : TypeId} {fr : Nat × Nat} (hb : a.heap[g]? = some (.cells cs t fr)) (ht : t ≠ tU8) : b.heap[g]? = some (.cells cs t fr) :=
  (h.block g (blk_lt hb) (fun cs' e => by rw [hb] at e; injection e with e; injection e with _ e; exact ht e)).trans hb
theorem Own.below {W W' : World} {base : Nat} {v : Value} {xs : List Int} (h : Own W base v xs) (hb : Below W.heap.size W W') : Own W' base v xs := pw_own_below h hb
theorem Own.alloc {W : World} {base : Nat} {v : Value} {xs : List Int} (h : Own W base v xs) (o : Obj) : Own (W.alloc o) base v xs := h.below (below_alloc (Below.refl _ _) o)

theorem at_Pl {w : World} {A : Option Addr} {n : Nat} {xs : List Pl} (h : Kd.C kPl w A n xs) (i : Nat) (h1 : i < n) : ∃ ad A3 c3 A4 c4, A = some ad ∧ w.cell? (ad.add (i * 5)) = some (.int .i64 (xs.getD i zPl).kind) ∧ w.cell? ⟨(ad.add (i * 5)).block, (ad.add (i * 5)).off + 1, none⟩ = some (.int .i64 (xs.getD i zPl).b) ∧ w.cell? ⟨(ad.add (i * 5)).block, (ad.add (i * 5)).off + 2, none⟩ = some (.int .i64 (xs.getD i zPl).e) ∧ w.cell? ⟨(ad.add (i * 5)).block, (ad.add (i * 5)).off + 3, none⟩ = some (.slice A3 (xs.getD i zPl).names.length c3) ∧ w.cell? ⟨(ad.add (i * 5)).block, (ad.add (i * 5)).off + 4, none⟩ = some (.slice A4 (xs.getD i zPl).kids.length c4) ∧ (xs.getD i zPl).names.length ≤ c3 ∧ kSp.C w A3 (xs.getD i zPl).names.length (xs.getD i zPl).names ∧ (xs.getD i zPl).kids.length ≤ c4 ∧ kPl.C w A4 (xs.getD i zPl).kids.length (xs.getD i zPl).kids := by
  obtain ⟨ad, c, e, _, hK, hc0⟩ := Kd.C_get h zPl i (by omega) (by omega)
  have hc : ∀ j u, c[j]? = some u → w.cell? (ad.add (i * 5 + j)) = some u := hc0
  obtain ⟨A3, c3, A4, c4, rfl, l3, g3, l4, g4⟩ := kPl_open hK
  exact ⟨ad, A3, c3, A4, c4, e, hc 0 _ rfl, by rw [← add_field _ _ 1 (by omega)]; exact hc 1 _ rfl, by rw [← add_field _ _ 2 (by omega)]; exact hc 2 _ rfl, by rw [← add_field _ _ 3 (by omega)]; exact hc 3 _ rfl, by rw [← add_field _ _ 4 (by omega)]; exact hc 4 _ rfl, l3, g3, l4, g4⟩

def BPost (w0 w : World) (xs : List Int) (e : Ending) (w' : World) : Prop := ∃ v', e = .returned v' ∧ Own w' w0.heap.size v' xs ∧ Below w0.heap.size w0 w' ∧ NU w w'
def BareC (s : ByteArray) (p : Pl) : Prop := ∀ (w0 w : World) (A3 A4 : Option Addr) (c3 c4 : Nat) (v : Value) (out : List Int), p.names.length ≤ c3 → kSp.C w0 A3 p.names.length p.names → p.kids.length ≤ c4 → kPl.C w0 A4 p.kids.length p.kids →
  Below w0.heap.size w0 w → Own w w0.heap.size v out → out.length + (bare (bytesOf s) p).length ≤ 100000 → okP s.size p →
  Calls Try.prog 21 #[v, .string s, .agg #[.int .i64 p.kind, .int .i64 p.b, .int .i64 p.e, .slice A3 p.names.length c3, .slice A4 p.kids.length c4]] w (BPost w0 w (out ++ bare (bytesOf s) p))

theorem slice_str' (s : ByteArray) (b e : Int) (h0 : 0 ≤ b) (h1 : b ≤ e) (h2 : e ≤ s.size) (W : World) :
    (Instr.slice 9 (.string s) (some (.int .i64 b)) (some (.int .i64 e)) none).run Try.prog W = .ok (.string (s.extract b.toNat e.toNat)) W := by
  have h3 : 0 ≤ e := by omega
  go_simp
theorem sl_bytes (s : ByteArray) (b e : Int) (h0 : 0 ≤ b) (h1 : b ≤ e) : bytesOf (s.extract b.toNat e.toNat) = sl (bytesOf s) b e := by
  rw [bytesOf_extract]; unfold sl
  have : e.toNat - b.toNat = (e - b).toNat := by omega
  rw [this]

set_option maxHeartbeats 8000000 in
set_option maxRecDepth 100000 in
theorem bare_leaf_any (s : ByteArray) (k b e : Int) (ns : List Sp) (ks : List Pl) (h5 : k ≠ 5) (h6 : k ≠ 6) : BareC s ⟨k, b, e, ns, ks⟩ := by
  intro w0 w A3 A4 c3 c4 v out _ _ _ _ hB hO hlen hok
  rw [okP] at hok
  obtain ⟨⟨g0, g1, g2⟩, _⟩ := hok
  rw [bare_leaf _ h5 h6] at hlen ⊢
  have ks' := slice_str' s b e g0 g1 g2
  have hsz := hB.size
  have e1 := Lib.hid (sl_bytes s b e g0 g1)
  have hl2 : out.length + (s.extract b.toNat e.toNat).size ≤ 140737488355328 := by rw [← bytesOf_length, e1.out]; omega
  have b5 : (k != 5) = true := bne_iff_ne.mpr h5
  have b6 : (k != 6) = true := bne_iff_ne.mpr h6
  have HO := Lib.hid hO
  have HB := Lib.hid hB
  clear h5 h6 g0 g1 g2 hlen hO hB
  go_enter Try.func21, Try.ntmps21
  go_wp2_with (at_builtin; refine print_append_str (w0 := w0) w0.heap.size rfl (.tmp 18) (.tmp 24) 41 9 tU8 rfl Try.underlying41 Try.underlying9 infoU8 _ out (s.extract b.toNat e.toNat) rfl rfl (HO.out.alloc _) (HB.out.alloc hsz _) (by simp; omega) hl2 ?_; intro v1 w1 hown hb1 hg1)
  go_ret
  refine ⟨v1, rfl, ?_, hb1, ((NU.refl w).alloc _).grown (HO.out.alloc _) hg1⟩
  have := hown
  rw [e1.out] at this
  exact this
end Go.Proofs.Ytbnogfljakmfgaa.J
