/- Several texts in one. -/
import Derived.Test.YtcaigeikdnoheaaGreatDoorZGm
import Derived.Test.YtcaigeikdnoheaaGreatDoorZWTab
import Derived.Deep.DrawnRows
set_option linter.unusedVariables false
set_option linter.unusedSimpArgs false
namespace Go.Proofs.YtcaigeikdnoheaaGreatDoor.Fp
open Go.RowKit Go.Proofs.YtcaigeikdnoheaaGreatDoorW.PrintWords Go.Proofs.YtcaigeikdnoheaaGreatDoorW.PrintLast Go.Proofs.YtcaigeikdnoheaaGreatDoorW.PrintMore Go.Proofs.YtcaigeikdnoheaaGreatDoor.Aid Go.Proofs.YtcaigeikdnoheaaGreatDoor.J

def Cl.T1 : Bool × List (List Nat × List Nat) := (true, [([], []), ([0], [0]), ([], []), ([2], [2]), ([1], [1]), ([], []), ([1, 5, 3, 0, 1, 2, 3, 4, 5], [1, 5]), ([6, 4, 0, 1, 2, 3, 4, 5, 6], [4, 6]), ([7, 3, 6, 0, 1, 2, 3, 4, 5, 6], [3, 7]), ([0, 1, 2, 3, 4, 5, 6], []), ([9, 6, 6, 0, 1, 2, 3, 4, 5, 6], [6, 9])])
def Cl.B1 : List Nat := [0, 1, 0, 4, 3, 0, 63, 127, 255, 127, 639]
theorem Cl.tab1 : rtab .any (opsOf Tryz.f100 1) = Cl.T1 := by kernel_rfl
theorem Cl.bits1 : waitsOk Cl.T1.2 Cl.B1 = true := by kernel_rfl
theorem string_E7 : ∀ q, q ∈ tSt :: Kd.string.E → q ≠ tNd := by
  intro q hq
  have : q = tSt := by simpa [Kd.string, Kd.scalar] using hq
  subst this; decide
/-- The node that the closure fills: its block, what it holds so far. -/
structure Vs (w0 W : World) (O : Nat → Nat → Prop) (B : Nat) (wr : World) (keys : List ByteArray) (kids : List Tn) (A2 : Option Addr) (c2 : Nat) (A3 : Option Addr) (c3 : Nat) : Prop where
  c : Ch w0 O W wr
  n : wr.heap[B]? = some (.cells #[.int .i64 6, .string { data := #[] }, .slice A2 keys.length c2, .slice A3 kids.length c3] tNd (0, 0))
  k : Kd.string.R tSt wr (B + 1) (fun _ => True) (.slice A2 keys.length c2) keys
  d : kTn.R tNd wr (B + 1) (fun k => True ∧ some k ≠ (Value.slice A2 keys.length c2).ownBlock) (.slice A3 kids.length c3) kids
  l : w0.heap.size ≤ W.heap.size
  b : W.heap.size ≤ B
/-- The kids' rows behind a name more. -/
theorem kids_keep {W w1 : World} {B : Nat} {v v1 : Value} {kids : List Tn} {u : Value} (h : kTn.R tNd W B (fun k => True ∧ some k ≠ v.ownBlock) u kids) (hg : W.grownBy w1 v.ownBlock) (hat : v1.ownBlock = v.ownBlock ∨ ∃ b, v1.ownBlock = some b ∧ W.heap.size ≤ b) : kTn.R tNd w1 B (fun k => True ∧ some k ≠ v1.ownBlock) u kids := by
  have h1 := Kd.R_move (Kd.R_bound h) (fun k hk => hg.block k hk.2.2.1 hk.1.2)
  refine Kd.R_mono h1 (fun k hk => ⟨trivial, ?_⟩)
  rcases hat with hat | ⟨b, hb, hle⟩
  · rw [hat]; exact hk.1.2
  · rw [hb]
    intro he
    injection he with he
    have := hk.2.2.1
    omega
section
variable {w0 W wr w2 : World} {O Ot : Nat → Nat → Prop} {B : Nat} {keys : List ByteArray} {kids : List Tn} {A2 : Option Addr} {c2 : Nat} {A3 : Option Addr} {c3 : Nat}
theorem Vs.below (h : Vs w0 W O B wr keys kids A2 c2 A3 c3) (k : Below wr.heap.size wr w2) : Vs w0 W O B w2 keys kids A2 c2 A3 c3 := ⟨h.c.below h.l k, blk_below h.n k, Kd.R_below h.k k, Kd.R_below h.d k, h.l, h.b⟩
theorem Vs.call (h : Vs w0 W O B wr keys kids A2 c2 A3 c3) (k : Ch w0 Ot wr w2) (hO : ∀ i j, Ot i j → O i j ∧ i < W.heap.size) : Vs w0 W O B w2 keys kids A2 c2 A3 c3 :=
  have hb : ∀ i, B ≤ i → i < wr.heap.size → w2.heap[i]? = wr.heap[i]? := fun i h1 h2 => k.blk i h2 (fun j q => by have := (hO i j q).2; have := h.b; omega)
  ⟨h.c.trans (k.mono fun i j q => (hO i j q).1), (hb B (Nat.le_refl _) (blk_lt h.n)).trans h.n, R_from h.k (fun i h1 h2 => hb i (by omega) h2), R_from h.d (fun i h1 h2 => hb i (by omega) h2), h.l, h.b⟩
theorem Vs.held (h : Vs w0 W O B wr keys kids A2 c2 A3 c3) : wr.cell? ⟨B, 3, none⟩ = some (.slice A3 kids.length c3) := (blk_cell h.n 3).trans rfl
end
/-- But the cells of Ot what lies below W's end is as it was. -/
structure Kt (W : World) (Ot : Nat → Nat → Prop) (wr w' : World) : Prop where
  cell : ∀ x y, x < W.heap.size → ¬ Ot x y → w'.cell? ⟨x, y, none⟩ = wr.cell? ⟨x, y, none⟩
  ty : ∀ x t, x < W.heap.size → ty wr x t → ty w' x t
section
variable {w0 W wr w1 w2 : World} {Ot : Nat → Nat → Prop}
theorem Kt.trans (h : Kt W Ot wr w1) (k : Kt W Ot w1 w2) : Kt W Ot wr w2 := ⟨fun x y hx hn => (k.cell x y hx hn).trans (h.cell x y hx hn), fun x t hx ht => k.ty x t hx (h.ty x t hx ht)⟩
theorem Kt.below {B : Nat} (k : Below B wr w1) (hB : W.heap.size ≤ B) : Kt W Ot wr w1 := ⟨fun x y hx _ => World.cell?_of_block (k.block x (by omega)), fun x t hx ht => by
  obtain ⟨Z, hZ⟩ := ht
  exact ⟨Z, (k.block x (by omega)).trans hZ⟩⟩
theorem Kt.ch (k : Ch w0 Ot wr w1) (hW : W.heap.size ≤ wr.heap.size) : Kt W Ot wr w1 := ⟨fun x y hx hn => k.cell x y (by omega) hn, fun x t _ ht => k.ty x t ht⟩
theorem Kt.set (h : Kt W Ot wr w1) {i : Nat} (hi : W.heap.size ≤ i) (j : Nat) (u : Value) : Kt W Ot wr (w1.setCell ⟨i, j, none⟩ u) :=
  h.trans ⟨fun x y hx _ => cell_far _ _ _ _ (by show x ≠ i; omega), fun x t hx ht => ht.set _ _ _⟩
end
/-- What is known behind the call and the zero node's box. -/
def FF (w0 W wr : World) (O Ot : Nat → Nat → Prop) (B : Nat) (keys : List ByteArray) (kids : List Tn) (A2 : Option Addr) (c2 : Nat) (A3 : Option Addr) (c3 : Nat) (z : Tn) (s : Value × Nat) (w' : World) : Prop :=
  ∃ D2 f2 D3 f3, s.1 = .agg #[.int .i64 z.kind, .string z.text, .slice D2 z.keys.length f2, .slice D3 z.kids.length f3] ∧ Vs w0 W O B w' keys kids A2 c2 A3 c3 ∧
    kTn.M w' (B + 1) (fun k => (True ∧ some k ≠ (Value.slice A2 keys.length c2).ownBlock) ∧ some k ≠ (Value.slice A3 kids.length c3).ownBlock) z [.int .i64 z.kind, .string z.text, .slice D2 z.keys.length f2, .slice D3 z.kids.length f3] ∧ w'.heap[s.2]? = some (.cells zNd tNd (0, 0)) ∧ Kt W Ot wr w'
/-- A name more. -/
theorem Vs.name {w0 W wr w1 : World} {O : Nat → Nat → Prop} {B : Nat} {keys keys1 : List ByteArray} {kids : List Tn} {A2 : Option Addr} {c2 : Nat} {A3 : Option Addr} {c3 : Nat} {A7 : Option Addr} {c7 : Nat} (h : Vs w0 W O B wr keys kids A2 c2 A3 c3) (hB : Below (B + 1) wr w1) (hR : Kd.string.R tSt w1 (B + 1) (fun _ => True) (.slice A7 keys1.length c7) keys1)
    (hg : wr.grownBy w1 (Value.slice A2 keys.length c2).ownBlock) (hat : (Value.slice A7 keys1.length c7).ownBlock = (Value.slice A2 keys.length c2).ownBlock ∨ ∃ b, (Value.slice A7 keys1.length c7).ownBlock = some b ∧ wr.heap.size ≤ b) :
    Vs w0 W O B ((w1.setCell ⟨B, 2, none⟩ (.slice A7 keys1.length c7)).drew) keys1 kids A7 c7 A3 c3 := by
  have hn := (hB.block B (by omega)).trans h.n
  have hw : W.heap.size ≤ B + 1 := by have := h.b; omega
  have far : ∀ k, B + 1 ≤ k → k < w1.heap.size → (w1.setCell ⟨B, 2, none⟩ (.slice A7 keys1.length c7)).heap[k]? = w1.heap[k]? := fun k hk _ => Below.heap_setCell w1 ⟨B, 2, none⟩ _ k (by show k ≠ B; omega)
  have hV : Vs w0 W O B (w1.setCell ⟨B, 2, none⟩ (.slice A7 keys1.length c7)) keys1 kids A7 c7 A3 c3 :=
    ⟨(h.c.above h.l (hB.mono hw)).new h.l h.b _, blk_set hn 2 _, R_from hR far, R_from (kids_keep h.d hg hat) far, h.l, h.b⟩
  exact hV.below (below_drew (Below.refl _ _))
theorem own_old {w : World} {base : Nat} {ok : Nat → Prop} {α : Type} {d : Kd α} {e : Nat} {v : Value} {xs : List α} (h : d.R e w base ok v xs) : ∀ k, w.heap.size ≤ k → some k ≠ v.ownBlock := by
  intro k hk he
  obtain ⟨inner, ho⟩ := Kd.R_own h
  have := own_lt ho k he.symm
  omega
/-- What the call hands back, as an element. -/
theorem made_M {w0 W Y Y' : World} {O : Nat → Nat → Prop} {B : Nat} {keys : List ByteArray} {kids : List Tn} {A2 : Option Addr} {c2 : Nat} {A3 : Option Addr} {c3 : Nat} {z : Tn} {D2 D3 : Option Addr} {f2 f3 : Nat} (hV : Vs w0 W O B Y keys kids A2 c2 A3 c3)
    (h2 : Kd.string.R tSt Y' Y.heap.size (fun _ => True) (.slice D2 z.keys.length f2) z.keys) (h3 : kTn.R tNd Y' Y.heap.size (fun _ => True) (.slice D3 z.kids.length f3) z.kids) :
    kTn.M Y' (B + 1) (fun k => (True ∧ some k ≠ (Value.slice A2 keys.length c2).ownBlock) ∧ some k ≠ (Value.slice A3 kids.length c3).ownBlock) z [.int .i64 z.kind, .string z.text, .slice D2 z.keys.length f2, .slice D3 z.kids.length f3] :=
  kTn.M_lower (blk_lt hV.n) (Kd.M_mono kTn (fun k hk => ⟨⟨trivial, own_old hV.k k hk.2.1⟩, own_old hV.d k hk.2.1⟩) (kTn.M_bound (kTn_mkM _ _ _ z h2 h3)))
/-- A kid more: the zero node behind the row has been turned into z, the field set. -/
theorem Vs.kid {w0 W w2 w3 : World} {O : Nat → Nat → Prop} {B : Nat} {keys : List ByteArray} {kids : List Tn} {A2 : Option Addr} {c2 : Nat} {A3 : Option Addr} {c3 : Nat} {z : Tn} {a b c d z0 z1 z2 z3 : Value} {inner : List Value} {g cap : Nat}
    (hV : Vs w0 W O B w2 keys kids A2 c2 A3 c3) (hM : kTn.M w2 (B + 1) (fun k => (True ∧ some k ≠ (Value.slice A2 keys.length c2).ownBlock) ∧ some k ≠ (Value.slice A3 kids.length c3).ownBlock) z [a, b, c, d])
    (hr : Reps (kTn.M w2 (B + 1) (fun k => (True ∧ some k ≠ (Value.slice A2 keys.length c2).ownBlock) ∧ some k ≠ (Value.slice A3 kids.length c3).ownBlock)) kTn.sz kids inner) (hin : inner.length = kids.length * 4)
    (hown : w3.ownsRow (B + 1) tNd kTn.sz (.slice (some ⟨g, 0, none⟩) (kids.length + 1) cap) (kids.length + 1) (inner ++ [z0, z1, z2, z3])) (hB : Below (B + 1) w2 w3) (hg : w2.grownBy w3 (Value.slice A3 kids.length c3).ownBlock)
    (hat : (Value.slice (some ⟨g, 0, none⟩) (kids.length + 1) cap).ownBlock = (Value.slice A3 kids.length c3).ownBlock ∨ ∃ b, (Value.slice (some ⟨g, 0, none⟩) (kids.length + 1) cap).ownBlock = some b ∧ w2.heap.size ≤ b) :
    Vs w0 W O B (((((w3.setCell ⟨g, kids.length * 4, none⟩ a).setCell ⟨g, kids.length * 4 + 1, none⟩ b).setCell ⟨g, kids.length * 4 + 2, none⟩ c).setCell ⟨g, kids.length * 4 + 3, none⟩ d).setCell ⟨B, 3, none⟩ (.slice (some ⟨g, 0, none⟩) (kids.length + 1) cap)) keys (kids ++ [z]) A2 c2 (some ⟨g, 0, none⟩) cap := by
  have hgB := (own_at hown).1
  have hg' : (Value.slice A3 kids.length c3).ownBlock = some g ∨ w2.heap.size ≤ g := by
    rcases hat with h | ⟨b, h, hb⟩
    · exact .inl h.symm
    · have h' : some g = some b := h
      injection h' with h'
      exact .inr (by omega)
  have hn := (hB.block B (by omega)).trans hV.n
  have hw : W.heap.size ≤ B + 1 := by have := hV.b; omega
  have hc := hV.c.above hV.l (hB.mono hw)
  have o4 := own_set (own_set (own_set (own_set hown (kids.length * 4) a) (kids.length * 4 + 1) b) (kids.length * 4 + 2) c) (kids.length * 4 + 3) d
  rw [set4 hin] at o4
  have g4 := grown_set (grown_set (grown_set (grown_set hg hg' (kids.length * 4) a) hg' (kids.length * 4 + 1) b) hg' (kids.length * 4 + 2) c) hg' (kids.length * 4 + 3) d
  have c4 := (((hc.new hV.l (i := g) (j := kids.length * 4) (by omega) a).new hV.l (i := g) (j := kids.length * 4 + 1) (by omega) b).new hV.l (i := g) (j := kids.length * 4 + 2) (by omega) c).new hV.l (i := g) (j := kids.length * 4 + 3) (by omega) d
  have n4 := blk_far (p := ⟨g, kids.length * 4 + 3, none⟩) (blk_far (p := ⟨g, kids.length * 4 + 2, none⟩) (blk_far (p := ⟨g, kids.length * 4 + 1, none⟩) (blk_far (p := ⟨g, kids.length * 4, none⟩) hn (show B ≠ g by omega) a) (show B ≠ g by omega) b) (show B ≠ g by omega) c) (show B ≠ g by omega) d
  obtain ⟨w4, hw4⟩ : ∃ w4, w4 = (((w3.setCell ⟨g, kids.length * 4, none⟩ a).setCell ⟨g, kids.length * 4 + 1, none⟩ b).setCell ⟨g, kids.length * 4 + 2, none⟩ c).setCell ⟨g, kids.length * 4 + 3, none⟩ d := ⟨_, rfl⟩
  rw [← hw4] at o4 g4 c4 n4 ⊢
  have far : ∀ k, B + 1 ≤ k → k < w4.heap.size → (w4.setCell ⟨B, 3, none⟩ (.slice (some ⟨g, 0, none⟩) (kids.length + 1) cap)).heap[k]? = w4.heap[k]? := fun k hk _ => Below.heap_setCell w4 ⟨B, 3, none⟩ _ k (by show k ≠ B; omega)
  have hR := Kd.R_appended hV.d.1 hr hM (fun _ h => h) (fun k hk => ⟨trivial, own_old hV.k k hk⟩) o4 g4 hat
  refine ⟨c4.new hV.l hV.b _, ?_, R_from (Kd.R_over' hV.k (Kd.R_typed hV.d) string_E7 g4) far, ?_, hV.l, hV.b⟩
  · have := blk_set n4 3 (.slice (some ⟨g, 0, none⟩) (kids.length + 1) cap)
    rw [List.length_append, List.length_singleton]
    exact this
  · rw [List.length_append, List.length_singleton]
    exact R_from hR far
set_option maxHeartbeats 4000000 in
set_option maxRecDepth 100000 in
theorem clo_any (w0 W wr : World) (O Ot : Nat → Nat → Prop) (S B k n cc b o : Nat) (s : ByteArray) (t : T) (keys : List ByteArray) (kids : List Tn) (A2 : Option Addr) (c2 : Nat) (A3 : Option Addr) (c3 : Nat) (hV : Vs w0 W O B wr keys kids A2 c2 A3 c3)
    (hs : ∀ W', Below wr.heap.size wr W' → (convert tBs 9 (.slice (some ⟨k, 0, none⟩) n cc)).run Tryz.prog W' = .ok (.string s) W') (hl : keys.length ≤ 100000) (hld : kids.length ≤ 100000) (hf : ∀ Y, Below B wr Y → Calls Tryz.prog 37 #[.pointer (some ⟨b, o, none⟩)] Y (NPost w0 Y S Ot (tn t))) (hot : ∀ i j, Ot i j → O i j ∧ i < W.heap.size) :
    Calls Tryz.prog 100 #[.slice (some ⟨k, 0, none⟩) n cc, .pointer (some ⟨b, o, none⟩), .pointer (some ⟨B, 0, none⟩)] wr fun e W' => e = .returned (.tuple #[]) ∧ (∃ A2 c2 A3 c3, Vs w0 W O B W' (keys ++ [s]) (kids ++ [tn t]) A2 c2 A3 c3) ∧ Kt W Ot wr W' := by
  have n2 : wr.cell? ⟨B, 2, none⟩ = some (.slice A2 keys.length c2) := (blk_cell hV.n 2).trans rfl
  have hB := blk_lt hV.n
  obtain ⟨keys1, hk1⟩ : ∃ z, z = keys ++ [s] := ⟨_, rfl⟩
  rw [← hk1]
  have HV := Lib.hid hV
  have ks := hs wr (Below.refl _ _)
  obtain ⟨z, hz⟩ : ∃ z, z = tn t := ⟨_, rfl⟩
  rw [← hz] at hf ⊢
  have HF := Lib.hid hf
  have HOT := Lib.hid hot
  clear hV hs hf hot hz
  go_enter Tryz.func100, Tryz.ntmps100
  go_wp2_with (at_builtin; refine Kd.R_append Kd.string (w0 := wr) (B + 1) rfl (.tmp 6) (.tmp 9) 22 tSt (.string ⟨#[]⟩) 16 rfl Tryz.underlying22 infoSt rfl (by decide) (by decide) _ keys s [.string s] (fun _ => True) (fun _ => False) rfl (by simp [go_sem]) rfl (fun k hk => hk.elim) (fun _ _ => trivial) HV.out.k (Below.refl _ _) (by omega) (by omega) ?_; intro v1 w1 hR1 hB1 hg1 hat1; rw [← hk1] at hR1; obtain ⟨A7, c7, rfl⟩ := Kd.R_slice hR1; have HR1 := Lib.hid hR1; have HB1 := Lib.hid hB1; have HG1 := Lib.hid hg1; have HA1 := Lib.hid hat1; have hn1 := (hB1.block B (by omega)).trans HV.out.n; have m2 := blk_cell hn1 2; have f2 := blk_frozen hn1 2; have HN1 := Lib.hid hn1; clear hR1 hB1 hg1 hat1 hn1)
  have HK1 := Lib.hid hk1
  clear hk1
  go_wp2
  -- REGION
  have hV1 : Vs w0 W O B ((w1.setCell ⟨B, 2, none⟩ (.slice A7 keys1.length c7)).drew) keys1 kids A7 c7 A3 c3 := Vs.name HV.out HB1.out HR1.out HG1.out HA1.out
  have hkl : keys1.length = keys.length + 1 := by rw [HK1.out]; simp
  rw [hkl] at hV1
  obtain ⟨X, hX⟩ : ∃ X, X = w1.setCell ⟨B, 2, none⟩ (.slice A7 (keys.length + 1) c7) := ⟨_, rfl⟩
  have HFX := Lib.hid (fun Y (h : Below X.heap.size X Y) => HF.out Y (by rw [hX] at h; exact (HB1.out.mono (Nat.le_succ B)).trans ((Below.refl B w1).setCell (Nat.le_refl B) _ |>.trans (h.mono (by have := HB1.out.size; simp [World.setCell]; omega)))))
  rw [← hX] at hV1 ⊢
  have hS0 : X.drew.cell? ⟨B, 3, none⟩ = some (.slice A3 kids.length c3) := Vs.held hV1
  have HV1 := Lib.hid hV1
  have HKL := Lib.hid hkl
  have HKT := Lib.hid (show Kt W Ot wr X.drew from Kt.trans (by rw [hX]; exact (Kt.below HB1.out (by have := HV.out.b; omega)).set HV.out.b 2 _) (Kt.below (below_drew (Below.refl _ _)) HV1.out.c.size))
  clear hV1 hkl hX m2 f2
  refine start_ (n := 11) (S := fun Wd : World => Wd.cell? ⟨B, 3, none⟩ = some (.slice A3 kids.length c3)) (ds := [8, 10]) #[false, false, false, false, false, false, false, false, false, false, false] (by kernel_rfl) rfl rfl hS0 (fun hHeld => ?_)
  refine with_tabW Cl.tab1 Cl.bits1 (fun HT_ HW_ => ?_)
  refine pure_ (i := 0) (N := some 12) (v := ?_) (a' := ?_) #[true, false, false, false, false, false, false, false, false, false, false] rfl rfl (any_of HT_.out (by kernel_rfl)) (fun _ _ _ h => h) (Or.inl ⟨by rfl, ?_⟩) ?_ ?_
  rotate_left
  · intro w'
    go_simp
    with_reducible rfl
  rotate_left
  · simp only [Act.put, List.setIfInBounds_toArray, List.set_cons_zero, List.set_cons_succ, i64_w, i32_w]
    rfl
  refine pure_ (i := 2) (N := some 14) (v := ?_) (a' := ?_) #[true, false, true, false, false, false, false, false, false, false, false] rfl rfl (any_of HT_.out (by kernel_rfl)) (fun _ _ _ h => h) (Or.inl ⟨by rfl, ?_⟩) ?_ ?_
  rotate_left
  · intro w'
    go_simp
    with_reducible rfl
  rotate_left
  · simp only [Act.put, List.setIfInBounds_toArray, List.set_cons_zero, List.set_cons_succ, i64_w, i32_w]
    rfl
  refine take_ (i := 1) (N := some 13) (v := ?_) (a' := ?_) #[true, true, true, false, false, false, false, false, false, false, false] rfl rfl (take_ofW HT_.out HW_.out (by kernel_rfl)) (fun _ _ _ h => h) (Or.inl ⟨by rfl, ?_⟩) hHeld ?_ ?_
  rotate_left
  · intro w' s0
    go_simp
    with_reducible rfl
  rotate_left
  · simp only [Act.put, List.setIfInBounds_toArray, List.set_cons_zero, List.set_cons_succ, i64_w, i32_w]
    rfl
  refine pure_ (i := 4) (N := some 16) (v := ?_) (a' := ?_) #[true, true, true, false, true, false, false, false, false, false, false] rfl rfl (any_of HT_.out (by kernel_rfl)) (fun _ _ _ h => h) (Or.inl ⟨by rfl, ?_⟩) ?_ ?_
  rotate_left
  · intro w'
    go_simp
    with_reducible rfl
  rotate_left
  · simp only [Act.put, List.setIfInBounds_toArray, List.set_cons_zero, List.set_cons_succ, i64_w, i32_w]
    rfl
  refine join_ 5 #[true, true, true, true, true, true, false, false, false, false, false] (fun s : Value × Nat => [(15, s.1), (17, .slice (some ⟨s.2, 0, none⟩) 1 1)]) (FF w0 W wr O Ot B keys1 kids A7 c7 A3 c3 z) ?_ (fun HJ => ?_)
  rotate_left
  · refine two_ (i := 3) (j := 5) (Ni := some 15) (Nj := some 17) #[true, true, true, true, true, false, false, false, false, false, false] #[true, true, true, false, true, true, false, false, false, false, false] rfl rfl rfl rfl (two_of HT_.out (by kernel_rfl)) (by decide) (by decide) (fun K hK => ?_) (fun K hK => ?_)
    · refine goes_ Tryz.func37 (by kernel_rfl) rfl #[.pointer (some ⟨b, o, none⟩)] (by rfl) rfl rfl (by (try simp only [List.map_toArray, List.map_cons, List.map_nil]); first | done | rfl) ?_
      refine (HFX.out X.drew (below_drew (Below.refl _ _))).mono ?_
      rintro e' w2 ⟨D2, f2, D3, f3, hch, h2, h3, rfl⟩
      refine ⟨_, rfl, ?_⟩
      have hV2 := HV1.out.call hch HOT.out
      have hM := made_M HV1.out h2 h3
      refine hK.out _ _ hV2.held (fun hHeld => ?_)
      clear hK K
      refine norm_ (a' := ?_) ?_ ?_
      rotate_left
      · show Act.put _ (some 15) _ = _
        simp only [Act.put, List.setIfInBounds_toArray, List.set_cons_zero, List.set_cons_succ, i64_w, i32_w]
        rfl
      refine one_ (i := 5) (N := some 17) #[true, true, true, true, true, true, false, false, false, false, false] rfl rfl (one_of HT_.out (by kernel_rfl)) (by decide) (fun K hK => ?_)
      refine value_ (w1 := ?_) (v := ?_) (by rfl) rfl ?_ ?_
      rotate_left 2
      · go_simp
        constructor
        · rfl
        · rfl
      have hb2 : Below w2.heap.size w2 (w2.alloc (.cells zNd tNd)) := below_alloc (Below.refl _ _) _
      refine hK.out _ _ (hV2.below hb2).held (fun hHeld => ?_)
      clear hK K
      exact HJ (.agg #[.int .i64 z.kind, .string z.text, .slice D2 z.keys.length f2, .slice D3 z.kids.length f3], w2.heap.size) _ ⟨D2, f2, D3, f3, rfl, hV2.below hb2, Kd.M_below hM hb2, blk_new _ _, (HKT.out.trans (Kt.ch hch HV1.out.c.size)).trans (Kt.below hb2 hV2.c.size)⟩
    · refine value_ (w1 := ?_) (v := ?_) (by rfl) rfl ?_ ?_
      rotate_left 2
      · go_simp
        constructor
        · rfl
        · rfl
      have hb2 : Below X.drew.heap.size X.drew (X.drew.alloc (.cells zNd tNd)) := below_alloc (Below.refl _ _) _
      have hV2 := HV1.out.below hb2
      refine hK.out _ _ hV2.held (fun hHeld => ?_)
      clear hK K
      refine norm_ (a' := ?_) ?_ ?_
      rotate_left
      · show Act.put _ (some 17) _ = _
        simp only [Act.put, List.setIfInBounds_toArray, List.set_cons_zero, List.set_cons_succ, i64_w, i32_w]
        rfl
      refine one_ (i := 3) (N := some 15) #[true, true, true, true, true, true, false, false, false, false, false] rfl rfl (one_of HT_.out (by kernel_rfl)) (by decide) (fun K hK => ?_)
      refine goes_ Tryz.func37 (by kernel_rfl) rfl #[.pointer (some ⟨b, o, none⟩)] (by rfl) rfl rfl (by (try simp only [List.map_toArray, List.map_cons, List.map_nil]); first | done | rfl) ?_
      refine (HFX.out _ (below_then (below_drew (Below.refl _ _)) (Nat.le_refl _) hb2)).mono ?_
      rintro e' w2 ⟨D2, f2, D3, f3, hch, h2, h3, rfl⟩
      refine ⟨_, rfl, ?_⟩
      have hV3 := hV2.call hch HOT.out
      have hM := made_M hV2 h2 h3
      refine hK.out _ _ hV3.held (fun hHeld => ?_)
      clear hK K
      have hbx : w2.heap[X.drew.heap.size]? = some (.cells zNd tNd (0, 0)) := (hch.blk _ (by simp) (fun j q => by have h7 := (HOT.out _ _ q).2; have h8 := blk_lt HV1.out.n; have h9 := HV1.out.b; omega)).trans (blk_new _ _)
      exact HJ (.agg #[.int .i64 z.kind, .string z.text, .slice D2 z.keys.length f2, .slice D3 z.kids.length f3], X.drew.heap.size) _ ⟨D2, f2, D3, f3, rfl, hV3, hM, hbx, (HKT.out.trans (Kt.below hb2 HV1.out.c.size)).trans (Kt.ch hch hV2.c.size)⟩
  · rintro ⟨v15, bx⟩ w2 ⟨D2, f2, D3, f3, hv15, hV2, hM, hbx, hkt⟩
    simp only at hv15 hbx
    subst hv15
    have HV2 := Lib.hid hV2
    have HKT2 := Lib.hid hkt
    clear hkt HKT
    have HM := Lib.hid hM
    obtain ⟨h0, inner, hown, hr⟩ := hV2.d
    have hin : inner.length = kids.length * 4 := hown.1
    have hBl := blk_lt hV2.n
    have HR := Lib.hid hr
    have HIN := Lib.hid hin
    refine norm_ (a' := ?_) ?_ ?_
    rotate_left
    · show putAll _ [(15, _), (17, _)] = _
      simp only [putAll]
      simp only [Act.put, List.setIfInBounds_toArray, List.set_cons_zero, List.set_cons_succ, i64_w, i32_w]
      rfl
    refine one_ (i := 6) (N := some 18) #[true, true, true, true, true, true, true, false, false, false, false] rfl rfl (one_of HT_.out (by kernel_rfl)) (by decide) (fun K hK => ?_)
    refine step_append_box (w0 := w2) (B + 1) (by rfl) (.tmp 13) (.tmp 17) 23 tNd (.agg #[.int .i64 0, .string ⟨#[]⟩, .slice none 0 0, .slice none 0 0]) kTn.sz 72 (by rfl) Tryz.underlying23 infoTn rfl (by decide) (by decide) (.slice A3 kids.length c3) kids.length bx inner [.int .i64 0, .string ⟨#[]⟩, .slice none 0 0, .slice none 0 0] (by rfl) (by rfl) hbx rfl (by decide) hown (Below.refl _ _) hBl (by omega) ?_
    intro v1 w3 hown1 hB3 hg3 hat3
    obtain ⟨g, cap, rfl⟩ := J.own_slice hown1
    have hn3 := (hB3.block B (by omega)).trans HV2.out.n
    have hS3 : w3.cell? ⟨B, 3, none⟩ = some (.slice A3 kids.length c3) := (blk_cell hn3 3).trans rfl
    have fB3 := blk_frozen hn3 3
    have hgB := (own_at hown1).1
    obtain ⟨nn, hn⟩ : ∃ nn, nn = kids.length := ⟨_, rfl⟩
    have HN := Lib.hid hn
    obtain ⟨⟨y0, q0⟩, zz0⟩ : (∃ y, w3.cell? ⟨g, nn * 4, none⟩ = some y) ∧ w3.frozen? ⟨g, nn * 4, none⟩ = false := ⟨⟨_, (own_cell hown1 (nn * 4) (by rw [List.length_append, hin, hn]; simp)).1⟩, (own_cell hown1 (nn * 4) (by rw [List.length_append, hin, hn]; simp)).2⟩
    obtain ⟨⟨y1, q1⟩, zz1⟩ : (∃ y, w3.cell? ⟨g, nn * 4 + 1, none⟩ = some y) ∧ w3.frozen? ⟨g, nn * 4 + 1, none⟩ = false := ⟨⟨_, (own_cell hown1 (nn * 4 + 1) (by rw [List.length_append, hin, hn]; simp)).1⟩, (own_cell hown1 (nn * 4 + 1) (by rw [List.length_append, hin, hn]; simp)).2⟩
    obtain ⟨⟨y2, q2⟩, zz2⟩ : (∃ y, w3.cell? ⟨g, nn * 4 + 2, none⟩ = some y) ∧ w3.frozen? ⟨g, nn * 4 + 2, none⟩ = false := ⟨⟨_, (own_cell hown1 (nn * 4 + 2) (by rw [List.length_append, hin, hn]; simp)).1⟩, (own_cell hown1 (nn * 4 + 2) (by rw [List.length_append, hin, hn]; simp)).2⟩
    obtain ⟨⟨y3, q3⟩, zz3⟩ : (∃ y, w3.cell? ⟨g, nn * 4 + 3, none⟩ = some y) ∧ w3.frozen? ⟨g, nn * 4 + 3, none⟩ = false := ⟨⟨_, (own_cell hown1 (nn * 4 + 3) (by rw [List.length_append, hin, hn]; simp)).1⟩, (own_cell hown1 (nn * 4 + 3) (by rw [List.length_append, hin, hn]; simp)).2⟩
    have HK := Lib.hid (And.intro (Vs.kid HV2.out HM.out HR.out HIN.out hown1 hB3 hg3 hat3) (((((HKT2.out.trans (Kt.below hB3 (by have := HV2.out.b; omega))).set (i := g) (by have := HV2.out.b; omega) (kids.length * 4) (.int .i64 z.kind)).set (i := g) (by have := HV2.out.b; omega) (kids.length * 4 + 1) (.string z.text)).set (i := g) (by have := HV2.out.b; omega) (kids.length * 4 + 2) (.slice D2 z.keys.length f2)).set (i := g) (by have := HV2.out.b; omega) (kids.length * 4 + 3) (.slice D3 z.kids.length f3) |>.set HV2.out.b 3 (.slice (some ⟨g, 0, none⟩) (kids.length + 1) cap)))
    refine hK.out _ _ hS3 (fun hHeld => ?_)
    clear hK K HKT2 hown1 hB3 hg3 hat3 hn3 hown hr hM hV2 h0 hin HR HIN HV2 HM
    rw [← hn] at hS3 HK ⊢
    clear hn
    have dn : (nn : Int) < (nn : Int) + 1 := by omega
    refine norm_ (a' := ?_) ?_ ?_
    rotate_left
    · show Act.put _ (some 18) _ = _
      simp only [Act.put, List.setIfInBounds_toArray, List.set_cons_zero, List.set_cons_succ, i64_w, i32_w]
      rfl
    refine pure_ (i := 7) (N := some 19) (v := ?_) (a' := ?_) #[true, true, true, true, true, true, true, true, false, false, false] rfl rfl (any_of HT_.out (by kernel_rfl)) (fun _ _ _ h => h) (Or.inl ⟨by rfl, ?_⟩) ?_ ?_
    rotate_left
    · intro w'
      go_simp
      with_reducible rfl
    rotate_left
    · simp only [Act.put, List.setIfInBounds_toArray, List.set_cons_zero, List.set_cons_succ, i64_w, i32_w]
      rfl
    refine pure_ (i := 9) (N := some 20) (v := ?_) (a' := ?_) #[true, true, true, true, true, true, true, true, false, true, false] rfl rfl (any_of HT_.out (by kernel_rfl)) (fun _ _ _ h => h) (Or.inl ⟨by rfl, ?_⟩) ?_ ?_
    rotate_left
    · intro w'
      go_simp
      with_reducible rfl
    rotate_left
    · simp only [Act.put, List.setIfInBounds_toArray, List.set_cons_zero, List.set_cons_succ, i64_w, i32_w]
      rfl
    refine twoL_ (i := 8) (j := 10) (Ni := none) (Nj := none) #[true, true, true, true, true, true, true, true, true, true, false] #[true, true, true, true, true, true, true, true, false, true, true] rfl rfl rfl rfl (two_of HT_.out (by kernel_rfl)) (by decide) (by decide) (fun K hK => ?_) (fun K hK => ?_)
    · have sB : ∀ u0 u1 u2 u3 : Value, ((((w3.setCell ⟨g, nn * 4, none⟩ u0).setCell ⟨g, nn * 4 + 1, none⟩ u1).setCell ⟨g, nn * 4 + 2, none⟩ u2).setCell ⟨g, nn * 4 + 3, none⟩ u3).cell? ⟨B, 3, none⟩ = some (.slice A3 nn c3) := fun u0 u1 u2 u3 => by
        rw [cell_far _ _ _ _ (show B ≠ g by omega), cell_far _ _ _ _ (show B ≠ g by omega), cell_far _ _ _ _ (show B ≠ g by omega), cell_far _ _ _ _ (show B ≠ g by omega)]; exact hS3
      have fB : ∀ u0 u1 u2 u3 : Value, ((((w3.setCell ⟨g, nn * 4, none⟩ u0).setCell ⟨g, nn * 4 + 1, none⟩ u1).setCell ⟨g, nn * 4 + 2, none⟩ u2).setCell ⟨g, nn * 4 + 3, none⟩ u3).frozen? ⟨B, 3, none⟩ = false := fun u0 u1 u2 u3 => by
        rw [World.frozen?_of_block (Below.heap_setCell _ _ _ _ (show B ≠ g by omega)), World.frozen?_of_block (Below.heap_setCell _ _ _ _ (show B ≠ g by omega)), World.frozen?_of_block (Below.heap_setCell _ _ _ _ (show B ≠ g by omega)), World.frozen?_of_block (Below.heap_setCell _ _ _ _ (show B ≠ g by omega))]; exact fB3
      refine skip_ (w1 := ?_) (by rfl) rfl ?_ ?_
      rotate_left
      · go_simp
        rfl
      refine hK.out _ _ ?_
      clear hK K
      refine last_ (i := 10) (N := none) #[true, true, true, true, true, true, true, true, true, true, true] rfl rfl (one_of HT_.out (by kernel_rfl)) (by decide) (fun K hK => ?_)
      refine skip_ (w1 := ?_) (by rfl) rfl ?_ ?_
      rotate_left
      · go_simp
        rfl
      refine hK.out _ _ ?_
      clear hK K
      refine done_ (done_of HT_.out (by kernel_rfl)) ?_
      go_wp2
      go_end0
      exact ⟨rfl, ⟨_, _, _, _, HK.out.1⟩, HK.out.2⟩
    · have r0 : ∀ u : Value, (w3.setCell ⟨B, 3, none⟩ u).cell? ⟨g, nn * 4, none⟩ = some y0 := fun u => by rw [cell_far _ _ _ _ (show g ≠ B by omega)]; exact q0
      have s0 : ∀ u : Value, (w3.setCell ⟨B, 3, none⟩ u).frozen? ⟨g, nn * 4, none⟩ = false := fun u => by rw [World.frozen?_of_block (Below.heap_setCell _ _ _ _ (show g ≠ B by omega))]; exact zz0
      have r1 : ∀ u : Value, (w3.setCell ⟨B, 3, none⟩ u).cell? ⟨g, nn * 4 + 1, none⟩ = some y1 := fun u => by rw [cell_far _ _ _ _ (show g ≠ B by omega)]; exact q1
      have s1 : ∀ u : Value, (w3.setCell ⟨B, 3, none⟩ u).frozen? ⟨g, nn * 4 + 1, none⟩ = false := fun u => by rw [World.frozen?_of_block (Below.heap_setCell _ _ _ _ (show g ≠ B by omega))]; exact zz1
      have r2 : ∀ u : Value, (w3.setCell ⟨B, 3, none⟩ u).cell? ⟨g, nn * 4 + 2, none⟩ = some y2 := fun u => by rw [cell_far _ _ _ _ (show g ≠ B by omega)]; exact q2
      have s2 : ∀ u : Value, (w3.setCell ⟨B, 3, none⟩ u).frozen? ⟨g, nn * 4 + 2, none⟩ = false := fun u => by rw [World.frozen?_of_block (Below.heap_setCell _ _ _ _ (show g ≠ B by omega))]; exact zz2
      have r3 : ∀ u : Value, (w3.setCell ⟨B, 3, none⟩ u).cell? ⟨g, nn * 4 + 3, none⟩ = some y3 := fun u => by rw [cell_far _ _ _ _ (show g ≠ B by omega)]; exact q3
      have s3 : ∀ u : Value, (w3.setCell ⟨B, 3, none⟩ u).frozen? ⟨g, nn * 4 + 3, none⟩ = false := fun u => by rw [World.frozen?_of_block (Below.heap_setCell _ _ _ _ (show g ≠ B by omega))]; exact zz3
      have HK2 := HK.out
      rw [setCell_comm _ ⟨g, nn * 4 + 3, none⟩ ⟨B, 3, none⟩ (show g ≠ B by omega), setCell_comm _ ⟨g, nn * 4 + 2, none⟩ ⟨B, 3, none⟩ (show g ≠ B by omega), setCell_comm _ ⟨g, nn * 4 + 1, none⟩ ⟨B, 3, none⟩ (show g ≠ B by omega), setCell_comm _ ⟨g, nn * 4, none⟩ ⟨B, 3, none⟩ (show g ≠ B by omega)] at HK2
      replace HK2 := Lib.hid HK2
      refine skip_ (w1 := ?_) (by rfl) rfl ?_ ?_
      rotate_left
      · go_simp
        rfl
      refine hK.out _ _ ?_
      clear hK K
      refine last_ (i := 8) (N := none) #[true, true, true, true, true, true, true, true, true, true, true] rfl rfl (one_of HT_.out (by kernel_rfl)) (by decide) (fun K hK => ?_)
      refine skip_ (w1 := ?_) (by rfl) rfl ?_ ?_
      rotate_left
      · go_simp
        rfl
      refine hK.out _ _ ?_
      clear hK K
      refine done_ (done_of HT_.out (by kernel_rfl)) ?_
      go_wp2
      go_end0
      exact ⟨rfl, ⟨_, _, _, _, HK2.out.1⟩, HK2.out.2⟩
end Go.Proofs.YtcaigeikdnoheaaGreatDoor.Fp

set_option linter.unusedVariables false
set_option linter.unusedSimpArgs false
namespace Go.Proofs.YtcaigeikdnoheaaGreatDoor.Fp
open Go.RowKit Go.Proofs.YtcaigeikdnoheaaGreatDoorW.PrintWords Go.Proofs.YtcaigeikdnoheaaGreatDoorW.PrintLast Go.Proofs.YtcaigeikdnoheaaGreatDoorW.PrintMore Go.Proofs.YtcaigeikdnoheaaGreatDoor.Aid Go.Proofs.YtcaigeikdnoheaaGreatDoor.J

set_option maxRecDepth 100000 in
theorem run_clo (W : World) (x y z : Value) (a : Act) (oi : Oper) (h : oi.op = .call { callee := .value (.tmp 23), args := #[.tmp 28, .tmp 32], argTypes := #[30, 56] }) (h1 : a.eval (.tmp 23) = .func (.func 100) #[] #[z]) (h2 : a.eval (.tmp 28) = x) (h3 : a.eval (.tmp 32) = y) : (execOp a.eval oi).run Tryz.prog W = .ok (.enter 100 #[x, y, z]) W := by
  have he := enters_ (P := Tryz.prog) (f := 100) Tryz.func100 (by kernel_rfl) rfl #[x, y, z] W
  unfold execOp
  simp only [h, List.map_toArray, List.map_cons, List.map_nil, h2, h3, resolve, Sem.run_bind, Sem.run_pure, Result.andThen_ok, h1]
  simp [Deferred.ofValue, invoke, he]
def Vi.T7 : Bool × List (List Nat × List Nat) := (true, [([], []), ([], []), ([1], [1]), ([2], [2]), ([3], [3]), ([4], [4]), ([], []), ([6], [6]), ([7], [7]), ([8], [8]), ([0, 5, 9, 5], [0, 5, 9])])
def Vi.B7 : List Nat := [0, 0, 2, 6, 14, 30, 0, 64, 192, 448, 1023]
theorem Vi.tab7 : rtab .any (opsOf Tryz.f99 7) = Vi.T7 := by kernel_rfl
theorem Vi.bits7 : waitsOk Vi.T7.2 Vi.B7 = true := by kernel_rfl
/-- The names as they are taken. -/
def OL.kk : OL → OL
  | .nil => .nil
  | .cons k t l => .cons (kp k) t l.kk
theorem kk_len : ∀ l : OL, l.kk.len = l.len
  | .nil => rfl
  | .cons k t l => by rw [OL.kk, OL.len, OL.len, kk_len l]
/-- What is asked of an object's members. -/
def VO : OL → Prop
  | .nil => True
  | .cons k t l => (NT t ∧ okN t ∧ okT t ∧ (out t).length ≤ 90000 ∧ (strOfNums k).size ≤ 2147483647) ∧ VO l
def tnR : OL → List ByteArray
  | .nil => []
  | .cons k _ l => strOfNums k :: tnR l
theorem tnR_kk : ∀ l : OL, tnR l.kk = tnK l
  | .nil => by rw [OL.kk, tnR, tnK]
  | .cons k t l => by rw [OL.kk, tnR, tnK, tnR_kk l]
theorem tnO_kk : ∀ l : OL, tnO l.kk = tnO l
  | .nil => by rw [OL.kk]
  | .cons k t l => by rw [OL.kk, tnO, tnO, tnO_kk l]
theorem repO_kk {W W1 : World} {g : Nat} : ∀ (l : OL) (i0 : Nat) (O : Nat → Nat → Prop), repO W O l g i0 → (∀ i a, l.raws[i]? = some a → W1.cell? ⟨g, 2 * (i0 + i), none⟩ = some (.string (strOfNums (kp a)))) →
    (∀ x y, O x y → ¬ (x = g ∧ y % 2 = 0) → W1.cell? ⟨x, y, none⟩ = W.cell? ⟨x, y, none⟩) → (∀ x t, ty W x t → ty W1 x t) → repO W1 O l.kk g i0
  | .nil, i0, O, _, _, _, _ => by rw [OL.kk, repO]; trivial
  | .cons k t l, i0, O, h, hk, hc, ht => by
    rw [repO] at h
    rw [OL.kk, repO]
    obtain ⟨h0, h1, b, o, S, h2, h3, h4⟩ := h
    refine ⟨ht _ _ h0, ⟨by have := hk 0 k rfl; rwa [Nat.add_zero] at this, h1.2⟩, b, o, S, ⟨(hc g _ h2.2 (by omega)).trans h2.1, h2.2⟩, ?_, ?_⟩
    · exact rep_keep (fun x y q => ⟨q, hc x y q.1 (fun e => q.2.1 e.1), fun t => ht x t⟩) _ _ _ h3
    · refine repO_kk l (i0 + 1) _ h4 (fun i a ha => ?_) (fun x y q => hc x y q.1) ht
      have := hk (i + 1) a ha
      rwa [show i0 + 1 + i = i0 + (i + 1) by omega]
theorem repO_mono {W W1 : World} {g : Nat} {O : Nat → Nat → Prop} {l : OL} {i : Nat} (h : repO W O l g i) (hc : ∀ x y, O x y → W1.cell? ⟨x, y, none⟩ = W.cell? ⟨x, y, none⟩) (ht : ∀ x y, O x y → ∀ t, ty W x t → ty W1 x t) : repO W1 O l g i :=
  repO_keep (fun x y q => ⟨q, hc x y q, fun t => ht x y q t⟩) _ _ _ h
theorem bytes_back2 (W : World) (s : ByteArray) (hs : s.size ≤ 2147483647) (W' : World) (h : Below (Lib.bytesWorld W tB s).heap.size (Lib.bytesWorld W tB s) W') : (convert tBs 9 (.slice (some ⟨W.heap.size, 0, none⟩) s.size (grownCap W s.size 0 tB))).run Tryz.prog W' = .ok (.string s) W' := by
  have h2 := out_string ((OutF.conv W W (Below.refl _ _) s hs s.size (Nat.le_refl _)).1.below h)
  rw [List.take_of_length_le (by rw [bytesOf_length]; exact Nat.le_refl _), str_of_bytes] at h2
  exact h2
/-- Where the loop stands. -/
def VL (w0 W : World) (O' O : Nat → Nat → Prop) (B g n kq : Nat) (allK : List ByteArray) (allV : List Tn) (v : Value) (w' : World) : Prop :=
  ∃ i l2 Oq keys kids A2 c2 A3 c3, v = .int .i64 ((i : Nat) : Int) ∧ i + kq = n ∧ kq = l2.len ∧ repO w' Oq l2 g i ∧ (∀ x y, Oq x y → O' x y) ∧ Vs w0 W O B w' keys kids A2 c2 A3 c3 ∧ allK = keys ++ tnR l2 ∧ allV = kids ++ tnO l2 ∧ VO l2 ∧ keys.length = i ∧ kids.length = i
set_option maxHeartbeats 4000000 in
set_option maxRecDepth 100000 in
theorem visit_any (l : OL) (w0 W wr : World) (S B b o g c : Nat) (O : Nat → Nat → Prop) (hV : Vs w0 W O B wr [] [] none 0 none 0) (hS : S ≤ W.heap.size) (hbelW : Below w0.heap.size w0 W) (hE : ErrV w0) (hO : ∀ i j, O i j → i < S ∧ w0.heap.size ≤ i)
    (hv : ty wr b tV) (h1 : wr.cell? ⟨b, o + 1, none⟩ = some (.bool false) ∧ O b (o + 1)) (h0 : wr.cell? ⟨b, o, none⟩ = some (slc g l.len c) ∧ O b o) (hr : repO wr (fun x y => O x y ∧ ¬ (x = b ∧ o ≤ y ∧ y < o + 5)) l g 0)
    (hN : okNO l) (hk : okO l) (hlr : ∀ a ∈ l.raws, a.length ≤ 100000) (hVO : VO l.kk) (hn : l.len ≤ 100000) :
    Calls Tryz.prog 99 #[.pointer (some ⟨b, o, none⟩), .func (.func 100) #[] #[.pointer (some ⟨B, 0, none⟩)]] wr fun e W' => e = .returned (.tuple #[]) ∧ ∃ A2 c2 A3 c3, Vs w0 W O B W' (tnK l) (tnO l) A2 c2 A3 c3 := by
  have hbel := hV.c.bel hbelW
  have hks : ∀ i a, l.raws[i]? = some a → (w0.heap.size ≤ g ∧ ty wr g tKv ∧ g < wr.heap.size) ∧ wr.cell? ⟨g, 2 * i, none⟩ = some (.string (strOfNums a)) ∧ (Rg a ∧ a.length ≤ 100000 ∧ J.lone a = false) := fun i a ha => by
    have hil := (List.getElem?_eq_some_iff.1 ha).1
    rw [raws_len] at hil
    obtain ⟨q0, a', t, q1, q2, q3, _⟩ := repO_get hr i hil
    rw [q1] at ha
    injection ha with ha; subst ha
    have hm := List.mem_of_getElem? q1
    rw [Nat.zero_add] at q3
    exact ⟨⟨(hO _ _ q3.2.1).2, q0, q0.lt⟩, q3.1, okO_raw hk _ hm, hlr _ hm, raw_lone (okNO_raw hN _ hm)⟩
  have hU := unescapeKeys_any w0 wr b o g c l.raws hE hbel (hO _ _ h0.2).2 hv h1.1 (by rw [raws_len]; exact h0.1) hks (by rw [raws_len]; omega)
  rw [raws_len] at hU
  have hPK : ∀ i j, PK b o g l.len i j → O i j ∧ i < W.heap.size := fun i j q => by
    have hh : O i j := by
      rcases q with ⟨rfl, q2, q3⟩ | ⟨rfl, rfl⟩
      · obtain ⟨_, _, _, _, _, q4, _⟩ := repO_get hr (j / 2) (by omega)
        have := q4.2.1
        rwa [show 2 * (0 + j / 2) = j by omega] at this
      · exact h1.2
    exact ⟨hh, Nat.lt_of_lt_of_le (hO _ _ hh).1 hS⟩
  have HU := Lib.hid hU
  have HPK := Lib.hid hPK
  have HV := Lib.hid hV
  have HR := Lib.hid hr
  have HO := Lib.hid (And.intro hO hS)
  have HVO := Lib.hid hVO
  have HB0 := Lib.hid h0
  obtain ⟨n, hnn⟩ : ∃ n, n = l.len := ⟨_, rfl⟩
  have HN := Lib.hid hnn
  obtain ⟨base, cc, hsl⟩ : ∃ base cc, slc g n c = .slice base n cc := by
    unfold slc
    by_cases h : n = 0
    · rw [if_pos h, h]; exact ⟨_, _, rfl⟩
    · rw [if_neg h]; exact ⟨_, _, rfl⟩
  have HS := Lib.hid hsl
  have hob : ¬ PK b o g l.len b o := fun q => by
    rcases q with ⟨rfl, q2, q3⟩ | ⟨_, q⟩
    · obtain ⟨a, ha⟩ : ∃ a, l.raws[0]? = some a := ⟨_, List.getElem?_eq_getElem (by rw [raws_len]; omega)⟩
      exact hv.ne (hks 0 a ha).1.2.1 (by decide) rfl
    · omega
  have e0 : ∀ W1, Ch w0 (PK b o g l.len) wr W1 → W1.cell? ⟨b, o, none⟩ = some (.slice base n cc) := fun W1 hc => by
    rw [← hsl, hnn]; exact (hc.cell b o hv.lt hob).trans h0.1
  have E0 := Lib.hid e0
  clear hU hPK hV hr hO hS hVO hks h0 h1 hv hbel hN hk hlr hnn hsl hob e0
  go_enter Tryz.func99, Tryz.ntmps99
  go_wp2_with (go_at_call 110; refine HU.out.mono ?_; rintro e w1 ⟨rfl, hch, hkeys⟩; have hb0 := E0.out w1 hch; have HCH := Lib.hid hch; have HKY := Lib.hid hkeys; clear hch hkeys)
  -- LOOP
  have hV1 := HV.out.call HCH.out HPK.out
  have hr1 := repO_kk l 0 _ HR.out (fun i a ha => by rw [Nat.zero_add]; exact HKY.out i a ha) (fun x y q hn => HCH.out.cell x y (Nat.lt_of_lt_of_le (HO.out.1 _ _ q.1).1 (Nat.le_trans HO.out.2 HV.out.c.size)) (fun p => by
    rcases p with ⟨p1, p2, p3⟩ | ⟨p1, p2⟩
    · exact hn ⟨p1, p2⟩
    · exact q.2 ⟨p1, by omega, by omega⟩)) (fun x t => HCH.out.ty x t)
  have H0 := Lib.hid (show VL w0 W (fun x y => O x y ∧ ¬ (x = b ∧ o ≤ y ∧ y < o + 5)) O B g n n (tnK l) (tnO l) (.int .i64 0) w1 from ⟨0, l.kk, _, [], [], none, 0, none, 0, rfl, by omega, by rw [kk_len]; exact HN.out, hr1, fun _ _ h => h, hV1, by rw [tnR_kk]; rfl, by rw [tnO_kk]; rfl, HVO.out, rfl, rfl⟩)
  clear hV1 hr1
  go_loopg [17] n (fun kq v17 w' => Hid (VL w0 W (fun x y => O x y ∧ ¬ (x = b ∧ o ≤ y ∧ y < o + 5)) O B g n kq (tnK l) (tnO l) v17 w'))
  case atStart => exact H0
  case round =>
    obtain ⟨i, l2, Oq, keys, kids, A2, c2, A3, c3, rfl, hik, hkq, hr, hor, hV, hK, hD, hvo, hkl, hdl⟩ := hrel.out
    clear hrel H0 HCH HKY hb0
    cases l2 with
    | nil =>
      rw [OL.len] at hkq
      subst hkq
      obtain rfl : i = n := by omega
      rw [tnR, List.append_nil] at hK
      rw [tnO, List.append_nil] at hD
      rw [← hK, ← hD] at hV
      have HV9 := Lib.hid hV
      clear hr hor hV hK hD hvo hkl hdl
      go_wp2
      go_end0
      exact ⟨rfl, _, _, _, _, HV9.out⟩
    | cons k t l2 =>
      rw [OL.len] at hkq
      rw [repO] at hr
      obtain ⟨hgt, ⟨hk1, ok1⟩, b2, o2, X, ⟨hp1, op1⟩, hrt, hrl⟩ := hr
      rw [VO] at hvo
      obtain ⟨⟨hnt, hno, hko, hlo, hks⟩, hvo⟩ := hvo
      rw [tnR] at hK
      rw [tnO] at hD
      obtain rfl : base = some ⟨g, 0, none⟩ := by
        have := HS.out
        unfold slc at this
        rw [if_neg (by omega)] at this
        injection this with e; exact e.symm
      rw [Nat.mul_comm 2 i] at hk1 ok1 hp1 op1
      obtain ⟨s, hs⟩ : ∃ s, s = strOfNums k := ⟨_, rfl⟩
      rw [← hs] at hk1 hK hks
      have hin : i < n := by omega
      have hnn : n ≤ 100000 := by rw [HN.out]; exact hn
      have HX := Lib.hid (And.intro hrl (And.intro hor (And.intro hvo (And.intro hK hD))))
      have HL := Lib.hid (And.intro hkl (And.intro hdl (And.intro hik hkq)))
      have hkl2 : keys.length ≤ 100000 := by omega
      have hdl2 : kids.length ≤ 100000 := by omega
      have hOt : ∀ x y, (Oq x y ∧ x ≠ g ∧ X x y) → O x y ∧ x < W.heap.size := fun x y q => ⟨(hor x y q.1).1, Nat.lt_of_lt_of_le (HO.out.1 _ _ (hor x y q.1).1).1 HO.out.2⟩
      have hWr := hV.c.size
      have hbw := hV.c.bel hbelW
      have HV3 := Lib.hid hV
      have HNT := Lib.hid (fun (w2 Y : World) (h1 : Below wr.heap.size wr w2) (h2 : Below B w2 Y) => hnt w0 Y S b2 o2 _ (Nat.le_trans HO.out.2 (Nat.le_trans hWr (Nat.le_trans h1.size h2.size))) (below_then hbw hbw.size h1 |>.trans (h2.mono (Nat.le_trans hV.l hV.b))) hE (fun x y q => HO.out.1 x y (hor x y q.1).1) (rep_keep (fun x y q => ⟨q, (World.cell?_of_block (h2.block x (by have := (hOt x y q).2; have := hV.b; omega))).trans (World.cell?_of_block (h1.block x (by have := (hOt x y q).2; omega))), fun tt ht => by
        obtain ⟨Z, hZ⟩ := ht
        exact ⟨Z, (h2.block x (by have := (hOt x y q).2; have := hV.b; omega)).trans ((h1.block x (by have := (hOt x y q).2; omega)).trans hZ)⟩⟩) _ _ _ hrt) hno hko hlo)
      have HOT := Lib.hid hOt
      have HKS := Lib.hid hks
      have HSS := Lib.hid (And.intro ok1 op1)
      clear hrt hno hko hlo hnt hrl hor hvo hK hD hV hOt hks hs hgt hkl hdl hik hkq hbw ok1 op1
      go_wp2
      have hS0 : wr.drew.cell? ⟨g, i * 2, none⟩ = some (.string s) ∧ wr.drew.cell? ⟨g, i * 2 + 1, none⟩ = some (.pointer (some ⟨b2, o2, none⟩)) := ⟨hk1, hp1⟩
      refine start_ (n := 11) (S := fun Wd : World => Wd.cell? ⟨g, i * 2, none⟩ = some (.string s) ∧ Wd.cell? ⟨g, i * 2 + 1, none⟩ = some (.pointer (some ⟨b2, o2, none⟩))) (ds := [10]) #[false, false, false, false, false, false, false, false, false, false, false] (by kernel_rfl) rfl rfl hS0 (fun hHeld => ?_)
      refine with_tabW Vi.tab7 Vi.bits7 (fun HT_ HW_ => ?_)
      refine pure_ (i := 0) (N := some 23) (v := ?_) (a' := ?_) #[true, false, false, false, false, false, false, false, false, false, false] rfl rfl (any_of HT_.out (by kernel_rfl)) (fun _ _ _ h => h) (Or.inl ⟨by rfl, ?_⟩) ?_ ?_
      rotate_left
      · intro w'
        go_simp
        with_reducible rfl
      rotate_left
      · simp only [Act.put, List.setIfInBounds_toArray, List.set_cons_zero, List.set_cons_succ, i64_w, i32_w]
        rfl
      refine pure_ (i := 1) (N := some 24) (v := ?_) (a' := ?_) #[true, true, false, false, false, false, false, false, false, false, false] rfl rfl (any_of HT_.out (by kernel_rfl)) (fun _ _ _ h => h) (Or.inl ⟨by rfl, ?_⟩) ?_ ?_
      rotate_left
      · intro w'
        go_simp
        with_reducible rfl
      rotate_left
      · simp only [Act.put, List.setIfInBounds_toArray, List.set_cons_zero, List.set_cons_succ, i64_w, i32_w]
        rfl
      refine pure_ (i := 2) (N := some 25) (v := ?_) (a' := ?_) #[true, true, true, false, false, false, false, false, false, false, false] rfl rfl (any_of HT_.out (by kernel_rfl)) (fun _ _ _ h => h) (Or.inl ⟨by rfl, ?_⟩) ?_ ?_
      rotate_left
      · intro w'
        go_simp
        with_reducible rfl
      rotate_left
      · simp only [Act.put, List.setIfInBounds_toArray, List.set_cons_zero, List.set_cons_succ, i64_w, i32_w]
        rfl
      refine pure_ (i := 3) (N := some 26) (v := ?_) (a' := ?_) #[true, true, true, true, false, false, false, false, false, false, false] rfl rfl (any_of HT_.out (by kernel_rfl)) (fun _ _ _ h => h) (Or.inl ⟨by rfl, ?_⟩) ?_ ?_
      rotate_left
      · intro w'
        go_simp
        with_reducible rfl
      rotate_left
      · simp only [Act.put, List.setIfInBounds_toArray, List.set_cons_zero, List.set_cons_succ, i64_w, i32_w]
        rfl
      refine pure_ (i := 6) (N := some 29) (v := ?_) (a' := ?_) #[true, true, true, true, false, false, true, false, false, false, false] rfl rfl (any_of HT_.out (by kernel_rfl)) (fun _ _ _ h => h) (Or.inl ⟨by rfl, ?_⟩) ?_ ?_
      rotate_left
      · intro w'
        go_simp
        with_reducible rfl
      rotate_left
      · simp only [Act.put, List.setIfInBounds_toArray, List.set_cons_zero, List.set_cons_succ, i64_w, i32_w]
        rfl
      refine pure_ (i := 7) (N := some 30) (v := ?_) (a' := ?_) #[true, true, true, true, false, false, true, true, false, false, false] rfl rfl (any_of HT_.out (by kernel_rfl)) (fun _ _ _ h => h) (Or.inl ⟨by rfl, ?_⟩) ?_ ?_
      rotate_left
      · intro w'
        go_simp
        with_reducible rfl
      rotate_left
      · simp only [Act.put, List.setIfInBounds_toArray, List.set_cons_zero, List.set_cons_succ, i64_w, i32_w]
        rfl
      refine pure_ (i := 8) (N := some 31) (v := ?_) (a' := ?_) #[true, true, true, true, false, false, true, true, true, false, false] rfl rfl (any_of HT_.out (by kernel_rfl)) (fun _ _ _ h => h) (Or.inl ⟨by rfl, ?_⟩) ?_ ?_
      rotate_left
      · intro w'
        go_simp
        with_reducible rfl
      rotate_left
      · simp only [Act.put, List.setIfInBounds_toArray, List.set_cons_zero, List.set_cons_succ, i64_w, i32_w]
        rfl
      refine take_ (i := 4) (N := some 27) (v := ?_) (a' := ?_) #[true, true, true, true, true, false, true, true, true, false, false] rfl rfl (take_ofW HT_.out HW_.out (by kernel_rfl)) (fun _ _ _ h => h) (Or.inl ⟨by rfl, ?_⟩) hHeld ?_ ?_
      rotate_left
      · rintro w' ⟨s0, s1⟩
        go_simp
        with_reducible rfl
      rotate_left
      · simp only [Act.put, List.setIfInBounds_toArray, List.set_cons_zero, List.set_cons_succ, i64_w, i32_w]
        rfl
      refine take_ (i := 9) (N := some 32) (v := ?_) (a' := ?_) #[true, true, true, true, true, false, true, true, true, true, false] rfl rfl (take_ofW HT_.out HW_.out (by kernel_rfl)) (fun _ _ _ h => h) (Or.inl ⟨by rfl, ?_⟩) hHeld ?_ ?_
      rotate_left
      · rintro w' ⟨s0, s1⟩
        go_simp
        with_reducible rfl
      rotate_left
      · simp only [Act.put, List.setIfInBounds_toArray, List.set_cons_zero, List.set_cons_succ, i64_w, i32_w]
        rfl
      refine one_ (i := 5) (N := some 28) #[true, true, true, true, true, true, true, true, true, true, false] rfl rfl (one_of HT_.out (by kernel_rfl)) (by decide) (fun K hK => ?_)
      refine goes_ Tryz.func102 (by kernel_rfl) rfl #[.string s] (by rfl) rfl rfl (by (try simp only [List.map_toArray, List.map_cons, List.map_nil]); first | done | rfl) ?_
      refine (s2b_any s _).mono ?_
      rintro e' w2 ⟨rfl, hw2⟩
      refine ⟨_, rfl, ?_⟩
      have hb2 : Below wr.heap.size wr w2 := by rw [hw2]; exact below_then (below_drew (Below.refl _ _)) (Nat.le_refl _) (Lib.bytesWorld_below _ _ _)
      have hcv : ∀ W', Below w2.heap.size w2 W' → (convert tBs 9 (.slice (some ⟨wr.drew.heap.size, 0, none⟩) s.size (grownCap wr.drew s.size 0 tB))).run Tryz.prog W' = .ok (.string s) W' := fun W' h => by rw [hw2] at h; exact bytes_back2 wr.drew s HKS.out W' h
      refine hK.out _ _ ⟨pw_cell_below hb2 hk1, pw_cell_below hb2 hp1⟩ (fun hHeld => ?_)
      clear hK K hw2
      refine norm_ (a' := ?_) ?_ ?_
      rotate_left
      · show Act.put _ (some 28) _ = _
        simp only [Act.put, List.setIfInBounds_toArray, List.set_cons_zero, List.set_cons_succ, i64_w, i32_w]
        rfl
      have HCL := Lib.hid (clo_any w0 W w2 O _ S B wr.drew.heap.size s.size (grownCap wr.drew s.size 0 tB) b2 o2 s t keys kids A2 c2 A3 c3 (HV3.out.below hb2) hcv hkl2 hdl2 (fun Y hY => HNT.out w2 Y hb2 hY) HOT.out)
      clear hcv
      refine last_ (i := 10) (N := some 33) #[true, true, true, true, true, true, true, true, true, true, true] rfl rfl (one_of HT_.out (by kernel_rfl)) (by decide) (fun K hK => ?_)
      refine call_ 100 #[.slice (some ⟨wr.drew.heap.size, 0, none⟩) s.size (grownCap wr.drew s.size 0 tB), .pointer (some ⟨b2, o2, none⟩), .pointer (some ⟨B, 0, none⟩)] (by rfl) rfl (run_clo _ _ _ _ _ _ rfl (by rfl) (by rfl) (by rfl)) ?_
      refine HCL.out.mono ?_
      rintro e' w3 ⟨rfl, ⟨A5, c5, A6, c6, hV3⟩, hkt⟩
      refine ⟨_, rfl, ?_⟩
      refine hK.out _ _ ?_
      clear hK K
      refine done_ (done_of HT_.out (by kernel_rfl)) ?_
      have HV5 := Lib.hid hV3
      have HKT := Lib.hid hkt
      have HB2 := Lib.hid hb2
      clear hV3 hkt hb2 HCL
      go_wp2
      go_roundg (gk - 1)
      case rel =>
        obtain ⟨hrl, hor, hvo, hK, hD⟩ := HX.out
        obtain ⟨hkl, hdl, hik, hkq⟩ := HL.out
        have hlt : ∀ x y, Oq x y → x < W.heap.size := fun x y q => Nat.lt_of_lt_of_le (HO.out.1 _ _ (hor x y q).1).1 HO.out.2
        refine Lib.hid ⟨i + 1, l2, _, keys ++ [s], kids ++ [tn t], A5, c5, A6, c6, by go_num, by omega, by omega, repO_mono hrl (fun x y q => (HKT.out.cell x y (hlt x y q.1) (fun p => ?_)).trans (World.cell?_of_block (HB2.out.block x (by have := hlt x y q.1; omega)))) (fun x y q tt ht => HKT.out.ty x tt (hlt x y q.1) ?_), fun x y q => hor x y q.1, HV5.out, by rw [hK]; simp, by rw [hD]; simp, hvo, by simp; omega, by simp; omega⟩
        · rcases q.2 with h | h
          · exact p.2.1 h
          · exact h p.2.2
        · obtain ⟨Z, hZ⟩ := ht
          exact ⟨Z, (HB2.out.block x (by have := hlt x y q.1; omega)).trans hZ⟩
      case measure => have := HL.out; omega
end Go.Proofs.YtcaigeikdnoheaaGreatDoor.Fp
