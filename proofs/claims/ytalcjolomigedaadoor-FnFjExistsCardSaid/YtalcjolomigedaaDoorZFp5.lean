/- Several texts in one. -/
import Derived.Test.YtalcjolomigedaaDoorZFp4
import Derived.Deep.RegionHeld3
set_option linter.unusedVariables false
set_option linter.unusedSimpArgs false
namespace Go.Proofs.YtalcjolomigedaaDoor.Fp
open Go.RowKit Go.Proofs.YtalcjolomigedaaDoorW.PrintWords Go.Proofs.YtalcjolomigedaaDoorW.PrintLast Go.Proofs.YtalcjolomigedaaDoorW.PrintMore Go.Proofs.YtalcjolomigedaaDoor.Aid Go.Proofs.YtalcjolomigedaaDoor.J

def Rg (l : L) : Prop := ∀ x ∈ l, 0 ≤ x ∧ x < 256
theorem Rg.sb {r l : L} (h : Rg l) (k : Sb r l) : Rg r := fun x hx => h x (k x hx)
theorem Rg.by {l : L} (h : Rg l) : bytesOf (strOfNums l) = l := bytes_of_str l h
theorem rs_sbA : ∀ (l : L) (o : Bool) (a r : L), rs o l = some (a, r) → Sb a l
  | [], o, a, r, h => by cases h
  | c :: t, o, a, r, h => by
    rw [rs] at h
    split at h
    · injection h with h; injection h with h1 h2; subst h1; intro x hx; cases hx
    · cases e : rs (c == 92 && !o) t with
      | none => rw [e] at h; cases h
      | some x =>
        rw [e] at h
        injection h with h; injection h with h1 h2; subst h1
        have := rs_sbA t _ x.1 x.2 e
        intro y hy
        rcases List.mem_cons.1 hy with h | h
        · rw [h]; exact List.mem_cons_self
        · exact List.mem_cons_of_mem _ (this y h)
theorem take_sb (k : Nat) (l : L) : Sb (l.take k) l := fun x hx => List.mem_of_mem_take hx
theorem num_sbA {l a r : L} (h : num l = some (a, r)) : Sb a l := by
  have hd : Sb (l.dropWhile nb) l := fun x hx => (List.dropWhile_sublist _).subset hx
  have ht : Sb (l.takeWhile nb) l := fun x hx => (List.takeWhile_sublist _).subset hx
  unfold num at h
  simp only [] at h
  split at h
  · injection h with h; injection h with h1 h2; subst h1; exact fun x hx => hx
  · split at h
    · split at h
      · injection h with h; injection h with h1 h2; subst h1; exact (take_sb 3 _).trans hd
      · cases h
    · split at h
      · split at h
        · injection h with h; injection h with h1 h2; subst h1
          intro x hx
          rcases List.mem_append.1 hx with q | q
          · exact ht x q
          · exact hd x (List.mem_of_mem_take q)
        · cases h
      · injection h with h; injection h with h1 h2; subst h1; exact ht
def okK (k : Int) : Prop := k = 7 ∨ k = 4 ∨ k = 5 ∨ k = 6 ∨ k = 0
mutual
def okT : T → Prop
  | .leaf k s => okK k ∧ Rg s
  | .arr l => okL l
  | .obj l => okO l
def okL : TL → Prop
  | .nil => True
  | .cons t l => okT t ∧ okL l
def okO : OL → Prop
  | .nil => True
  | .cons k t l => (Rg k ∧ okT t) ∧ okO l
end
theorem oks : ∀ n, (∀ d l t r, Rg l → pv n d l = some (t, r) → okT t) ∧ (∀ d l t r, Rg l → pa n d l = some (t, r) → okL t) ∧ (∀ d l t r, Rg l → po n d l = some (t, r) → okO t) := by
  intro n
  induction n with
  | zero => exact ⟨fun d l t r hR h => (by rw [pv] at h; cases h), fun d l t r hR h => (by rw [pa] at h; cases h), fun d l t r hR h => (by rw [po] at h; cases h)⟩
  | succ n ih =>
    obtain ⟨iv, ia, io⟩ := ih
    refine ⟨fun d l t r hR h => ?_, fun d l t r hR h => ?_, fun d l t r hR h => ?_⟩
    · cases l with
      | nil => rw [pv] at h; cases h
      | cons c l =>
        have hRl := hR.sb (Sb.cons c l)
        have hw := ws_sb l
        rw [pv] at h
        split at h
        · cases h
        split at h
        · unfold obj0 at h
          cases e : ws l with
          | nil => rw [e] at h; cases h
          | cons c2 q =>
            rw [e] at h hw
            simp only [] at h
            split at h
            · injection h with h; injection h with h1 h2; subst h1
              rw [okT, okO]; trivial
            · cases e2 : po n (d + 1) (c2 :: q) with
              | none => rw [e2] at h; cases h
              | some x =>
                rw [e2] at h
                injection h with h; injection h with h1 h2; subst h1
                rw [okT]; exact io _ _ x.1 x.2 (hRl.sb hw) e2
        split at h
        · unfold arr0 at h
          cases e : ws l with
          | nil => rw [e] at h; cases h
          | cons c2 q =>
            rw [e] at h hw
            simp only [] at h
            split at h
            · injection h with h; injection h with h1 h2; subst h1
              rw [okT, okL]; trivial
            · cases e2 : pa n (d + 1) (c2 :: q) with
              | none => rw [e2] at h; cases h
              | some x =>
                rw [e2] at h
                injection h with h; injection h with h1 h2; subst h1
                rw [okT]; exact ia _ _ x.1 x.2 (hRl.sb hw) e2
        split at h
        · cases e : rs false l with
          | none => rw [e] at h; cases h
          | some x =>
            rw [e] at h
            injection h with h; injection h with h1 h2; subst h1
            rw [okT]; exact ⟨.inl rfl, hRl.sb (rs_sbA l false x.1 x.2 e)⟩
        split at h
        · split at h
          · injection h with h; injection h with h1 h2; subst h1; rw [okT]; exact ⟨.inr (.inr (.inl rfl)), fun x hx => (by cases hx)⟩
          · cases h
        split at h
        · split at h
          · injection h with h; injection h with h1 h2; subst h1; rw [okT]; exact ⟨.inr (.inr (.inr (.inl rfl))), fun x hx => (by cases hx)⟩
          · cases h
        split at h
        · split at h
          · injection h with h; injection h with h1 h2; subst h1; rw [okT]; exact ⟨.inr (.inr (.inr (.inr rfl))), fun x hx => (by cases hx)⟩
          · split at h
            · injection h with h; injection h with h1 h2; subst h1; rw [okT]; exact ⟨.inr (.inl rfl), hR.sb (take_sb 3 _)⟩
            · cases h
        cases e : num (c :: l) with
        | none => rw [e] at h; cases h
        | some x =>
          rw [e] at h
          injection h with h; injection h with h1 h2; subst h1
          rw [okT]; exact ⟨.inr (.inl rfl), hR.sb (num_sbA (a := x.1) (r := x.2) e)⟩
    · rw [pa] at h
      cases e : pv n d (ws l) with
      | none => rw [e] at h; cases h
      | some x =>
        rw [e] at h
        have h1 := iv _ _ x.1 x.2 (hR.sb (ws_sb l)) e
        have hw2 := (ws_sb x.2).trans (((sbs n).1 _ _ x.1 x.2 e).trans (ws_sb l))
        simp only [] at h
        cases e2 : ws x.2 with
        | nil => rw [e2] at h; cases h
        | cons c q =>
          rw [e2] at h hw2
          have hq := (Sb.cons c q).trans hw2
          simp only [] at h
          split at h
          · cases e3 : pa n d q with
            | none => rw [e3] at h; cases h
            | some y =>
              rw [e3] at h
              injection h with h; injection h with h3 h4; subst h3
              rw [okL]; exact ⟨h1, ia _ _ y.1 y.2 (hR.sb hq) e3⟩
          · split at h
            · injection h with h; injection h with h3 h4; subst h3
              rw [okL, okL]; exact ⟨h1, trivial⟩
            · cases h
    · rw [po] at h
      have hw := ws_sb l
      cases e0 : ws l with
      | nil => rw [e0] at h; cases h
      | cons c0 q0 =>
        rw [e0] at h hw
        have hq0 := (Sb.cons c0 q0).trans hw
        simp only [] at h
        split at h
        · cases e1 : rs false q0 with
          | none => rw [e1] at h; cases h
          | some k =>
            rw [e1] at h
            have hkA := hR.sb ((rs_sbA q0 false k.1 k.2 e1).trans hq0)
            have hw1 := (ws_sb k.2).trans ((rs_sb q0 false k.1 k.2 e1).trans hq0)
            simp only [] at h
            cases e2 : ws k.2 with
            | nil => rw [e2] at h; cases h
            | cons c2 q2 =>
              rw [e2] at h hw1
              have hw2 := (ws_sb q2).trans ((Sb.cons c2 q2).trans hw1)
              simp only [] at h
              split at h
              · cases e : pv n d (ws q2) with
                | none => rw [e] at h; cases h
                | some x =>
                  rw [e] at h
                  have h1 := iv _ _ x.1 x.2 (hR.sb hw2) e
                  have hw3 := (ws_sb x.2).trans (((sbs n).1 _ _ x.1 x.2 e).trans hw2)
                  simp only [] at h
                  cases e3 : ws x.2 with
                  | nil => rw [e3] at h; cases h
                  | cons c q =>
                    rw [e3] at h hw3
                    have hq := (Sb.cons c q).trans hw3
                    simp only [] at h
                    split at h
                    · cases e4 : po n d q with
                      | none => rw [e4] at h; cases h
                      | some y =>
                        rw [e4] at h
                        injection h with h; injection h with h3 h4; subst h3
                        rw [okO]; exact ⟨⟨hkA, h1⟩, io _ _ y.1 y.2 (hR.sb hq) e4⟩
                    · split at h
                      · injection h with h; injection h with h3 h4; subst h3
                        rw [okO, okO]; exact ⟨⟨hkA, h1⟩, trivial⟩
                      · cases h
              · cases h
        · cases h

end Go.Proofs.YtalcjolomigedaaDoor.Fp

set_option linter.unusedVariables false
set_option linter.unusedSimpArgs false
namespace Go.Proofs.YtalcjolomigedaaDoor.Fp
open Go.RowKit Go.Proofs.YtalcjolomigedaaDoorW.PrintWords Go.Proofs.YtalcjolomigedaaDoorW.PrintLast Go.Proofs.YtalcjolomigedaaDoorW.PrintMore Go.Proofs.YtalcjolomigedaaDoor.Aid Go.Proofs.YtalcjolomigedaaDoor.J

theorem outL_len : ∀ l : TL, l.len ≤ (outL l).length + 1
  | .nil => Nat.zero_le _
  | .cons t .nil => by rw [TL.len]; show 0 + 1 ≤ _; omega
  | .cons t (.cons u m) => by
    have := outL_len (.cons u m)
    rw [outL2, TL.len]; simp only [List.length_append, List.length_cons]; omega
theorem outO_len : ∀ l : OL, l.len ≤ (outO l).length + 1
  | .nil => Nat.zero_le _
  | .cons k t .nil => by rw [OL.len]; show 0 + 1 ≤ _; omega
  | .cons k t (.cons j u m) => by
    have := outO_len (.cons j u m)
    rw [outO2, OL.len]; simp only [List.length_append, List.length_cons]; omega
end Go.Proofs.YtalcjolomigedaaDoor.Fp

set_option linter.unusedVariables false
set_option linter.unusedSimpArgs false
namespace Go.Proofs.YtalcjolomigedaaDoor.Fp
open Go.RowKit Go.Proofs.YtalcjolomigedaaDoorW.PrintWords Go.Proofs.YtalcjolomigedaaDoorW.PrintLast Go.Proofs.YtalcjolomigedaaDoorW.PrintMore Go.Proofs.YtalcjolomigedaaDoor.Aid Go.Proofs.YtalcjolomigedaaDoor.J

/-- A cell that is new since w0. -/
abbrev In2 (w0 w : World) (i _j : Nat) : Prop := i < w.heap.size ∧ w0.heap.size ≤ i
def PaPost2 (w0 : World) (l : L) (r : Option T) (e : Ending) (w' : World) : Prop := Below w0.heap.size w0 w' ∧ match r with
  | some t => ∃ b o, e = .returned (.tuple #[.pointer (some ⟨b, o, none⟩), .nilIface]) ∧ okT t ∧ rep w' (In2 w0 w') t b o ∧ (out t).length ≤ l.length
  | none => ∃ N, e = .returned (.tuple #[.pointer none, eI N])
theorem pa2_none {w0 w' : World} {l : L} {r : Option T} {e : Ending} {N : Nat} (hr : r = none) (hb : Below w0.heap.size w0 w') (h : e = .returned (.tuple #[.pointer none, eI N])) : PaPost2 w0 l r e w' := by subst hr; exact ⟨hb, N, h⟩
theorem pa2_some {w0 w' : World} {l : L} {r : Option T} {t : T} {e : Ending} {b o : Nat} (hr : r = some t) (hb : Below w0.heap.size w0 w') (h : e = .returned (.tuple #[.pointer (some ⟨b, o, none⟩), .nilIface])) (hk : okT t) (hp : rep w' (In2 w0 w') t b o) (hl : (out t).length ≤ l.length) : PaPost2 w0 l r e w' := by subst hr; exact ⟨hb, b, o, h, hk, hp, hl⟩
theorem not_old {w0 W : World} {A i j : Nat} (h : ¬ Old A W (.slice none 0 0) i j) (hA : w0.heap.size ≤ A) (hW : w0.heap.size ≤ W.heap.size) : w0.heap.size ≤ i := by
  refine Nat.le_of_not_lt fun hi => h ⟨by omega, by omega, fun B n hv => (by cases hv)⟩
theorem Outp.shape {w0 W : World} {v : Value} {xs : L} (h : Outp w0 W v xs) : ∃ base c, v = .slice base xs.length c := by
  rcases h.1.2 with ⟨e, h0⟩ | ⟨g, cap, cur, e1, _⟩
  · exact ⟨none, 0, by rw [e, h0]⟩
  · exact ⟨_, _, e1⟩
theorem b2sO_any {B : Nat} (W : World) (v : Value) (xs : L) (h : W.ownsRow B 5 1 v xs.length (nums .u8 xs)) : Calls Tryd.prog 47 #[v] W fun e w' => e = .returned (.string (strOfNums xs)) ∧ w' = W := by
  have hc : (convert 42 9 v).run Tryd.prog W = .ok (.string (strOfNums xs)) W := own_string Tryd.underlying42 Tryd.underlying5 Tryd.underlying9 h
  obtain ⟨base, c, rfl⟩ : ∃ base c, v = .slice base xs.length c := by
    rcases h.2 with ⟨e, h0⟩ | ⟨g, cap, cur, e1, _⟩
    · exact ⟨none, 0, by rw [e, h0]⟩
    · exact ⟨_, _, e1⟩
  clear h
  go_enter Tryd.func47, Tryd.ntmps47
  go_wp2
  go_ret
  exact ⟨rfl, rfl⟩
set_option maxRecDepth 100000 in
/-- reset of a cache that was never filled. -/
theorem creset_any (W : World) (A : Nat) (h0 : W.cell? ⟨A, 1, none⟩ = some (.slice none 0 0)) (f0 : W.frozen? ⟨A, 1, none⟩ = false) :
    Calls Tryd.prog 45 #[.pointer (some ⟨A, 1, none⟩)] W fun e w' => e = .returned (.tuple #[]) ∧ w' = W.setCell ⟨A, 1, none⟩ (.slice none 0 0) := by
  go_enter Tryd.func45, Tryd.ntmps45
  go_wp2
  go_loop [10] (fun v10 => v10 = .int .i64 0) (fun _ => 0)
  case atStart => rfl
  case round =>
    subst hrel
    go_wp2
    go_end0
    exact ⟨rfl, rfl⟩
set_option maxHeartbeats 8000000 in
set_option maxRecDepth 100000 in
theorem Parse_any2 (w0 W : World) (A : Nat) (s : ByteArray) (hs : s.size ≤ 90000) (hA : W.heap[A]? = some (.cells #[.slice none 0 0, .slice none 0 0] tPar (0, 0))) (hlow : w0.heap.size ≤ A) (hbel : Below w0.heap.size w0 W) :
    Calls Tryd.prog 26 #[.pointer (some ⟨A, 0, none⟩), .string s] W (PaPost2 w0 (bytesOf s) (parse0 (bytesOf s))) := by
  have HW := Lib.hid (fun W => ws_any s W (by omega))
  have hbw : bytesOf (strOfNums (ws (bytesOf s))) = ws (bytesOf s) := bs_of (ws_sb _)
  have hwl := ws_le (bytesOf s)
  rw [bytesOf_length] at hwl
  obtain ⟨s1, hs1⟩ : ∃ s1, s1 = strOfNums (ws (bytesOf s)) := ⟨_, rfl⟩
  rw [← hs1] at HW hbw
  have hz1 : s1.size = (ws (bytesOf s)).length := by rw [← hbw, bytesOf_length]
  have HA := Lib.hid hA
  have HB := Lib.hid hbel
  have HL := Lib.hid hlow
  have c0 : W.cell? ⟨A, 0, none⟩ = some (.slice none 0 0) := (blk_cell hA 0).trans rfl
  have l1 : ([] : L).length + s1.size ≤ 4294967296 := by simp; omega
  obtain ⟨res, hres⟩ : ∃ res, res = parse0 (bytesOf s) := ⟨_, rfl⟩
  rw [← hres]
  clear hA hbel hlow hs1
  go_enter Tryd.func26, Tryd.ntmps26
  go_upto_region 3 with (first
    | (go_at_call 44; refine (HW.out _).mono ?_; rintro e w1 ⟨rfl, hd1⟩; have HD1 := Lib.hid hd1.below; have c1 : w1.cell? ⟨A, 0, none⟩ = some (.slice none 0 0) := (blk_cell (blk_below HA.out HD1.out) 0).trans rfl; clear hd1)
    | (at_builtin; refine out_str rfl (.tmp 16) (.tmp 17) rfl (.slice none 0 0) s1 [] rfl rfl (Outp.nil (Below.refl w1.heap.size w1)) l1 ?_; intro v2 w2 ho _; have H2 := Lib.hid ho; obtain ⟨base, cc, rfl⟩ := Outp.shape ho; have hA2 := blk_below (blk_below HA.out HD1.out) ho.2; have HA2 := Lib.hid hA2; have c2 : w2.cell? ⟨A, 0, none⟩ = some (.slice none 0 0) := (blk_cell hA2 0).trans rfl; have f2 : w2.frozen? ⟨A, 0, none⟩ = false := blk_frozen hA2 0; clear ho hA2))
  clear c1 c2 f2 c0
  obtain ⟨sv, hsv⟩ : ∃ sv, sv = Value.slice base (ws (bytesOf s)).length cc := ⟨_, rfl⟩
  have hO2 : Outp w1 w2 sv (bytesOf s1) := by rw [hsv, ← hbw]; exact H2.out
  have hA3 := blk_set HA2.out 0 sv
  have hlt1 : A < w1.heap.size := blk_lt (blk_below HA.out HD1.out)
  have hown3 : (w2.setCell ⟨A, 0, none⟩ sv).ownsRow w1.heap.size 5 1 sv (bytesOf s1).length (nums .u8 (bytesOf s1)) := ownsRow_setCell_below hO2.1 hlt1 sv
  have hB3 : Below w0.heap.size w0 (w2.setCell ⟨A, 0, none⟩ sv) := below_set (below_step (below_step HB.out HD1.out) hO2.2) HL.out
  rw [← hsv]
  generalize w2.setCell ⟨A, 0, none⟩ sv = W3 at hA3 hown3 hB3 ⊢
  have HCR := Lib.hid (creset_any W3 A ((blk_cell hA3 1).trans rfl) (blk_frozen hA3 1))
  have hA4 := blk_set hA3 1 (.slice none 0 0)
  have hown4 := ownsRow_setCell_below hown3 (a := ⟨A, 1, none⟩) hlt1 (.slice none 0 0)
  have hB4 := below_set (j := 1) (v := .slice none 0 0) hB3 HL.out
  have HK4 := Lib.hid (And.intro hA4 (And.intro hown4 hB4))
  clear hA3 hown3 hB3 hO2 hsv hA4 hown4 hB4 H2 HA2 hlt1
  go_upto_region 4 with (go_at_call 45; refine HCR.out.mono ?_; rintro e w4 ⟨rfl, hw4⟩; have HK := Lib.hid HK4.out; rw [← hw4] at HK; have c5 : w4.cell? ⟨A, 0, none⟩ = some sv := (blk_cell HK.out.1 0).trans rfl; clear hw4)
  clear HCR HK4
  have HP := Lib.hid (fun (W5 : World) (hb : Below w4.heap.size w4 W5) => pv_all w0 A sv s1.size s1 (2 * s1.size + 2) 0 0 W5 (.slice none 0 0) (Nat.le_refl _) (by omega) (Nat.le_refl _) (by omega) (St.below ⟨HK.out.1, HL.out, HK.out.2.2, .inl ⟨rfl, rfl⟩, fun B n hv => by cases hv⟩ hb) (by omega))
  have HO5 := Lib.hid (show World.ownsRow w4.drew w1.heap.size 5 1 sv (bytesOf s1).length (nums .u8 (bytesOf s1)) from HK.out.2.1)
  rw [hbw] at HP
  have HBS := Lib.hid (b2sO_any w4.drew sv (bytesOf s1) HO5.out)
  rw [str_of_bytes] at HBS
  replace HP : Hid (∀ (W5 : World), Below w4.heap.size w4 W5 → Calls Tryd.prog 46 #[.pointer (some ⟨A, 1, none⟩), .string s1, .int .i64 0] W5 (PvPost w0 A sv W5 (.slice none 0 0) 0 s1.size (pv (2 * s1.size + 2) 0 (ws (bytesOf s))))) := HP
  unfold parse0 at hres
  cases hr : pv (2 * (ws (bytesOf s)).length + 2) 0 (ws (bytesOf s)) with
  | none =>
    rw [hr] at hres
    rw [← hz1] at hr
    rw [hr] at HP
    have Hg := Lib.hid (show res = none from hres)
    clear hres hr hbw hwl hz1 l1
    go_region_with ((first
      | (go_at_call 47; refine HBS.out.mono ?_; rintro e w6 ⟨rfl, hw6⟩; replace hw6 := hw6.symm; subst hw6)
      | (go_at_call 46; refine (HP.out _ (below_drew (Below.refl _ _))).mono ?_; rintro e w7 ⟨hb, htk, a, N, rfl⟩; have HB7 := Lib.hid hb; clear hb htk)))
    go_wp2_with (go_at_call 48; refine (new_any _ _).mono ?_; rintro e w8 ⟨⟨N2, rfl⟩, hb⟩; have HB8 := Lib.hid (below_step HB7.out hb); clear hb)
    go_ret2
    exact pa2_none Hg.out HB8.out rfl
  | some x =>
    obtain ⟨t, r⟩ := x
    rw [hr] at hres
    have hrw : Rg (ws (bytesOf s)) := fun y hy => bytesOf_range s y (ws_sb _ y hy)
    have hok := (oks _).1 _ _ _ _ hrw hr
    have hsz := ((sizes _).1 _ _ _ _ hr).1
    have hbr : bytesOf (strOfNums r) = r := (hrw.sb ((sbs _).1 _ _ _ _ hr)).by
    rw [← hz1] at hr
    rw [hr] at HP
    have HWR := Lib.hid (fun W => ws_any (strOfNums r) W (by rw [sz_of]; omega))
    rw [hbr] at HWR
    have HSZ := Lib.hid (show (out t).length ≤ (bytesOf s).length by rw [bytesOf_length]; omega)
    have HOK := Lib.hid hok
    replace hres : res = if ws r = [] then some t else none := hres
    clear hr hbw hwl hz1 l1 hok hsz hbr hrw
    cases hw : ws r with
    | nil =>
      rw [hw] at HWR hres
      have Hg : Hid (res = some t) := Lib.hid (by rw [hres, if_pos rfl])
      obtain ⟨s3, hs3⟩ : ∃ s3, s3 = strOfNums [] := ⟨_, rfl⟩
      have e0 : decide (0 < s3.size) = false := by rw [hs3]; rfl
      have e1 : decide ((0 : Int) < (s3.size : Int)) = false := by rw [hs3]; rfl
      rw [← hs3] at HWR
      clear hs3 hw hres
      go_region_with ((first
        | (go_at_call 47; refine HBS.out.mono ?_; rintro e w6 ⟨rfl, hw6⟩; replace hw6 := hw6.symm; subst hw6)
        | (go_at_call 46; refine (HP.out _ (below_drew (Below.refl _ _))).mono ?_; rintro e w7 ⟨hb, tb, tq, vs', n', rfl, hst, hcnt, hfr, hrep⟩; have HX := Lib.hid (And.intro hst hrep); clear hb hst hcnt hfr hrep)))
      go_wp2_with (go_at_call 44; refine (HWR.out _).mono ?_; rintro e w8 ⟨rfl, hd⟩; have HD := Lib.hid hd.below; clear hd)
      go_ret2
      exact pa2_some Hg.out (below_step HX.out.1.bel HD.out) rfl HOK.out (rep_keep (fun i j hq => ⟨⟨Nat.lt_of_lt_of_le hq.1.1 HD.out.size, not_old hq.2 HL.out HK.out.2.2.size⟩, HD.out.cell (p := ⟨i, j, none⟩) hq.1.1, fun _ h => h.below HD.out⟩) _ _ _ HX.out.2) HSZ.out
    | cons c q =>
      rw [hw] at HWR hres
      have Hg : Hid (res = none) := Lib.hid (by rw [hres, if_neg (by simp)])
      obtain ⟨s3, hs3⟩ : ∃ s3, s3 = strOfNums (c :: q) := ⟨_, rfl⟩
      have hz3 : s3.size = q.length + 1 := by rw [hs3, sz_of]; rfl
      have e0 : decide (0 < s3.size) = true := decide_eq_true (by omega)
      have e1 : decide ((0 : Int) < (s3.size : Int)) = true := decide_eq_true (by omega)
      rw [← hs3] at HWR
      clear hs3 hw hres hz3
      go_region_with ((first
        | (go_at_call 47; refine HBS.out.mono ?_; rintro e w6 ⟨rfl, hw6⟩; replace hw6 := hw6.symm; subst hw6)
        | (go_at_call 46; refine (HP.out _ (below_drew (Below.refl _ _))).mono ?_; rintro e w7 ⟨hb, tb, tq, vs', n', rfl, hst, hcnt, hfr, hrep⟩; have HB7 := Lib.hid hb; clear hb hst hcnt hfr hrep)))
      go_wp2_with (first
        | (go_at_call 44; refine (HWR.out _).mono ?_; rintro e w8 ⟨rfl, hd⟩; have HD := Lib.hid (below_step HB7.out hd.below); clear hd)
        | (go_at_call 48; refine (new_any _ _).mono ?_; rintro e w9 ⟨⟨N2, rfl⟩, hb⟩; have HB8 := Lib.hid (below_step HD.out hb); clear hb))
      go_ret2
      exact pa2_none Hg.out HB8.out rfl
abbrev oPar : Obj := .cells #[.slice none 0 0, .slice none 0 0] tPar
theorem parse_new2 (w : World) (s : ByteArray) (hs : s.size ≤ 90000) : Calls Tryd.prog 26 #[.pointer (some ⟨w.heap.size, 0, none⟩), .string s] (w.alloc oPar) (PaPost2 w (bytesOf s) (parse0 (bytesOf s))) :=
  Parse_any2 w (w.alloc oPar) w.heap.size s hs (blk_new w oPar) (Nat.le_refl _) (below_alloc (Below.refl _ _) _)
end Go.Proofs.YtalcjolomigedaaDoor.Fp
