/- Several texts in one. -/
import Derived.Test.YtcaigeikdnoheaaGreatDoorZGa
import Derived.Test.YtcaigeikdnoheaaGreatDoorZGc
import Derived.Test.YtcaigeikdnoheaaGreatDoorZShelf
import Derived.Laws.IdiomCopy
import Derived.Laws.CopyOwn
import Derived.Deep.AppendSrc
import Derived.BigQuiet
import Derived.KernelRfl
import Derived.OwnWalk
import Derived.Test.YtcaigeikdnoheaaGreatDoorZFa3
import Derived.Lib.EndianBits
import Derived.Lib.RabinKarpLaws
set_option linter.unusedVariables false
namespace Go.Proofs.YtcaigeikdnoheaaGreatDoor.J

/-- At a backslash with a byte behind it: how many bytes are read, and what they stand for. -/
def ke (l : L) : Nat × L := match unit l with
  | some n => if high n = true ∨ low n = true then (match unit (l.drop 6) with
      | some m => (12, if high n = true ∧ low m = true then utf8 (comb n m) else [239, 191, 189])
      | none => (6, l.take 6))
    else (6, utf8 n)
  | none => if plainEsc (l.getD 1 0) = true then (2, [short (l.getD 1 0)]) else (2, l.take 2)
theorem ke_pos (l : L) : 2 ≤ (ke l).1 := by
  unfold ke
  repeat' split
  all_goals simp
theorem unit_lenF {l : L} {n : Int} (h : unit l = some n) : 6 ≤ l.length := by
  unfold unit at h
  split at h
  · rename_i g; exact g.1
  · cases h
theorem ke_le {l : L} (h : 2 ≤ l.length) : (ke l).1 ≤ l.length := by
  unfold ke
  split
  · rename_i n e
    have h6 := unit_lenF e
    split
    · split
      · rename_i m e2
        have := unit_lenF e2
        rw [List.length_drop] at this
        simp only []; omega
      · exact h6
    · exact h6
  · split <;> exact h
theorem utf8_le (n : Int) : (utf8 n).length ≤ 4 := by
  unfold utf8
  repeat' split
  all_goals simp
theorem ke_out (l : L) : (ke l).2.length ≤ 6 := by
  have h1 : (l.take 6).length ≤ 6 := by rw [List.length_take]; omega
  have h2 : (l.take 2).length ≤ 6 := by rw [List.length_take]; omega
  unfold ke
  split
  · rename_i n e
    have := utf8_le n
    split
    · split
      · rename_i m e2
        have := utf8_le (comb n m)
        simp only []
        split
        · omega
        · simp
      · exact h1
    · simp only []; omega
  · split
    · simp
    · exact h2
def kp (l : L) : L :=
  match l with
  | [] => []
  | c :: t => if c ≠ 92 ∨ t = [] then c :: kp t else (ke (c :: t)).2 ++ kp ((c :: t).drop (ke (c :: t)).1)
termination_by l.length
decreasing_by
  · simp
  · have := ke_pos (c :: t); simp only [List.length_drop, List.length_cons]; omega
theorem kp_nil : kp [] = [] := by rw [kp]
theorem kp_plain {c : Int} (t : L) (h : c ≠ 92) : kp (c :: t) = c :: kp t := by rw [kp, if_pos (.inl h)]
theorem kp_last : kp [92] = [92] := by rw [kp, if_pos (.inr rfl), kp_nil]
theorem kp_esc {t : L} (h : t ≠ []) : kp (92 :: t) = (ke (92 :: t)).2 ++ kp ((92 :: t).drop (ke (92 :: t)).1) := by rw [kp, if_neg (by simp [h])]
/-- A backslash alone at the end. -/
def lone (l : L) : Bool :=
  match l with
  | [] => false
  | c :: t => if c ≠ 92 then lone t else if t = [] then true else lone ((c :: t).drop (ke (c :: t)).1)
termination_by l.length
decreasing_by
  · simp
  · have := ke_pos (c :: t); simp only [List.length_drop, List.length_cons]; omega
theorem lone_nil : lone [] = false := by rw [lone]
theorem lone_plain {c : Int} (t : L) (h : c ≠ 92) : lone (c :: t) = lone t := by rw [lone, if_pos h]
theorem lone_last : lone [92] = true := by rw [lone, if_neg (by simp), if_pos rfl]
theorem lone_esc {t : L} (h : t ≠ []) : lone (92 :: t) = lone ((92 :: t).drop (ke (92 :: t)).1) := by rw [lone, if_neg (by simp), if_neg h]
theorem kp_run {p : L} (h : 92 ∉ p) (r : L) : kp (p ++ r) = p ++ kp r := by
  induction p with
  | nil => rfl
  | cons c t ih =>
    simp only [List.mem_cons, not_or] at h
    rw [List.cons_append, kp_plain _ (fun e => h.1 e.symm), ih h.2]; rfl
theorem lone_run {p : L} (h : 92 ∉ p) (r : L) : lone (p ++ r) = lone r := by
  induction p with
  | nil => rfl
  | cons c t ih =>
    simp only [List.mem_cons, not_or] at h
    rw [List.cons_append, lone_plain _ (fun e => h.1 e.symm), ih h.2]

theorem six {l : L} {n : Int} (h : unit l = some n) : ∃ a b c d r, l = 92 :: 117 :: a :: b :: c :: d :: r ∧ hex a = true ∧ hex b = true ∧ hex c = true ∧ hex d = true := by
  unfold unit at h
  split at h
  · rename_i g
    obtain ⟨g0, g1, g2, g3, g4, g5, g6⟩ := g
    match l, g0 with
    | x :: y :: a :: b :: c :: d :: r, _ =>
      simp at g1 g2 g3 g4 g5 g6
      exact ⟨a, b, c, d, r, by rw [g1, g2], g3, g4, g5, g6⟩
  · cases h
/-- Each half of a surrogate pair stands beside the other half. -/
def prd (l : L) : Bool :=
  match l with
  | [] => true
  | c :: t => if c ≠ 92 then prd t else match unit (c :: t) with
    | none => prd ((c :: t).drop 2)
    | some n => if high n = true then (match unit ((c :: t).drop 6) with
        | some m => if low m = true then prd ((c :: t).drop 12) else false
        | none => false)
      else if low n = true then false else prd ((c :: t).drop 6)
termination_by l.length
decreasing_by all_goals (simp only [List.length_drop, List.length_cons]; omega)
theorem prd_nil : prd [] = true := by rw [prd]
theorem prd_plain {c : Int} (t : L) (h : c ≠ 92) : prd (c :: t) = prd t := by rw [prd, if_pos h]
theorem prd_esc (t : L) : prd (92 :: t) = (match unit (92 :: t) with
    | none => prd ((92 :: t).drop 2)
    | some n => if high n = true then (match unit ((92 :: t).drop 6) with
        | some m => if low m = true then prd ((92 :: t).drop 12) else false
        | none => false)
      else if low n = true then false else prd ((92 :: t).drop 6)) := by rw [prd, if_neg (by simp)]
theorem unit_app {l : L} {n : Int} (h : unit l = some n) (q : L) : unit (l ++ q) = some n := by
  obtain ⟨a, b, c, d, r, rfl, ha, hb, hc, hd⟩ := six h
  rw [← h]
  unfold unit
  simp [ha, hb, hc, hd]
theorem hexesFour {l r : L} (h : hexes 4 l = some r) : ∃ a b c d, l = a :: b :: c :: d :: r ∧ hex a = true ∧ hex b = true ∧ hex c = true ∧ hex d = true := by
  match l, h with
  | [], h => simp [hexes] at h
  | [a], h => simp only [hexes] at h; split at h <;> cases h
  | [a, b], h => simp only [hexes] at h; (repeat' split at h) <;> cases h
  | [a, b, c], h => simp only [hexes] at h; (repeat' split at h) <;> cases h
  | a :: b :: c :: d :: t, h =>
    simp only [hexes] at h
    split at h
    · rename_i ha
      split at h
      · rename_i hb
        split at h
        · rename_i hc
          split at h
          · rename_i hd
            injection h with h
            exact ⟨a, b, c, d, by rw [h], ha, hb, hc, hd⟩
          · cases h
        · cases h
      · cases h
    · cases h
/-- A well-formed escape is a short one or one of four digits. -/
theorem esc_kinds {t r : L} (h : esc t = some r) : (∃ c, t = c :: r ∧ plainEsc c = true) ∨ (∃ n, unit (92 :: t) = some n ∧ (92 :: t).drop 6 = r) := by
  cases t with
  | nil => cases h
  | cons c t =>
    rw [esc] at h
    split at h
    · rename_i hp
      injection h with h
      exact .inl ⟨c, by rw [h], hp⟩
    · split at h
      · rename_i h117
        obtain ⟨a, b, d, e, rfl, ha, hb, hd, he⟩ := hexesFour h
        subst h117
        have hu : ∃ n, unit (92 :: 117 :: a :: b :: d :: e :: r) = some n := by
          unfold unit
          rw [if_pos (by simp [ha, hb, hd, he])]
          exact ⟨_, rfl⟩
        obtain ⟨n, hn⟩ := hu
        exact .inr ⟨n, hn, rfl⟩
      · cases h
theorem unit_short {c : Int} (h : plainEsc c = true) (t : L) : unit (92 :: c :: t) = none := by
  have : c ≠ 117 := by rintro rfl; exact absurd h (by decide)
  unfold unit
  rw [if_neg (by simp [this])]
theorem kp_two (a : L) : ∀ (m : Nat) (l : L), l.length ≤ m → wellE l = true → prd l = true → kp (l ++ a) = kp l ++ kp a ∧ (lone (l ++ a) = lone a) ∧ lone l = false := by
  intro m
  induction m with
  | zero =>
    intro l hl _ _
    obtain rfl : l = [] := List.eq_nil_of_length_eq_zero (by omega)
    exact ⟨by rw [kp_nil]; rfl, rfl, lone_nil⟩
  | succ m ih =>
    intro l hl hw hp
    cases l with
    | nil => exact ⟨by rw [kp_nil]; rfl, rfl, lone_nil⟩
    | cons c t =>
      simp only [List.length_cons] at hl
      by_cases h92 : c = 92
      · subst h92
        have step : ∀ r : L, (92 :: t : L).drop (ke (92 :: t)).1 = r → t ≠ [] → r.length ≤ m → ke (92 :: (t ++ a)) = ke (92 :: t) → (92 :: (t ++ a)).drop (ke (92 :: t)).1 = r ++ a → wellE r = true → prd r = true → kp (92 :: t ++ a) = kp (92 :: t) ++ kp a ∧ lone (92 :: t ++ a) = lone a ∧ lone (92 :: t) = false := fun r h1 h2 h3 h4 h5 h6 h7 => by
          obtain ⟨i1, i2, i3⟩ := ih r h3 h6 h7
          have hne : t ++ a ≠ [] := by simp [h2]
          rw [List.cons_append, kp_esc hne, kp_esc h2, lone_esc hne, lone_esc h2, h4, h5, h1, i1, i2, i3]
          exact ⟨by rw [List.append_assoc], rfl, rfl⟩
        cases he : esc t with
        | none => rw [wellE_no he] at hw; cases hw
        | some r =>
          rw [wellE_yes he] at hw
          rcases esc_kinds he with ⟨d, rfl, hd⟩ | ⟨n, hn, hr⟩
          · have e1 : ke (92 :: d :: r) = (2, [short d]) := by
              unfold ke; rw [unit_short hd]; simp only []; rw [if_pos (by simpa using hd)]; rfl
            have e2 : ke (92 :: (d :: r ++ a)) = (2, [short d]) := by
              unfold ke; rw [show (d :: r ++ a) = d :: (r ++ a) from rfl, unit_short hd]; simp only []; rw [if_pos (by simpa using hd)]; rfl
            have hp' : prd r = true := by
              rw [prd_esc, unit_short hd] at hp; exact hp
            exact step r (by rw [e1]; rfl) (by simp) (by simp only [List.length_cons] at hl; omega) (by rw [e1, e2]) (by rw [e1]; rfl) hw hp'
          · have hn' : unit (92 :: (t ++ a)) = some n := unit_app hn a
            have h6 := unit_lenF hn
            simp only [List.length_cons] at h6
            have ht : t ≠ [] := by rintro rfl; simp at h6
            have d6 : ∀ k, k ≤ (92 :: t).length → (92 :: (t ++ a)).drop k = (92 :: t).drop k ++ a := fun k hk => by
              rw [← List.cons_append, List.drop_append_of_le_length hk]
            rw [prd_esc, hn] at hp
            simp only [] at hp
            split at hp
            · rename_i hh
              split at hp
              · rename_i x e2
                split at hp
                · rename_i hl2
                  have h12 := unit_lenF e2
                  rw [List.length_drop, List.length_cons] at h12
                  have e1 : ke (92 :: t) = (12, utf8 (comb n x)) := by
                    unfold ke; rw [hn]; simp only []; rw [if_pos (.inl hh), e2]; simp only []; rw [if_pos ⟨hh, hl2⟩]
                  have e2' : unit ((92 :: (t ++ a)).drop 6) = some x := by rw [d6 6 (by simp only [List.length_cons]; omega)]; exact unit_app e2 a
                  have e3 : ke (92 :: (t ++ a)) = (12, utf8 (comb n x)) := by
                    unfold ke; rw [hn']; simp only []; rw [if_pos (.inl hh), e2']; simp only []; rw [if_pos ⟨hh, hl2⟩]
                  -- the second escape is well formed, too
                  have hw2 : wellE ((92 :: t).drop 12) = true := by
                    obtain ⟨p, q, u, v, s, hs, g1, g2, g3, g4⟩ := six e2
                    rw [hr] at hs
                    rw [hs] at hw
                    have : esc (117 :: p :: q :: u :: v :: s) = some s := by
                      rw [esc, if_neg (by decide), if_pos rfl]
                      simp [hexes, g1, g2, g3, g4]
                    rw [wellE_yes this] at hw
                    have h12 : (92 :: t).drop 12 = s := by
                      rw [show (12 : Nat) = 6 + 6 from rfl, ← List.drop_drop, hr, hs]; rfl
                    rw [h12]; exact hw
                  exact step _ rfl ht (by rw [e1, List.length_drop, List.length_cons]; omega) (by rw [e1, e3]) (by rw [e1]; exact d6 12 (by simp only [List.length_cons]; omega)) (by rw [e1]; exact hw2) (by rw [e1]; exact hp)
                · cases hp
              · cases hp
            · rename_i hh
              split at hp
              · cases hp
              · rename_i hl2
                have e1 : ke (92 :: t) = (6, utf8 n) := by
                  unfold ke; rw [hn]; simp only []; rw [if_neg (by simp [hh, hl2])]
                have e3 : ke (92 :: (t ++ a)) = (6, utf8 n) := by
                  unfold ke; rw [hn']; simp only []; rw [if_neg (by simp [hh, hl2])]
                exact step _ rfl ht (by rw [e1, List.length_drop, List.length_cons]; omega) (by rw [e1, e3]) (by rw [e1]; exact d6 6 (by simp only [List.length_cons]; omega)) (by rw [e1]; show wellE ((92 :: t).drop 6) = true; rw [hr]; exact hw) (by rw [e1]; exact hp)
      · rw [wellE_plain _ h92] at hw
        rw [prd_plain _ h92] at hp
        obtain ⟨i1, i2, i3⟩ := ih t (by omega) hw hp
        rw [List.cons_append, kp_plain _ h92, kp_plain _ h92, lone_plain _ h92, lone_plain _ h92, i1, i2, i3]
        exact ⟨rfl, rfl, rfl⟩
end Go.Proofs.YtcaigeikdnoheaaGreatDoor.J

set_option linter.unusedVariables false
set_option linter.unusedSimpArgs false
namespace Go.Proofs.YtcaigeikdnoheaaGreatDoor.J
open Go.RowKit Go.Proofs.YtcaigeikdnoheaaGreatDoorW.PrintWords Go.Proofs.YtcaigeikdnoheaaGreatDoorW.PrintLast Go.Proofs.YtcaigeikdnoheaaGreatDoorW.PrintMore Go.Proofs.YtcaigeikdnoheaaGreatDoor.Aid
abbrev tBs : Nat := 30
abbrev tB : Nat := 5

/-- From ⟨b, o⟩ on the cells hold l. -/
def In (w : World) (b o : Nat) (l : L) : Prop := ∀ j, j < l.length → w.cell? ⟨b, o + j, none⟩ = some (.int .u8 (l.getD j 0))
theorem In.drop {w : World} {b o : Nat} {l : L} (h : In w b o l) (k : Nat) : In w b (o + k) (l.drop k) := by
  intro j hj
  rw [List.length_drop] at hj
  rw [getD_drop', Nat.add_assoc]
  exact h (k + j) (by omega)
theorem In.reads {w : World} {b o : Nat} {l : L} (h : In w b o l) (hl : l.length ≤ 9223372036854775807) : ReadsInt w .u8 (some ⟨b, o, none⟩) l.length l :=
  ⟨rfl, hl, fun _ => ⟨_, rfl, fun j hj => by
    have : (⟨b, o, none⟩ : Addr).add j = ⟨b, o + j, none⟩ := by unfold Addr.add; split <;> simp_all
    rw [this]; exact h j hj⟩⟩
theorem In.block {w w' : World} {b o : Nat} {l : L} (h : In w b o l) (e : w'.heap[b]? = w.heap[b]?) : In w' b o l := by
  intro j hj
  rw [← h j hj]
  unfold World.cell?
  simp only [e]
def Row (w : World) (g : Nat) (cur : List Value) : Prop := ∃ t lo hi, w.heap[g]? = some (.cells cur.toArray t (lo, hi)) ∧ (hi ≤ lo ∨ cur.length ≤ lo)
theorem Row.cell {w : World} {g : Nat} {cur : List Value} (h : Row w g cur) (i : Nat) : w.cell? ⟨g, i, none⟩ = cur[i]? := by
  obtain ⟨t, lo, hi, h, _⟩ := h
  simp [World.cell?, h]
theorem Row.frozen {w : World} {g : Nat} {cur : List Value} (h : Row w g cur) (i : Nat) (hi : i < cur.length) : w.frozen? ⟨g, i, none⟩ = false := by
  obtain ⟨t, lo, hi, h, hf⟩ := h
  simp only [World.frozen?, h, Bool.and_eq_false_iff, decide_eq_false_iff_not]
  omega
theorem Row.set {w : World} {g : Nat} {cur : List Value} (h : Row w g cur) (i : Nat) (u : Value) : Row (w.setCell ⟨g, i, none⟩ u) g (cur.set i u) := by
  obtain ⟨t, lo, hi, h, hf⟩ := h
  refine ⟨t, lo, hi, ?_, by rw [List.length_set]; exact hf⟩
  have hg : g < w.heap.size := (Array.getElem?_eq_some_iff.1 h).1
  simp only [World.setCell, Array.getElem?_modify]
  simp [h]
theorem splice_nil {α : Type} (L : List α) (off : Nat) : splice L off [] = L := by simp [splice]
theorem splice_cons {α : Type} (L : List α) (off : Nat) (x : α) (xs : List α) (h : off < L.length) : splice L off (x :: xs) = splice (L.set off x) (off + 1) xs := by
  have e1 : (L.set off x).take (off + 1) = L.take off ++ [x] := by
    rw [List.take_succ_eq_append_getElem (by simpa using h)]
    simp [List.take_set_of_le]
  have e2 : (L.set off x).drop (off + 1 + xs.length) = L.drop (off + (xs.length + 1)) := by
    rw [List.drop_set_of_lt (by omega)]
    congr 1; omega
  unfold splice
  rw [e1, e2]
  simp
theorem Row.setCells {g : Nat} : ∀ (vs : List Value) (off : Nat) (w : World) (cur : List Value), Row w g cur → off + vs.length ≤ cur.length → Row (w.setCells g off vs) g (splice cur off vs)
  | [], off, w, cur, h, _ => by rw [splice_nil]; exact h
  | v :: vs, off, w, cur, h, hl => by
    simp only [List.length_cons] at hl
    rw [splice_cons _ _ _ _ (by omega)]
    exact Row.setCells vs (off + 1) _ _ (h.set off v) (by rw [List.length_set]; omega)
theorem But.setCells {g : Nat} : ∀ (vs : List Value) (off : Nat) (w w' : World), But g w w' → But g w (w'.setCells g off vs)
  | [], off, w, w', h => h
  | v :: vs, off, w, w', h => But.setCells vs (off + 1) w _ (h.set off v)
/-- What stands behind a place is not asked. -/
theorem take_splice {α : Type} (L : List α) (off : Nat) (xs : List α) (h : off + xs.length ≤ L.length) : (splice L off xs).take (off + xs.length) = L.take off ++ xs := by
  unfold splice
  rw [← List.append_assoc, List.take_left' (by simp; omega)]

theorem infoB : (Tryz.prog.info? tB).map (fun i => (i.zero, i.size, i.bytes)) = some (some (.int .u8 0), 1, 1) := by kernel_rfl
theorem In.of_row {w : World} {g : Nat} {cur : List Value} {E : L} (h : Row w g cur) (he : cur.take E.length = nums .u8 E) : In w g 0 E := by
  intro j hj
  rw [Nat.zero_add, h.cell j]
  have : (cur.take E.length)[j]? = (nums .u8 E)[j]? := by rw [he]
  rw [List.getElem?_take_of_lt hj] at this
  rw [this]
  simp [nums, List.getD_eq_getElem?_getD, List.getElem?_eq_getElem hj]

theorem take_splice' (cur : List Value) (E o : L) (hE : cur.take E.length = nums .u8 E) (hl : E.length + o.length ≤ cur.length) : (splice cur E.length (nums .u8 o)).take (E ++ o).length = nums .u8 (E ++ o) := by
  have h1 : (nums .u8 o).length = o.length := by simp [nums]
  have := take_splice cur E.length (nums .u8 o) (by rw [h1]; exact hl)
  rw [h1] at this
  rw [List.length_append, this, hE]
  simp [nums]
theorem Below.but {B g : Nat} {w0 w w' : World} (h : Below B w0 w) (k : But g w w') (hg : B ≤ g) (hs : B ≤ w.heap.size) : Below B w0 w' := h.trans (k.to_below hg hs)
theorem Row.block {g : Nat} {w w' : World} {cur : List Value} (h : Row w g cur) (e : w'.heap[g]? = w.heap[g]?) : Row w' g cur := by
  obtain ⟨t, lo, hi, h, hf⟩ := h
  exact ⟨t, lo, hi, e.trans h, hf⟩
theorem Row.lt {g : Nat} {w : World} {cur : List Value} (h : Row w g cur) : g < w.heap.size := by
  obtain ⟨t, lo, hi, h, hf⟩ := h
  exact (Array.getElem?_eq_some_iff.1 h).1
theorem Row.below {g : Nat} {w w' : World} {cur : List Value} (h : Row w g cur) (k : Below w.heap.size w w') : Row w' g cur := h.block (k.block g h.lt)
theorem Row.alloc {g : Nat} {w : World} {cur : List Value} (h : Row w g cur) (o : Obj) : Row (w.alloc o) g cur := h.below (below_alloc (Below.refl _ _) o)
theorem bytes_in (W : World) (s : ByteArray) : In (Lib.bytesWorld W tB s) W.heap.size 0 (bytesOf s) := by
  intro j hj
  rw [bytesOf_length] at hj
  rw [Nat.zero_add]
  exact bytes_cells W tB s j hj
def OutF (w0 W : World) (v : Value) (xs : L) : Prop := Below w0.heap.size w0 W ∧ ∃ g cap cur, v = .slice (some ⟨g, 0, none⟩) xs.length cap ∧ w0.heap.size ≤ g ∧ Row W g cur ∧ xs.length ≤ cap ∧ cap = cur.length ∧ cap ≤ 9223372036854775807 ∧ cur.take xs.length = nums .u8 xs
theorem OutF.alloc {w0 W : World} {v : Value} {xs : L} (h : OutF w0 W v xs) (o : Obj) : OutF w0 (W.alloc o) v xs := by
  obtain ⟨hB, g, cap, cur, e, hg, hR, hl, hc, hm, ht⟩ := h
  exact ⟨hB.alloc hB.size o, g, cap, cur, e, hg, hR.alloc o, hl, hc, hm, ht⟩
theorem OutF.drewN {w0 W : World} {v : Value} {xs : L} (h : OutF w0 W v xs) (n : Nat) : OutF w0 (W.drewN n) v xs := by
  obtain ⟨hB, g, cap, cur, e, hg, hR, hl, hc, hm, ht⟩ := h
  exact ⟨pw_below_drewN hB n, g, cap, cur, e, hg, hR.block rfl, hl, hc, hm, ht⟩
theorem OutF.drew {w0 W : World} {v : Value} {xs : L} (h : OutF w0 W v xs) : OutF w0 W.drew v xs := by
  have := h.drewN 1
  rwa [← World.drew_drewN, World.drewN_zero] at this
section
variable {ops : Array Oper} {rest : List Oper} {o : Oper} {a : Act} {Q : Exit → Act → World → Prop}
theorem wp_outF_src {K : Act → World → Prop} {w0 W : World} (s x : Operand) (tx : TypeId) (ho : o.op = .call { callee := .builtin .append, args := #[s, x], argTypes := #[tBs, tx] }) (v vx : Value) (ys xs : L)
    (hs : a.eval s = v) (hx : a.eval x = vx) (H : OutF w0 W v xs) (hsrc : Src Tryz.prog 1 tx vx ys.length (nums .u8 ys) W) (hl : xs.length + ys.length ≤ 4294967296)
    (h : ∀ v1 w1, OutF w0 w1 v1 (xs ++ ys) → K (a.put o.dst v1) w1) : o.wp Tryz.prog a W K Q := by
  obtain ⟨i, hi, hz0, hz1, hz2⟩ := info_parts infoB
  obtain ⟨hB, g, cap, cur, rfl, hg, hR, hlc, hc, hm, ht⟩ := H
  have hln : (nums .u8 ys).length = ys.length := by simp [nums]
  have hsrc' : Src Tryz.prog i.size tx vx ys.length (nums .u8 ys) W := by rw [hz1]; exact hsrc
  rcases Nat.lt_or_ge cap (xs.length + ys.length) with hgrow | hroom
  · have hold : (Builtin.firstCells i.size xs.length (.slice (some ⟨g, 0, none⟩) xs.length cap)).run Tryz.prog W.drew = .ok (nums .u8 xs).toArray W.drew := by
      rw [hz1]
      refine run_firstCells_some W.drew 1 xs.length ⟨g, 0, none⟩ xs.length cap (nums .u8 xs) (by simp [nums]) ?_
      intro j u hj
      have hjl : j < xs.length := by have := (List.getElem?_eq_some_iff.1 hj).1; simpa [nums] using this
      rw [add_plain, show W.drew.cell? ⟨g, j, none⟩ = W.cell? ⟨g, j, none⟩ from rfl, hR.cell, ← hj, ← ht, List.getElem?_take_of_lt hjl]
    have hrun := run_append_grow_src (P := Tryz.prog) W tBs tx o.type tB i (.int .u8 0) Tryz.underlying30 hi hz0 (some ⟨g, 0, none⟩) xs.length cap (nums .u8 xs) hold vx ys.length (nums .u8 ys) hsrc' hgrow (by omega) (growslice_fits hgrow (by rw [hz2]; omega))
    unfold Oper.wp execOp
    simp only [ho, resolve, invoke, builtin, Sem.run_bind, Sem.run_pure, Result.andThen_ok, List.map_toArray, List.map_cons, List.map_nil, hs, hx, hrun]
    refine h _ _ ?_
    have hge := grownCap_ge W (xs.length + ys.length) cap tB
    have hle : grownCap W (xs.length + ys.length) cap tB ≤ 9223372036854775807 := by
      have := grownCap_le_maxLen W (xs.length + ys.length) cap tB (by simp only [maxLen]; omega)
      simpa [maxLen] using this
    refine ⟨(hB.drew).alloc hB.size _, W.heap.size, grownCap W (xs.length + ys.length) cap tB, nums .u8 (xs ++ ys) ++ (Builtin.zeroCells (Value.int .u8 0).cells (grownCap W (xs.length + ys.length) cap tB - (xs.length + ys.length))).toList, ?_, hB.size, ⟨tB, 0, 0, ?_, .inl (Nat.le_refl _)⟩, ?_, ?_, hle, ?_⟩
    · rw [List.length_append]
    · have := heap_alloc_new W.drew (.cells ((nums .u8 xs ++ nums .u8 ys).toArray ++ Builtin.zeroCells (Value.int .u8 0).cells (grownCap W (xs.length + ys.length) cap tB - (xs.length + ys.length))) tB)
      rw [show nums .u8 (xs ++ ys) = nums .u8 xs ++ nums .u8 ys by simp [nums]]
      have e : ((nums .u8 xs ++ nums .u8 ys) ++ (Builtin.zeroCells (Value.int .u8 0).cells (grownCap W (xs.length + ys.length) cap tB - (xs.length + ys.length))).toList).toArray = (nums .u8 xs ++ nums .u8 ys).toArray ++ Builtin.zeroCells (Value.int .u8 0).cells (grownCap W (xs.length + ys.length) cap tB - (xs.length + ys.length)) := by
        apply Array.ext'; simp
      rw [e]
      exact this
    · rw [List.length_append]; exact hge
    · have e1 : (nums .u8 (xs ++ ys)).length = xs.length + ys.length := by simp [nums]
      have e2 : (Builtin.zeroCells (Value.int .u8 0).cells (grownCap W (xs.length + ys.length) cap tB - (xs.length + ys.length))).toList.length = grownCap W (xs.length + ys.length) cap tB - (xs.length + ys.length) := by
        rw [Array.length_toList, size_zeroCells]; show _ * 1 = _; omega
      rw [List.length_append, e1, e2]; omega
    · have h1 : (nums .u8 (xs ++ ys)).length = (xs ++ ys).length := by simp [nums]
      rw [List.take_left' h1]
  · have hrun := run_append_room_src (P := Tryz.prog) W tBs tx o.type tB i Tryz.underlying30 hi g 0 xs.length cap vx ys.length (nums .u8 ys) hsrc' hroom
      (fun j hj => by rw [hz1, Nat.mul_one, Nat.zero_add, hR.cell, List.getElem?_eq_getElem (by rw [hln] at hj; omega)]; rfl) (fun j hj => by rw [hz1, Nat.mul_one, Nat.zero_add]; exact hR.frozen _ (by rw [hln] at hj; omega))
    rw [hz1, Nat.mul_one, Nat.zero_add] at hrun
    unfold Oper.wp execOp
    simp only [ho, resolve, invoke, builtin, Sem.run_bind, Sem.run_pure, Result.andThen_ok, List.map_toArray, List.map_cons, List.map_nil, hs, hx, hrun]
    have hlt := hR.lt
    refine h _ _ ⟨Below.but hB (But.setCells _ _ _ _ (But.refl g W)) hg (by have := hB.size; omega), g, cap, splice cur xs.length (nums .u8 ys), by rw [List.length_append], hg, Row.setCells _ _ _ _ hR (by rw [hln]; omega), by rw [List.length_append]; exact hroom, ?_, hm, take_splice' cur xs ys ht (by omega)⟩
    rw [length_splice _ _ _ (by rw [hln]; omega)]; exact hc
theorem outF_src {w0 W : World} (hgd : o.guard = none) (s x : Operand) (tx : TypeId) (ho : o.op = .call { callee := .builtin .append, args := #[s, x], argTypes := #[tBs, tx] }) (v vx : Value) (ys xs : L)
    (hs : a.eval s = v) (hx : a.eval x = vx) (H : OutF w0 W v xs) (hsrc : Src Tryz.prog 1 tx vx ys.length (nums .u8 ys) W) (hl : xs.length + ys.length ≤ 4294967296)
    (h : ∀ v1 w1, OutF w0 w1 v1 (xs ++ ys) → wpList Tryz.prog ops Q rest (a.put o.dst v1) w1) : wpList Tryz.prog ops Q (o :: rest) a W :=
  wpList_plain hgd fun K hK => wp_outF_src s x tx ho v vx ys xs hs hx H hsrc hl (fun v1 w1 h1 => hK _ _ (h v1 w1 h1))
theorem lit_src (W : World) (ys : L) (c : Nat) : Src Tryz.prog 1 tBs (.slice (some ⟨W.heap.size, 0, none⟩) ys.length c) ys.length (nums .u8 ys) (W.alloc (.cells (nums .u8 ys).toArray tB)) := by
  refine Src.ofSlice _ Tryz.underlying30 _ ys.length c _ (by simp [nums]) ?_ (by simp [nums, Value.oneCell'])
  intro j u hj
  rw [add_plain]
  have h2 := heap_alloc_new W (.cells (nums .u8 ys).toArray tB)
  rw [cell_of_row (W.alloc (.cells (nums .u8 ys).toArray tB)) W.heap.size j (nums .u8 ys).toArray tB (0, 0) h2]
  simpa using hj
/-- append(s, lit..), the literal row just laid. -/
theorem outF_row {w0 W : World} (hgd : o.guard = none) (s x : Operand) (ho : o.op = .call { callee := .builtin .append, args := #[s, x], argTypes := #[tBs, tBs] }) (v : Value) (ys xs : L) (m c : Nat)
    (hs : a.eval s = v) (hx : a.eval x = .slice (some ⟨W.heap.size, 0, none⟩) m c) (hm : ys.length = m) (H : OutF w0 W v xs) (hl : xs.length + ys.length ≤ 4294967296)
    (h : ∀ v1 w1, OutF w0 w1 v1 (xs ++ ys) → wpList Tryz.prog ops Q rest (a.put o.dst v1) w1) : wpList Tryz.prog ops Q (o :: rest) a (W.alloc (.cells (nums .u8 ys).toArray tB)) :=
  outF_src hgd s x tBs ho v _ ys xs hs hx (H.alloc _) (by rw [← hm]; exact lit_src W ys c) hl h
/-- append(s, "..."...) -/
theorem outF_str {w0 W : World} (hgd : o.guard = none) (s x : Operand) (ho : o.op = .call { callee := .builtin .append, args := #[s, x], argTypes := #[tBs, 9] }) (v : Value) (y : ByteArray) (xs : L)
    (hs : a.eval s = v) (hx : a.eval x = .string y) (H : OutF w0 W v xs) (hl : xs.length + y.size ≤ 4294967296)
    (h : ∀ v1 w1, OutF w0 w1 v1 (xs ++ bytesOf y) → wpList Tryz.prog ops Q rest (a.put o.dst v1) w1) : wpList Tryz.prog ops Q (o :: rest) a W := by
  refine outF_src hgd s x 9 ho v _ (bytesOf y) xs hs hx H ?_ (by rw [bytesOf_length]; omega) h
  have := Src.ofString (P := Tryz.prog) W (tx := 9) Tryz.underlying9 y
  rw [bytesOf_length]
  have e : byteCells y = nums .u8 (bytesOf y) := by simp [byteCells, nums, bytesOf]
  rwa [e] at this
end
/-- It reads as a slice. -/
theorem OutF.reads {w0 W : World} {v : Value} {xs : L} (h : OutF w0 W v xs) : ∃ g cap, v = .slice (some ⟨g, 0, none⟩) xs.length cap ∧ In W g 0 xs := by
  obtain ⟨hB, g, cap, cur, rfl, hg, hR, hl, hc, hm, ht⟩ := h
  exact ⟨g, cap, rfl, In.of_row hR ht⟩
theorem OutF.below {w0 W W' : World} {v : Value} {xs : L} (h : OutF w0 W v xs) (k : Below W.heap.size W W') : OutF w0 W' v xs := by
  obtain ⟨hB, g, cap, cur, e, hg, hR, hl, hc, hm, ht⟩ := h
  exact ⟨below_then hB hB.size k, g, cap, cur, e, hg, hR.below k, hl, hc, hm, ht⟩
/-- What a conversion of a string makes, its first n bytes. -/
theorem OutF.conv (w0 W : World) (hb : Below w0.heap.size w0 W) (s : ByteArray) (hs : s.size ≤ 2147483647) (n : Nat) (hn : n ≤ s.size) : OutF w0 (Lib.bytesWorld W tB s) (.slice (some ⟨W.heap.size, 0, none⟩) n (grownCap W s.size 0 tB)) ((bytesOf s).take n) ∧ n ≤ grownCap W s.size 0 tB ∧ s.size ≤ grownCap W s.size 0 tB := by
  have hge : s.size ≤ grownCap W s.size 0 tB := grownCap_ge W s.size 0 tB
  have hle : grownCap W s.size 0 tB ≤ 9223372036854775807 := by
    have := grownCap_le_maxLen W s.size 0 tB (by simp only [maxLen]; omega)
    simpa [maxLen] using this
  have hz : (Lib.bytesCells W tB s).size = grownCap W s.size 0 tB := by
    unfold Lib.bytesCells
    have : s.data.size = s.size := rfl
    rw [Array.size_append, Array.size_map, Array.size_replicate]; omega
  have hl : ((bytesOf s).take n).length = n := by rw [List.length_take, bytesOf_length]; omega
  have hRow : Row (Lib.bytesWorld W tB s) W.heap.size (Lib.bytesCells W tB s).toList := ⟨tB, (Lib.bytesCells W tB s).size, (Lib.bytesCells W tB s).size + 1, by rw [Array.toArray_toList]; exact Lib.bytesWorld_at_new W tB s, .inr (by rw [Array.length_toList]; exact Nat.le_refl _)⟩
  refine ⟨⟨hb.trans (bytes_below (Below.refl _ _) hb.size _ _), W.heap.size, grownCap W s.size 0 tB, (Lib.bytesCells W tB s).toList, by rw [hl], hb.size, hRow, by rw [hl]; omega, by rw [Array.length_toList, hz], hle, ?_⟩, by omega, hge⟩
  · rw [hl]
    unfold Lib.bytesCells nums bytesOf
    rw [Array.toList_append, Array.toList_map, List.take_append_of_le_length (by rw [List.length_map, Array.length_toList]; exact hn), List.map_take, List.map_map]
    rfl
end Go.Proofs.YtcaigeikdnoheaaGreatDoor.J

set_option linter.unusedVariables false
set_option linter.unusedSimpArgs false
namespace Go.Proofs.YtcaigeikdnoheaaGreatDoor.J
open Go.RowKit Go.Proofs.YtcaigeikdnoheaaGreatDoorW.PrintWords Go.Proofs.YtcaigeikdnoheaaGreatDoorW.PrintLast Go.Proofs.YtcaigeikdnoheaaGreatDoorW.PrintMore Go.Proofs.YtcaigeikdnoheaaGreatDoor.Aid

/-- The small letter of a byte, as strconv has it. -/
def lo (c : Int) : Int := bits .or .u8 c 32
def hexTest (n : Nat) : Bool :=
  let c : Int := n
  if dig c = true then hex c && (hv c == c - 48) else if 97 ≤ lo c ∧ lo c ≤ 122 then (if lo c ≤ 102 then hex c && (hv c == lo c - 87) else !(hex c)) else !(hex c)
theorem hexAll : ((List.range 256).all hexTest) = true := by kernel_rfl
theorem loAll : ((List.range 256).all fun n => decide (0 ≤ lo (n : Int) ∧ lo (n : Int) ≤ 255)) = true := by kernel_rfl
theorem hex_test (c : Int) (h0 : 0 ≤ c) (h1 : c ≤ 255) : hexTest c.toNat = true := List.all_eq_true.1 hexAll _ (List.mem_range.2 (by omega))
theorem lo_range (c : Int) (h0 : 0 ≤ c) (h1 : c ≤ 255) : 0 ≤ lo c ∧ lo c ≤ 255 := by
  have := List.all_eq_true.1 loAll c.toNat (List.mem_range.2 (by omega))
  rw [Int.toNat_of_nonneg h0] at this
  exact of_decide_eq_true this
/-- The three ways of a byte. -/
theorem hex_ways (c : Int) (h0 : 0 ≤ c) (h1 : c ≤ 255) :
    (48 ≤ c ∧ c ≤ 57 ∧ hex c = true ∧ hv c = c - 48) ∨ (¬ (48 ≤ c ∧ c ≤ 57) ∧ 97 ≤ lo c ∧ lo c ≤ 102 ∧ hex c = true ∧ hv c = lo c - 87) ∨
    (¬ (48 ≤ c ∧ c ≤ 57) ∧ 97 ≤ lo c ∧ 103 ≤ lo c ∧ lo c ≤ 122 ∧ hex c = false) ∨ (¬ (48 ≤ c ∧ c ≤ 57) ∧ ¬ (97 ≤ lo c ∧ lo c ≤ 122) ∧ hex c = false) := by
  have h := hex_test c h0 h1
  unfold hexTest at h
  simp only [Int.toNat_of_nonneg h0] at h
  have hd : dig c = true ↔ 48 ≤ c ∧ c ≤ 57 := by unfold dig; simp
  split at h
  · rename_i g
    rw [Bool.and_eq_true, beq_iff_eq] at h
    exact .inl ⟨(hd.1 g).1, (hd.1 g).2, h.1, h.2⟩
  · rename_i g
    have g' : ¬ (48 ≤ c ∧ c ≤ 57) := fun k => g (hd.2 k)
    split at h
    · rename_i k
      split at h
      · rename_i k2
        rw [Bool.and_eq_true, beq_iff_eq] at h
        exact .inr (.inl ⟨g', k.1, k2, h.1, h.2⟩)
      · rename_i k2
        exact .inr (.inr (.inl ⟨g', k.1, by omega, k.2, by simpa using h⟩))
    · rename_i k
      exact .inr (.inr (.inr ⟨g', k, by simpa using h⟩))
/-- The number that the first i bytes spell. -/
def hnum (l : L) : Nat → Int
  | 0 => 0
  | i + 1 => hnum l i * 16 + hv (l.getD i 0)
theorem hnum_range (l : L) (i : Nat) (h : ∀ j, j < i → hex (l.getD j 0) = true) (hi : i ≤ 4) : 0 ≤ hnum l i ∧ hnum l i < 16 ^ i := by
  induction i with
  | zero => simp [hnum]
  | succ i ih =>
    have h1 := ih (fun j hj => h j (by omega)) (by omega)
    have h2 := hv_range (h i (by omega))
    have e : (16 : Int) ^ (i + 1) = 16 ^ i * 16 := by rw [Int.pow_succ]
    rw [e]
    show 0 ≤ hnum l i * 16 + hv (l.getD i 0) ∧ hnum l i * 16 + hv (l.getD i 0) < 16 ^ i * 16
    generalize (16 : Int) ^ i = p at *
    omega
/-- Four digits. -/
def four (l : L) : Option Int := if hex (l.getD 0 0) = true ∧ hex (l.getD 1 0) = true ∧ hex (l.getD 2 0) = true ∧ hex (l.getD 3 0) = true then some (hnum l 4) else none
theorem four_some {l : L} (h : ∀ j, j < 4 → hex (l.getD j 0) = true) : four l = some (hnum l 4) := by
  unfold four; rw [if_pos ⟨h 0 (by omega), h 1 (by omega), h 2 (by omega), h 3 (by omega)⟩]
theorem four_none {l : L} {i : Nat} (hi : i < 4) (h : hex (l.getD i 0) = false) : four l = none := by
  unfold four
  rw [if_neg]
  rintro ⟨h0, h1, h2, h3⟩
  rcases (show i = 0 ∨ i = 1 ∨ i = 2 ∨ i = 3 by omega) with rfl | rfl | rfl | rfl
  · rw [h] at h0; cases h0
  · rw [h] at h1; cases h1
  · rw [h] at h2; cases h2
  · rw [h] at h3; cases h3
def eSyn : Value := .iface 157 (.int .i64 2)
def pRes (l : L) : Value := match four l with | some n => .tuple #[.int .u64 n, .nilIface] | none => .tuple #[.int .u64 0, eSyn]

set_option maxHeartbeats 4000000 in
set_option maxRecDepth 100000 in
theorem parse16 (s : ByteArray) (hs : s.size = 4) (w : World) :
    Calls Tryz.prog 132 #[.string s, .int .i64 16, .int .i64 16] w fun e w' => e = .returned (pRes (bytesOf s)) ∧ Below w.heap.size w w' := by
  have hne : (s.toList == []) = false := by
    rw [beq_eq_false_iff_ne]
    intro e
    rw [ByteArray.toList_eq] at e
    have h3 : s.data.toList.length = 0 := by rw [e]; rfl
    rw [Array.length_toList] at h3
    have h2 : s.data.size = s.size := rfl
    omega
  have hs0 : (s.size == 0) = false := beq_eq_false_iff_ne.mpr (by omega)
  have kb := print_bytes (P := Tryz.prog) 9 30 5 Tryz.underlying9 Tryz.underlying30 Tryz.underlying5 s w
  obtain ⟨gc, hgc⟩ : ∃ gc, gc = grownCap w s.size 0 5 := ⟨_, rfl⟩
  obtain ⟨w1, hw1⟩ : ∃ w1, w1 = Lib.bytesWorld w 5 s := ⟨_, rfl⟩
  have hlen := bytesOf_length s
  have hI : In w1 w.heap.size 0 (bytesOf s) := by rw [hw1]; exact bytes_in w s
  have HB := Lib.hid (show Below w.heap.size w w1 by rw [hw1]; exact bytes_below (Below.refl _ _) (Nat.le_refl _) _ _)
  rw [← hw1, ← hgc] at kb
  obtain ⟨l, hl⟩ : ∃ l, l = bytesOf s := ⟨_, rfl⟩
  have hbyt : ∀ j, j < 4 → 0 ≤ l.getD j 0 ∧ l.getD j 0 ≤ 255 := fun j hj => by
    have := bytesOf_range s (l.getD j 0) (by rw [← hl, List.getD_eq_getElem?_getD, List.getElem?_eq_getElem (by rw [hl, hlen]; omega)]; exact List.getElem_mem _)
    omega
  rw [← hl] at hI ⊢
  have hll : l.length = 4 := by rw [hl, hlen, hs]
  have HI := Lib.hid hI
  clear hI hl hlen hw1 hgc
  go_enter Tryz.func132, Tryz.ntmps132
  go_wp2
  go_loopg [12, 13, 101] 4 (fun kq v12 v13 v101 w' => Hid (∃ i : Nat, v12 = .bool false ∧ v13 = .int .u64 (hnum l i) ∧ v101 = .int .i64 ((i : Nat) : Int) ∧ i + kq = 4 ∧ (∀ j, j < i → hex (l.getD j 0) = true) ∧ w' = w1))
  case atStart => exact Lib.hid ⟨0, rfl, rfl, rfl, rfl, fun j hj => by omega, rfl⟩
  case round =>
    obtain ⟨i, rfl, rfl, rfl, hik, hh, rfl⟩ := hrel.out
    clear hrel
    rcases Nat.lt_or_ge i 4 with hlt | hge
    · obtain ⟨c, hc⟩ : ∃ c, c = l.getD i 0 := ⟨_, rfl⟩
      have hb := hbyt i hlt
      have hx0 := HI.out i (by omega)
      rw [Nat.zero_add, ← hc] at hx0
      rw [← hc] at hb
      have hn := hnum_range l i hh (by omega)
      have hp : (16 : Int) ^ i ≤ 4096 := by
        rcases (show i = 0 ∨ i = 1 ∨ i = 2 ∨ i = 3 by omega) with rfl | rfl | rfl | rfl <;> decide
      obtain ⟨v, hv'⟩ : ∃ v, v = hnum l i := ⟨_, rfl⟩
      rw [← hv'] at hn ⊢
      have hn0 : 0 ≤ v := hn.1
      have hn1 : v < 4096 := by omega
      have HL : Hid (∀ W, Calls Tryz.prog 141 #[.int .u8 c] W fun e w' => e = .returned (.int .u8 (lo c)) ∧ w' = W) := Lib.hid (fun W => Tryz.internal_strconv_lower c W)
      have hlr := lo_range c hb.1 hb.2
      have bad : Hid (hex c = false → pRes l = .tuple #[.int .u64 0, eSyn]) := Lib.hid (fun h => by unfold pRes; rw [four_none hlt (by rw [← hc]; exact h)])
      have good : Hid (hex c = true → ∀ x : Int, hv c = x → hnum l (i + 1) = v * 16 + x ∧ (∀ j, j < i + 1 → hex (l.getD j 0) = true)) := Lib.hid (fun h x hx => by
        refine ⟨?_, fun j hj => ?_⟩
        · show hnum l i * 16 + hv (l.getD i 0) = _
          rw [← hc, hx, hv']
        · by_cases e : j = i
          · rw [e, ← hc]; exact h
          · exact hh j (by omega))
      have hways := hex_ways c hb.1 hb.2
      have h95 : c = 95 → lo c = 127 := fun h => by rw [h]; kernel_rfl
      obtain ⟨lc, hlc⟩ : ∃ lc, lc = lo c := ⟨_, rfl⟩
      rw [← hlc] at h95
      rw [← hlc] at HL hlr hways
      clear hlc
      clear hn hp hh hbyt hv' hc
      have p0 : (0 ≤ (i : Int)) = True := eq_true (by omega)
      have q0 : ((i : Int) < (s.size : Int)) = True := eq_true (by omega)
      rcases hways with ⟨a1, a2, a3, a4⟩ | ⟨a0, a1, a2, a3, a4⟩ | ⟨a0, a1, a2, a3, a4⟩ | ⟨a0, a1, a2⟩
      · clear h95
        obtain ⟨g1, g2⟩ := good.out a3 (c - 48) a4
        have G := Lib.hid g2
        clear g2 a3 a4 good bad hll
        go_wp2_with (go_at_call 141; refine (HL.out _).mono ?_; rintro e wl ⟨rfl, rfl⟩)
        go_roundg (4 - (i + 1))
        case rel => exact Lib.hid ⟨i + 1, rfl, by rw [g1], rfl, by omega, G.out, rfl⟩
        case measure => omega
      · have k95 : (c == 95) = false := beq_eq_false_iff_ne.mpr (fun h => by have := h95 h; omega)
        clear h95
        obtain ⟨g1, g2⟩ := good.out a3 (lc - 87) a4
        have G := Lib.hid g2
        have d1 : decide (48 ≤ c) = false ∨ decide (c ≤ 57) = false := by
          rcases Int.lt_or_le c 48 with h | h
          · exact .inl (decide_eq_false (by omega))
          · exact .inr (decide_eq_false (by omega))
        clear g2 a3 a4 good bad hll
        rcases d1 with d1 | d1
        all_goals
          go_wp2_with (go_at_call 141; refine (HL.out _).mono ?_; rintro e wl ⟨rfl, rfl⟩)
        all_goals
          go_roundg (4 - (i + 1))
          case rel => exact Lib.hid ⟨i + 1, rfl, by rw [g1]; congr 1; omega, rfl, by omega, G.out, rfl⟩
          case measure => omega
      · have k95 : (c == 95) = false := beq_eq_false_iff_ne.mpr (fun h => by have := h95 h; omega)
        clear h95
        have e := Lib.hid (bad.out a4)
        have d1 : decide (48 ≤ c) = false ∨ decide (c ≤ 57) = false := by
          rcases Int.lt_or_le c 48 with h | h
          · exact .inl (decide_eq_false (by omega))
          · exact .inr (decide_eq_false (by omega))
        clear a4 good bad hll
        rcases d1 with d1 | d1
        all_goals
          go_wp2_with (go_at_call 141; refine (HL.out _).mono ?_; rintro e wl ⟨rfl, rfl⟩)
        all_goals
          go_ret2
          exact ⟨by rw [e.out]; rfl, HB.out⟩
      · have e := Lib.hid (bad.out a2)
        have d1 : decide (48 ≤ c) = false ∨ decide (c ≤ 57) = false := by
          rcases Int.lt_or_le c 48 with h | h
          · exact .inl (decide_eq_false (by omega))
          · exact .inr (decide_eq_false (by omega))
        have d2 : decide (97 ≤ lc) = false ∨ decide (lc ≤ 122) = false := by
          rcases Int.lt_or_le lc 97 with h | h
          · exact .inl (decide_eq_false (by omega))
          · exact .inr (decide_eq_false (by omega))
        clear a2 a1 a0 good bad hll h95
        have k95 : (c == 95) = false ∨ c = 95 := by
          by_cases e : c = 95
          · exact .inr e
          · exact .inl (beq_eq_false_iff_ne.mpr e)
        rcases k95 with k95 | rfl
        all_goals rcases d1 with d1 | d1
        all_goals rcases d2 with d2 | d2
        all_goals
          go_wp2_with (go_at_call 141; refine (HL.out _).mono ?_; rintro e wl ⟨rfl, rfl⟩)
        all_goals
          go_ret2
          exact ⟨by rw [e.out]; rfl, HB.out⟩
    · obtain rfl : i = 4 := by omega
      have e : Hid (pRes l = .tuple #[.int .u64 (hnum l 4), .nilIface]) := Lib.hid (by unfold pRes; rw [four_some hh])
      clear hh hbyt hll
      obtain ⟨v, hv'⟩ : ∃ v, v = hnum l 4 := ⟨_, rfl⟩
      rw [← hv'] at e ⊢
      go_wp2
      go_ret2
      exact ⟨by rw [e.out]; rfl, HB.out⟩
end Go.Proofs.YtcaigeikdnoheaaGreatDoor.J

set_option linter.unusedVariables false
set_option linter.unusedSimpArgs false
namespace Go.Proofs.YtcaigeikdnoheaaGreatDoor.J
open Go.RowKit Go.Proofs.YtcaigeikdnoheaaGreatDoorW.PrintWords Go.Proofs.YtcaigeikdnoheaaGreatDoorW.PrintLast Go.Proofs.YtcaigeikdnoheaaGreatDoorW.PrintMore Go.Proofs.YtcaigeikdnoheaaGreatDoor.Aid Go.Proofs.YtcaigeikdnoheaaGreatDoor.PFnFjStructure

/-- A character as a string. -/
theorem encode_utf8 {c : Int} (h0 : 0 ≤ c) (h1 : c ≤ 1114111) (h2 : ¬ (55296 ≤ c ∧ c ≤ 57343)) : bytesOf (Utf8.encode c) = utf8 c := by
  have hv : Utf8.valid c = true := by unfold Utf8.valid; simp; omega
  obtain ⟨n, rfl⟩ : ∃ n : Nat, c = n := ⟨c.toNat, by omega⟩
  have hh : ¬ (high (n : Int) = true ∨ low (n : Int) = true) := by unfold high low; simp; omega
  unfold Utf8.encode utf8
  simp only [hv, if_true, Int.toNat_natCast]
  by_cases a1 : n < 128
  · rw [if_pos a1, if_pos (show (n : Int) < 128 by omega)]
    show [((UInt8.ofNat n).toNat : Int)] = _
    simp only [UInt8.toNat_ofNat', List.cons.injEq, and_true]
    omega
  rw [if_neg a1, if_neg (show ¬ (n : Int) < 128 by omega)]
  by_cases a2 : n < 2048
  · rw [if_pos a2, if_pos (show (n : Int) < 2048 by omega)]
    show [((UInt8.ofNat (192 + n / 64)).toNat : Int), ((UInt8.ofNat (128 + n % 64)).toNat : Int)] = _
    simp only [UInt8.toNat_ofNat', List.cons.injEq, and_true]
    omega
  rw [if_neg a2, if_neg (show ¬ (n : Int) < 2048 by omega), if_neg hh]
  by_cases a3 : n < 65536
  · rw [if_pos a3, if_pos (show (n : Int) < 65536 by omega)]
    show [((UInt8.ofNat (224 + n / 4096)).toNat : Int), ((UInt8.ofNat (128 + n / 64 % 64)).toNat : Int), ((UInt8.ofNat (128 + n % 64)).toNat : Int)] = _
    simp only [UInt8.toNat_ofNat', List.cons.injEq, and_true]
    omega
  · rw [if_neg a3, if_neg (show ¬ (n : Int) < 65536 by omega)]
    show [((UInt8.ofNat (240 + n / 262144)).toNat : Int), ((UInt8.ofNat (128 + n / 4096 % 64)).toNat : Int), ((UInt8.ofNat (128 + n / 64 % 64)).toNat : Int), ((UInt8.ofNat (128 + n % 64)).toNat : Int)] = _
    simp only [UInt8.toNat_ofNat', List.cons.injEq, and_true]
    omega
theorem encode_fffd : bytesOf (Utf8.encode 65533) = [239, 191, 189] := by
  rw [encode_utf8 (by omega) (by omega) (by omega)]; rfl
/-- Two halves. -/
def dec (n m : Int) : Int := if high n = true ∧ low m = true then comb n m else 65533
theorem or32 (x y : Int) (hx : 0 ≤ x) (hx1 : x < 1024) (hy : 0 ≤ y) (hy1 : y < 1024) : bits .or .i32 (x * 1024) y = x * 1024 + y :=
  bits_join .i32 31 (by decide) (fun n h0 h1 => by rw [i32_w]; unfold wrap32; omega) 10 (x * 1024) y (by omega) (by omega) (by omega) hy (by omega) (by omega)
theorem dec_any (n m : Int) (hn : 0 ≤ n ∧ n ≤ 65535) (hm : 0 ≤ m ∧ m ≤ 65535) (w : World) : Calls Tryz.prog 122 #[.int .i32 n, .int .i32 m] w fun e w' => e = .returned (.int .i32 (dec n m)) ∧ Drawn0 w w' := by
  refine utf16_DecodeRune.calls n m (dec n m) w ?_
  unfold utf16_DecodeRune.f dec high low
  simp only [Bool.and_eq_true, decide_eq_true_eq]
  by_cases c1 : 55296 ≤ n
  · rw [if_pos c1]
    by_cases c2 : n < 56320
    · rw [if_pos c2]
      by_cases c3 : 56320 ≤ m
      · rw [if_pos c3]
        by_cases c4 : m < 57344
        · rw [if_pos c4, if_pos (by omega)]
          have w1 : wrap32 (n - 55296) = n - 55296 := by unfold wrap32; omega
          have w2 : wrap32 ((n - 55296) * 1024) = (n - 55296) * 1024 := by unfold wrap32; omega
          have w3 : wrap32 (m - 56320) = m - 56320 := by unfold wrap32; omega
          rw [w1, w2, w3, or32 _ _ (by omega) (by omega) (by omega) (by omega)]
          unfold comb wrap32
          congr 1; omega
        · rw [if_neg c4, if_neg (by omega)]
      · rw [if_neg c3, if_neg (by omega)]
    · rw [if_neg c2, if_neg (by omega)]
  · rw [if_neg c1, if_neg (by omega)]
def isSur (n : Int) : Bool := high n || low n
theorem sur_any (n : Int) (w : World) : Calls Tryz.prog 121 #[.int .i32 n] w fun e w' => e = .returned (.bool (isSur n)) ∧ Drawn0 w w' := by
  refine utf16_IsSurrogate.calls n (isSur n) w ?_
  unfold utf16_IsSurrogate.f isSur high low
  by_cases c1 : 55296 ≤ n
  · rw [if_pos c1, Option.some.injEq, Bool.eq_iff_iff]; simp; omega
  · rw [if_neg c1, Option.some.injEq, Bool.eq_iff_iff]; simp; omega

abbrev gS : Nat := 0
def ErrV (w : World) : Prop := ∃ ev, w.cell? ⟨gS, 0, none⟩ = some ev ∧ (ev = .nilIface ∨ ∃ te pe, ev = .iface te pe)
theorem ErrV.below {w w' : World} (h : ErrV w) (k : Below w.heap.size w w') : ErrV w' := by
  obtain ⟨ev, h1, h2⟩ := h
  exact ⟨ev, pw_cell_below k h1, h2⟩
def PuPost (l : L) (w : World) (e : Ending) (w' : World) : Prop := Below w.heap.size w w' ∧ match four l with
  | some n => e = .returned (.tuple #[.int .u64 n, .nilIface])
  | none => ∃ N, e = .returned (.tuple #[.int .u64 0, .iface 160 (.pointer (some ⟨N, 0, none⟩))])
set_option maxHeartbeats 4000000 in
set_option maxRecDepth 100000 in
theorem ParseUint_any (s : ByteArray) (hs : s.size = 4) (w : World) (hE : ErrV w) :
    Calls Tryz.prog 120 #[.string s, .int .i64 16, .int .i64 16] w (PuPost (bytesOf s) w) := by
  have HK := Lib.hid (parse16 s hs w)
  have HE := Lib.hid (show ∀ W fn, Below w.heap.size w W → Calls Tryz.prog 113 #[.string fn, .string s, .int .i64 16, .int .i64 16, eSyn] W fun e w' => (∃ N, e = .returned (.iface 160 (.pointer (some ⟨N, 0, none⟩)))) ∧ Below W.heap.size W w' from fun W fn hb => by
    obtain ⟨ev, h1, h2⟩ := hE.below hb
    refine (Tryz.strconv_toError_syntax fn s 16 16 ev W (by omega) h1 h2).mono ?_
    rintro e w' ⟨N, h3, _, _, h4⟩
    exact ⟨⟨N, h3⟩, h4⟩)
  clear hE
  cases h4 : four (bytesOf s) with
  | some n =>
    have hp : pRes (bytesOf s) = .tuple #[.int .u64 n, .nilIface] := by unfold pRes; rw [h4]
    rw [hp] at HK
    have fin : Hid (∀ W, Below w.heap.size w W → PuPost (bytesOf s) w (.returned (.tuple #[.int .u64 n, .nilIface])) W) := Lib.hid (fun W hb => ⟨hb, by rw [h4]⟩)
    clear h4 hp HE
    go_enter Tryz.func120, Tryz.ntmps120
    go_wp2_with (go_at_call 132; refine HK.out.mono ?_; rintro e w1 ⟨rfl, hb⟩; have HB := Lib.hid hb; clear hb)
    go_ret2
    exact fin.out _ HB.out
  | none =>
    have hp : pRes (bytesOf s) = .tuple #[.int .u64 0, eSyn] := by unfold pRes; rw [h4]
    rw [hp] at HK
    have fin : Hid (∀ W N, Below w.heap.size w W → PuPost (bytesOf s) w (.returned (.tuple #[.int .u64 0, .iface 160 (.pointer (some ⟨N, 0, none⟩))])) W) := Lib.hid (fun W N hb => ⟨hb, by rw [h4]; exact ⟨N, rfl⟩⟩)
    unfold eSyn at HK HE
    clear h4 hp
    go_enter Tryz.func120, Tryz.ntmps120
    go_wp2_with (first
      | (go_at_call 132; refine HK.out.mono ?_; rintro e w1 ⟨rfl, hb⟩; have HB := Lib.hid hb; clear hb)
      | (go_at_call 113; refine (HE.out _ _ HB.out).mono ?_; rintro e w2 ⟨⟨N, rfl⟩, hb⟩; replace HB := Lib.hid (below_step HB.out hb); clear hb))
    go_ret2
    exact fin.out _ N HB.out
theorem four_unit {t : L} (h : 4 ≤ t.length) : unit (92 :: 117 :: t) = four (t.take 4) := by
  match t, h with
  | a :: b :: c :: d :: r, _ =>
    unfold unit four hnum
    simp [hnum]
theorem unit_short4 {t : L} (h : t.length < 4) : unit (92 :: 117 :: t) = none := by
  unfold unit
  rw [if_neg]
  intro g
  have := g.1
  simp at this; omega
theorem sl_from (s : ByteArray) (b : Nat) (h1 : b ≤ s.size) (W : World) : (Instr.slice 9 (.string s) (some (.int .i64 (b : Int))) none none).run Tryz.prog W = .ok (.string (s.extract b s.size)) W := by
  go_simp
theorem sl_to (s : ByteArray) (k : Nat) (h1 : k ≤ s.size) (W : World) : (Instr.slice 9 (.string s) none (some (.int .i64 (k : Int))) none).run Tryz.prog W = .ok (.string (s.extract 0 k)) W := by
  have h2 : (k : Int) ≤ (s.size : Int) := by omega
  go_simp
theorem sl_mid (s : ByteArray) (j k : Nat) (h0 : j ≤ k) (h1 : k ≤ s.size) (W : World) : (Instr.slice 9 (.string s) (some (.int .i64 (j : Int))) (some (.int .i64 (k : Int))) none).run Tryz.prog W = .ok (.string (s.extract j k)) W := by
  have h2 : (k : Int) ≤ (s.size : Int) := by omega
  have h3 : (j : Int) ≤ (k : Int) := by omega
  go_simp
theorem by_from (s : ByteArray) (k : Nat) : bytesOf (s.extract k s.size) = (bytesOf s).drop k := by
  rw [bytesOf_extract, List.take_of_length_le]
  rw [List.length_drop, bytesOf_length]; exact Nat.le_refl _
/-- The first backslash. -/
theorem index_bs (s : ByteArray) : (∃ p r, bytesOf s = p ++ 92 :: r ∧ 92 ∉ p ∧ Lib.indexByte s.data.toList (92 : Int).toNat.toUInt8 = (p.length : Int)) ∨ (92 ∉ bytesOf s ∧ Lib.indexByte s.data.toList (92 : Int).toNat.toUInt8 = -1) := by
  have key : ∀ (l : List UInt8), (∃ p r, (l.map fun b => (b.toNat : Int)) = p ++ 92 :: r ∧ 92 ∉ p ∧ Lib.indexByte l 92 = (p.length : Int)) ∨ (92 ∉ (l.map fun b => (b.toNat : Int)) ∧ Lib.indexByte l 92 = -1) := by
    intro l
    induction l with
    | nil => exact .inr ⟨by simp, rfl⟩
    | cons b t ih =>
      by_cases hb : b = 92
      · subst hb
        exact .inl ⟨[], t.map fun b => (b.toNat : Int), rfl, by simp, rfl⟩
      · have hn : (b.toNat : Int) ≠ 92 := fun h => hb (by
          have : b.toNat = 92 := by omega
          exact UInt8.toNat_inj.1 this)
        have hb' : (b == 92) = false := beq_eq_false_iff_ne.mpr hb
        rcases ih with ⟨p, r, e1, e2, e3⟩ | ⟨e1, e2⟩
        · refine .inl ⟨(b.toNat : Int) :: p, r, ?_, ?_, ?_⟩
          · rw [List.map_cons, e1]; rfl
          · rw [List.mem_cons, not_or]; exact ⟨fun h => hn h.symm, e2⟩
          · unfold Lib.indexByte
            rw [hb', if_neg (by decide), e3, if_neg (by simp), List.length_cons]; rfl
        · refine .inr ⟨?_, ?_⟩
          · rw [List.map_cons, List.mem_cons, not_or]; exact ⟨fun h => hn h.symm, e1⟩
          · unfold Lib.indexByte
            rw [hb', if_neg (by decide), e2]; rfl
  exact key s.data.toList
end Go.Proofs.YtcaigeikdnoheaaGreatDoor.J
