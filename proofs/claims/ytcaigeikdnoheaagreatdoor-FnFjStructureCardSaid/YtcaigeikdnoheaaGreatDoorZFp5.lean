/- Several texts in one. -/
import Derived.Test.YtcaigeikdnoheaaGreatDoorZFp4
import Derived.Deep.RegionHeld3
set_option linter.unusedVariables false
set_option linter.unusedSimpArgs false
namespace Go.Proofs.YtcaigeikdnoheaaGreatDoor.Fp
open Go.RowKit Go.Proofs.YtcaigeikdnoheaaGreatDoorW.PrintWords Go.Proofs.YtcaigeikdnoheaaGreatDoorW.PrintLast Go.Proofs.YtcaigeikdnoheaaGreatDoorW.PrintMore Go.Proofs.YtcaigeikdnoheaaGreatDoor.Aid Go.Proofs.YtcaigeikdnoheaaGreatDoor.J

def Rg (l : L) : Prop := ∀ x ∈ l, 0 ≤ x ∧ x < 256
theorem Rg.sb {r l : L} (h : Rg l) (k : Sb r l) : Rg r := fun x hx => h x (k x hx)
theorem Rg.by {l : L} (h : Rg l) : bytesOf (strOfNums l) = l := bytes_of_str l h
theorem rs_sbA : ∀ (l : L) (o : Bool) (a r : L), rs o l = some (a, r) → Sb a l
  | [], o, a, r, h => by cases h
  | c :: t, o, a, r, h => by
    rw [rs] at h
    split at h
    · injection h with h; injection h with h1 h2; subst h1; intro x hx; cases hx
    · cases e : rs (c == 92 && !o) t with
      | none => rw [e] at h; cases h
      | some x =>
        rw [e] at h
        injection h with h; injection h with h1 h2; subst h1
        have := rs_sbA t _ x.1 x.2 e
        intro y hy
        rcases List.mem_cons.1 hy with h | h
        · rw [h]; exact List.mem_cons_self
        · exact List.mem_cons_of_mem _ (this y h)
theorem take_sb (k : Nat) (l : L) : Sb (l.take k) l := fun x hx => List.mem_of_mem_take hx
theorem num_sbA {l a r : L} (h : num l = some (a, r)) : Sb a l := by
  have hd : Sb (l.dropWhile nb) l := fun x hx => (List.dropWhile_sublist _).subset hx
  have ht : Sb (l.takeWhile nb) l := fun x hx => (List.takeWhile_sublist _).subset hx
  unfold num at h
  simp only [] at h
  split at h
  · injection h with h; injection h with h1 h2; subst h1; exact fun x hx => hx
  · split at h
    · split at h
      · injection h with h; injection h with h1 h2; subst h1; exact (take_sb 3 _).trans hd
      · cases h
    · split at h
      · split at h
        · injection h with h; injection h with h1 h2; subst h1
          intro x hx
          rcases List.mem_append.1 hx with q | q
          · exact ht x q
          · exact hd x (List.mem_of_mem_take q)
        · cases h
      · injection h with h; injection h with h1 h2; subst h1; exact ht
def okK (k : Int) : Prop := k = 7 ∨ k = 4 ∨ k = 5 ∨ k = 6 ∨ k = 0
mutual
def okT : T → Prop
  | .leaf k s => okK k ∧ Rg s
  | .arr l => okL l
  | .obj l => okO l
def okL : TL → Prop
  | .nil => True
  | .cons t l => okT t ∧ okL l
def okO : OL → Prop
  | .nil => True
  | .cons k t l => (Rg k ∧ okT t) ∧ okO l
end
theorem oks : ∀ n, (∀ d l t r, Rg l → pv n d l = some (t, r) → okT t) ∧ (∀ d l t r, Rg l → pa n d l = some (t, r) → okL t) ∧ (∀ d l t r, Rg l → po n d l = some (t, r) → okO t) := by
  intro n
  induction n with
  | zero => exact ⟨fun d l t r hR h => (by rw [pv] at h; cases h), fun d l t r hR h => (by rw [pa] at h; cases h), fun d l t r hR h => (by rw [po] at h; cases h)⟩
  | succ n ih =>
    obtain ⟨iv, ia, io⟩ := ih
    refine ⟨fun d l t r hR h => ?_, fun d l t r hR h => ?_, fun d l t r hR h => ?_⟩
    · cases l with
      | nil => rw [pv] at h; cases h
      | cons c l =>
        have hRl := hR.sb (Sb.cons c l)
        have hw := ws_sb l
        rw [pv] at h
        split at h
        · cases h
        split at h
        · unfold obj0 at h
          cases e : ws l with
          | nil => rw [e] at h; cases h
          | cons c2 q =>
            rw [e] at h hw
            simp only [] at h
            split at h
            · injection h with h; injection h with h1 h2; subst h1
              rw [okT, okO]; trivial
            · cases e2 : po n (d + 1) (c2 :: q) with
              | none => rw [e2] at h; cases h
              | some x =>
                rw [e2] at h
                injection h with h; injection h with h1 h2; subst h1
                rw [okT]; exact io _ _ x.1 x.2 (hRl.sb hw) e2
        split at h
        · unfold arr0 at h
          cases e : ws l with
          | nil => rw [e] at h; cases h
          | cons c2 q =>
            rw [e] at h hw
            simp only [] at h
            split at h
            · injection h with h; injection h with h1 h2; subst h1
              rw [okT, okL]; trivial
            · cases e2 : pa n (d + 1) (c2 :: q) with
              | none => rw [e2] at h; cases h
              | some x =>
                rw [e2] at h
                injection h with h; injection h with h1 h2; subst h1
                rw [okT]; exact ia _ _ x.1 x.2 (hRl.sb hw) e2
        split at h
        · cases e : rs false l with
          | none => rw [e] at h; cases h
          | some x =>
            rw [e] at h
            injection h with h; injection h with h1 h2; subst h1
            rw [okT]; exact ⟨.inl rfl, hRl.sb (rs_sbA l false x.1 x.2 e)⟩
        split at h
        · split at h
          · injection h with h; injection h with h1 h2; subst h1; rw [okT]; exact ⟨.inr (.inr (.inl rfl)), fun x hx => (by cases hx)⟩
          · cases h
        split at h
        · split at h
          · injection h with h; injection h with h1 h2; subst h1; rw [okT]; exact ⟨.inr (.inr (.inr (.inl rfl))), fun x hx => (by cases hx)⟩
          · cases h
        split at h
        · split at h
          · injection h with h; injection h with h1 h2; subst h1; rw [okT]; exact ⟨.inr (.inr (.inr (.inr rfl))), fun x hx => (by cases hx)⟩
          · split at h
            · injection h with h; injection h with h1 h2; subst h1; rw [okT]; exact ⟨.inr (.inl rfl), hR.sb (take_sb 3 _)⟩
            · cases h
        cases e : num (c :: l) with
        | none => rw [e] at h; cases h
        | some x =>
          rw [e] at h
          injection h with h; injection h with h1 h2; subst h1
          rw [okT]; exact ⟨.inr (.inl rfl), hR.sb (num_sbA (a := x.1) (r := x.2) e)⟩
    · rw [pa] at h
      cases e : pv n d (ws l) with
      | none => rw [e] at h; cases h
      | some x =>
        rw [e] at h
        have h1 := iv _ _ x.1 x.2 (hR.sb (ws_sb l)) e
        have hw2 := (ws_sb x.2).trans (((sbs n).1 _ _ x.1 x.2 e).trans (ws_sb l))
        simp only [] at h
        cases e2 : ws x.2 with
        | nil => rw [e2] at h; cases h
        | cons c q =>
          rw [e2] at h hw2
          have hq := (Sb.cons c q).trans hw2
          simp only [] at h
          split at h
          · cases e3 : pa n d q with
            | none => rw [e3] at h; cases h
            | some y =>
              rw [e3] at h
              injection h with h; injection h with h3 h4; subst h3
              rw [okL]; exact ⟨h1, ia _ _ y.1 y.2 (hR.sb hq) e3⟩
          · split at h
            · injection h with h; injection h with h3 h4; subst h3
              rw [okL, okL]; exact ⟨h1, trivial⟩
            · cases h
    · rw [po] at h
      have hw := ws_sb l
      cases e0 : ws l with
      | nil => rw [e0] at h; cases h
      | cons c0 q0 =>
        rw [e0] at h hw
        have hq0 := (Sb.cons c0 q0).trans hw
        simp only [] at h
        split at h
        · cases e1 : rs false q0 with
          | none => rw [e1] at h; cases h
          | some k =>
            rw [e1] at h
            have hkA := hR.sb ((rs_sbA q0 false k.1 k.2 e1).trans hq0)
            have hw1 := (ws_sb k.2).trans ((rs_sb q0 false k.1 k.2 e1).trans hq0)
            simp only [] at h
            cases e2 : ws k.2 with
            | nil => rw [e2] at h; cases h
            | cons c2 q2 =>
              rw [e2] at h hw1
              have hw2 := (ws_sb q2).trans ((Sb.cons c2 q2).trans hw1)
              simp only [] at h
              split at h
              · cases e : pv n d (ws q2) with
                | none => rw [e] at h; cases h
                | some x =>
                  rw [e] at h
                  have h1 := iv _ _ x.1 x.2 (hR.sb hw2) e
                  have hw3 := (ws_sb x.2).trans (((sbs n).1 _ _ x.1 x.2 e).trans hw2)
                  simp only [] at h
                  cases e3 : ws x.2 with
                  | nil => rw [e3] at h; cases h
                  | cons c q =>
                    rw [e3] at h hw3
                    have hq := (Sb.cons c q).trans hw3
                    simp only [] at h
                    split at h
                    · cases e4 : po n d q with
                      | none => rw [e4] at h; cases h
                      | some y =>
                        rw [e4] at h
                        injection h with h; injection h with h3 h4; subst h3
                        rw [okO]; exact ⟨⟨hkA, h1⟩, io _ _ y.1 y.2 (hR.sb hq) e4⟩
                    · split at h
                      · injection h with h; injection h with h3 h4; subst h3
                        rw [okO, okO]; exact ⟨⟨hkA, h1⟩, trivial⟩
                      · cases h
              · cases h
        · cases h

abbrev In0 (wm : World) (i _j : Nat) : Prop := i < wm.heap.size
def MT (t : T) : Prop := ∀ (b o : Nat) (wm W : World) (v : Value) (xs : L), okT t → Outp wm W v xs → rep wm (In0 wm) t b o → xs.length + (out t).length ≤ 4294900000 →
  Calls Tryz.prog 29 #[.pointer (some ⟨b, o, none⟩), v] W (OPost wm (xs ++ out t))
def MTL : TL → Prop
  | .nil => True
  | .cons t l => MT t ∧ MTL l
def MTO : OL → Prop
  | .nil => True
  | .cons _ t l => MT t ∧ MTO l
theorem at_wm {wm W : World} {v u : Value} {xs : L} {i j : Nat} (H : Outp wm W v xs) (h : wm.cell? ⟨i, j, none⟩ = some u) (hi : i < wm.heap.size) : W.cell? ⟨i, j, none⟩ = some u := (H.2.cell (p := ⟨i, j, none⟩) hi).trans h
set_option maxHeartbeats 8000000 in
set_option maxRecDepth 100000 in
theorem mtLeaf (k : Int) (s : L) : MT (.leaf k s) := by
  intro b o wm W v xs hk H hr hl
  rw [okT] at hk
  rw [rep] at hr
  have c3 := at_wm H hr.2.1.1 hr.2.1.2
  have c4 := at_wm H hr.2.2.1 hr.2.2.2
  obtain ⟨hk, hR⟩ := hk
  have hbs := sz_of s
  have hby := hR.by
  obtain ⟨y, hy⟩ : ∃ y, y = strOfNums s := ⟨_, rfl⟩
  rw [← hy] at c3 hbs hby
  have C3 := Lib.hid (show wm.cell? ⟨b, o + 3, none⟩ = some (.string y) ∧ b < wm.heap.size by rw [hy]; exact hr.2.1)
  have HO := Lib.hid H
  clear hr H hR hy
  rcases hk with rfl | rfl | rfl | rfl | rfl
  · have eo : xs ++ out (.leaf 7 s) = ((xs ++ [34]) ++ bytesOf y) ++ [34] := by rw [out, if_pos rfl, hby]; simp
    have ll := congrArg List.length eo
    rw [List.length_append] at ll
    simp only [List.length_append, List.length_cons, List.length_nil] at ll
    have l0 : xs.length ≤ 4294967296 := by omega
    have l1 : (xs ++ [34]).length + y.size ≤ 4294967296 := by have := bytesOf_length y; simp; omega
    have l2 : ((xs ++ [34]) ++ bytesOf y).length ≤ 4294967296 := by simp only [List.length_append, List.length_cons, List.length_nil]; omega
    have HE := Lib.hid eo
    clear eo hl ll hbs hby
    rw [HE.out]
    go_enter Tryz.func29, Tryz.ntmps29
    go_wp2_with (first
      | (at_builtin; refine out_num rfl (.tmp 14) (.tmp 15) rfl _ 34 xs rfl (by simp [go_sem]) HO.out l0 ?_; intro v1 w1 ho _; have H1 := Lib.hid ho; have c3 := at_wm H1.out C3.out.1 C3.out.2; clear ho)
      | (at_builtin; refine out_str rfl (.tmp 17) (.tmp 21) rfl _ y (xs ++ [34]) rfl rfl H1.out l1 ?_; intro v2 w2 ho _; have H2 := Lib.hid ho; clear ho)
      | (at_builtin; refine out_num rfl (.tmp 23) (.tmp 24) rfl _ 34 ((xs ++ [34]) ++ bytesOf y) rfl (by simp [go_sem]) H2.out l2 ?_; intro v3 w3 ho _; have H3 := Lib.hid ho; clear ho))
    go_ret
    exact ⟨_, rfl, H3.out⟩
  · have eo : xs ++ out (.leaf 4 s) = xs ++ bytesOf y := by rw [out, if_neg (by decide), if_pos rfl, hby]
    have ll := congrArg List.length eo
    rw [List.length_append, List.length_append, bytesOf_length] at ll
    have l1 : xs.length + y.size ≤ 4294967296 := by omega
    have HE := Lib.hid eo
    clear eo hl ll hbs hby
    rw [HE.out]
    go_enter Tryz.func29, Tryz.ntmps29
    go_wp2_with (at_builtin; refine out_str rfl (.tmp 78) (.tmp 82) rfl _ y xs rfl rfl HO.out l1 ?_; intro v2 w2 ho _; have H2 := Lib.hid ho; clear ho)
    go_ret
    exact ⟨_, rfl, H2.out⟩
  · have eo : xs ++ out (.leaf 5 s) = xs ++ bytesOf ⟨#[116, 114, 117, 101]⟩ := by rw [out, if_neg (by decide), if_neg (by decide)]; rfl
    have ll := congrArg List.length eo
    rw [List.length_append, List.length_append, bytesOf_length] at ll
    have l1 : xs.length + (⟨#[116, 114, 117, 101]⟩ : ByteArray).size ≤ 4294967296 := by omega
    have HE := Lib.hid eo
    clear eo hl ll hbs hby
    rw [HE.out]
    go_enter Tryz.func29, Tryz.ntmps29
    go_wp2_with (at_builtin; refine out_str rfl (.tmp 86) (.const (.string ⟨#[116, 114, 117, 101]⟩)) rfl _ ⟨#[116, 114, 117, 101]⟩ xs rfl rfl HO.out l1 ?_; intro v2 w2 ho _; have H2 := Lib.hid ho; clear ho)
    go_ret
    exact ⟨_, rfl, H2.out⟩
  · have eo : xs ++ out (.leaf 6 s) = xs ++ bytesOf ⟨#[102, 97, 108, 115, 101]⟩ := by rw [out, if_neg (by decide), if_neg (by decide)]; rfl
    have ll := congrArg List.length eo
    rw [List.length_append, List.length_append, bytesOf_length] at ll
    have l1 : xs.length + (⟨#[102, 97, 108, 115, 101]⟩ : ByteArray).size ≤ 4294967296 := by omega
    have HE := Lib.hid eo
    clear eo hl ll hbs hby
    rw [HE.out]
    go_enter Tryz.func29, Tryz.ntmps29
    go_wp2_with (at_builtin; refine out_str rfl (.tmp 90) (.const (.string ⟨#[102, 97, 108, 115, 101]⟩)) rfl _ ⟨#[102, 97, 108, 115, 101]⟩ xs rfl rfl HO.out l1 ?_; intro v2 w2 ho _; have H2 := Lib.hid ho; clear ho)
    go_ret
    exact ⟨_, rfl, H2.out⟩
  · have eo : xs ++ out (.leaf 0 s) = xs ++ bytesOf ⟨#[110, 117, 108, 108]⟩ := by rw [out, if_neg (by decide), if_neg (by decide)]; rfl
    have ll := congrArg List.length eo
    rw [List.length_append, List.length_append, bytesOf_length] at ll
    have l1 : xs.length + (⟨#[110, 117, 108, 108]⟩ : ByteArray).size ≤ 4294967296 := by omega
    have HE := Lib.hid eo
    clear eo hl ll hbs hby
    rw [HE.out]
    go_enter Tryz.func29, Tryz.ntmps29
    go_wp2_with (at_builtin; refine out_str rfl (.tmp 94) (.const (.string ⟨#[110, 117, 108, 108]⟩)) rfl _ ⟨#[110, 117, 108, 108]⟩ xs rfl rfl HO.out l1 ?_; intro v2 w2 ho _; have H2 := Lib.hid ho; clear ho)
    go_ret
    exact ⟨_, rfl, H2.out⟩
end Go.Proofs.YtcaigeikdnoheaaGreatDoor.Fp

set_option linter.unusedVariables false
set_option linter.unusedSimpArgs false
namespace Go.Proofs.YtcaigeikdnoheaaGreatDoor.Fp
open Go.RowKit Go.Proofs.YtcaigeikdnoheaaGreatDoorW.PrintWords Go.Proofs.YtcaigeikdnoheaaGreatDoorW.PrintLast Go.Proofs.YtcaigeikdnoheaaGreatDoorW.PrintMore Go.Proofs.YtcaigeikdnoheaaGreatDoor.Aid Go.Proofs.YtcaigeikdnoheaaGreatDoor.J

theorem outL_len : ∀ l : TL, l.len ≤ (outL l).length + 1
  | .nil => Nat.zero_le _
  | .cons t .nil => by rw [TL.len]; show 0 + 1 ≤ _; omega
  | .cons t (.cons u m) => by
    have := outL_len (.cons u m)
    rw [outL2, TL.len]; simp only [List.length_append, List.length_cons]; omega
theorem outO_len : ∀ l : OL, l.len ≤ (outO l).length + 1
  | .nil => Nat.zero_le _
  | .cons k t .nil => by rw [OL.len]; show 0 + 1 ≤ _; omega
  | .cons k t (.cons j u m) => by
    have := outO_len (.cons j u m)
    rw [outO2, OL.len]; simp only [List.length_append, List.length_cons]; omega
/-- What is written of an array's rest, and its bracket. -/
def ArrM (wm : World) (goal : L) (g : Nat) (i : Nat) (K : Nat) (v1 : Value) (W : World) (rest : TL) : Prop := ∃ cur, Outp wm W v1 cur ∧ cur ++ (outL rest ++ [93]) = goal ∧ repL wm (In0 wm) rest g i ∧ okL rest ∧ MTL rest ∧ rest.len = K
set_option maxHeartbeats 16000000 in
set_option maxRecDepth 100000 in
theorem mtArr (l : TL) (hm : MTL l) : MT (.arr l) := by
  intro b o wm W v xs hk H hr hl
  rw [okT] at hk
  rw [rep] at hr
  obtain ⟨hv, h4, g, c, h2, hr⟩ := hr
  have c4 := at_wm H h4.1 h4.2
  have C2 := Lib.hid h2
  have HO := Lib.hid H
  obtain ⟨goal, hgoal⟩ : ∃ goal, goal = xs ++ out (.arr l) := ⟨_, rfl⟩
  rw [← hgoal]
  have hgo : (xs ++ [91]) ++ (outL l ++ [93]) = goal := by rw [hgoal, out]; simp
  have hgl : goal.length ≤ 4294900000 := by rw [hgoal, List.length_append]; exact hl
  have l0 : xs.length ≤ 4294967296 := by omega
  have HS := Lib.hid (show ∀ W' v', Outp wm W' v' (xs ++ [91]) → ArrM wm goal g 0 l.len v' W' l from fun W' v' ho => ⟨_, ho, hgo, hr, hk, hm, rfl⟩)
  obtain ⟨n, hn⟩ : ∃ n, n = l.len := ⟨_, rfl⟩
  rw [← hn] at HS C2
  have hnb : n ≤ 4294900000 := by
    have h1 := outL_len l
    have h2 := congrArg List.length hgo
    simp only [List.length_append, List.length_cons, List.length_nil] at h2
    omega
  clear hgo hl hm hk hr H h4 h2 hv hgoal
  obtain ⟨sv, hsv⟩ : ∃ sv, sv = slc g n c := ⟨_, rfl⟩
  have hsl : ∃ base cc, sv = .slice base n cc := by
    rw [hsv]; unfold slc
    by_cases h0 : n = 0
    · rw [if_pos h0, h0]; exact ⟨_, _, rfl⟩
    · rw [if_neg h0]; exact ⟨_, _, rfl⟩
  obtain ⟨base, cc, rfl⟩ := hsl
  rw [← hsv] at C2
  have HSV := Lib.hid hsv
  clear hsv
  go_enter Tryz.func29, Tryz.ntmps29
  go_wp2_with (at_builtin; refine out_num rfl (.tmp 36) (.tmp 37) rfl _ 91 xs rfl (by simp [go_sem]) HO.out l0 ?_; intro v1 w1 ho _; have H1 := Lib.hid (HS.out _ _ ho); have c2 := at_wm ho C2.out.1 C2.out.2; clear ho)
  clear HO HS l0 c2
  go_loopg [1, 44] n (fun kq v1' v44 w' => Hid (∃ i rest, v44 = .int .i64 ((i : Nat) : Int) ∧ i + kq = n ∧ ArrM wm goal g i kq v1' w' rest))
  case atStart => exact Lib.hid ⟨0, l, rfl, by omega, H1.out⟩
  case round =>
    obtain ⟨i, rest, rfl, hi, cur, hO, hcu, hre, hok, hmt, hle⟩ := hrel.out
    clear hrel H1
    have HO := Lib.hid hO
    have hcl : cur.length + ((outL rest).length + 1) ≤ 4294900000 := by
      have := congrArg List.length hcu
      simp only [List.length_append, List.length_cons, List.length_nil] at this
      omega
    cases rest with
    | nil =>
      obtain rfl : gk = 0 := by rw [← hle]; rfl
      obtain rfl : i = n := by omega
      have d1 : decide (i < i) = false := decide_eq_false (by omega)
      have l1 : cur.length ≤ 4294967296 := by omega
      have HG := Lib.hid (show cur ++ [93] = goal from hcu)
      clear hcu hre hok hmt hle hO hcl hi
      go_wp2_with (at_builtin; refine out_num rfl (.tmp 64) (.tmp 65) rfl _ 93 cur rfl (by simp [go_sem]) HO.out l1 ?_; intro v1 w1 ho _; have H1 := Lib.hid ho; clear ho)
      go_ret
      exact ⟨_, rfl, by rw [← HG.out]; exact H1.out⟩
    | cons t rest =>
      rw [repL] at hre
      rw [okL] at hok
      rw [MTL] at hmt
      obtain ⟨_, tb, tq, _, hx, hrt, hrest⟩ := hre
      replace hrt := rep_keep (Keep.drop wm _ _) _ _ _ hrt
      replace hrest := repL_keep (Keep.drop wm _ _) _ _ _ hrest
      obtain ⟨hok1, hok2⟩ := hok
      obtain ⟨hmt1, hmt2⟩ := hmt
      rw [TL.len] at hle
      have hb : base = some ⟨g, 0, none⟩ := by
        have := HSV.out
        unfold slc at this
        rw [if_neg (by omega)] at this
        injection this
      subst hb
      have x := at_wm hO hx.1 hx.2
      have hin : (i : Int) < (n : Int) := by omega
      have d1 : decide (i < n) = true := decide_eq_true (by omega)
      have HM := Lib.hid (fun W v xs H hl => hmt1 tb tq wm W v xs hok1 H hrt hl)
      have hO1 := outL_cons t rest
      have l5 : cur.length + (out t).length ≤ 4294900000 := by
        cases rest with
        | nil => rw [outL1] at hcl; omega
        | cons u m => rw [outL2] at hcl; simp only [List.length_append, List.length_cons] at hcl; omega
      have HL5 := Lib.hid l5
      cases rest with
      | nil =>
        have d2 : ((i : Int) != (n : Int) - 1) = false := by
          rw [bne_eq_false_iff_eq]
          have : gk = 1 := by rw [← hle]; rfl
          omega
        have FIN : Hid (∀ W' v', Outp wm W' v' (cur ++ out t) → ArrM wm goal g (i + 1) 0 v' W' .nil) := Lib.hid fun W' v' ho => ⟨_, ho, by rw [← hcu, outL1, List.append_assoc]; rfl, by rw [repL]; trivial, by rw [okL]; trivial, by rw [MTL]; trivial, rfl⟩
        have HK := Lib.hid (show gk = 1 by rw [← hle]; rfl)
        have HI := Lib.hid hi
        clear hcu hok1 hok2 hmt1 hmt2 hrt hrest hle hO hcl hO1 l5 hx hi
        go_wp2_with (go_at_call 29; refine (HM.out _ _ _ HO.out HL5.out).mono ?_; rintro e w5 ⟨v5, rfl, h5⟩; have H5 := Lib.hid h5; have c2 := at_wm h5 C2.out.1 C2.out.2; clear h5)
        go_roundg 0
        case rel => exact Lib.hid ⟨i + 1, .nil, rfl, by have := HI.out; have := HK.out; omega, FIN.out _ _ H5.out⟩
        case measure => have := HK.out; omega
      | cons u m =>
        have d2 : ((i : Int) != (n : Int) - 1) = true := by
          rw [bne_iff_ne]
          rw [TL.len] at hle
          omega
        have HK := Lib.hid (show gk = (TL.cons u m).len + 1 from hle.symm)
        have l6 : (cur ++ out t).length ≤ 4294967296 := by rw [List.length_append]; omega
        have FIN : Hid (∀ W' v', Outp wm W' v' ((cur ++ out t) ++ [44]) → ArrM wm goal g (i + 1) (TL.cons u m).len v' W' (.cons u m)) := Lib.hid fun W' v' ho => ⟨_, ho, by rw [← hcu, outL2]; simp, hrest, hok2, hmt2, rfl⟩
        have HI := Lib.hid hi
        clear hcu hok1 hok2 hmt1 hmt2 hrt hrest hle hO hcl hO1 l5 hx hi
        go_wp2_with (first
          | (go_at_call 29; refine (HM.out _ _ _ HO.out HL5.out).mono ?_; rintro e w5 ⟨v5, rfl, h5⟩; have H5 := Lib.hid h5; have c2 := at_wm h5 C2.out.1 C2.out.2; clear h5)
          | (at_builtin; refine out_num rfl (.tmp 60) (.tmp 61) rfl _ 44 (cur ++ out t) rfl (by simp [go_sem]) H5.out l6 ?_; intro v6 w6 ho _; have H6 := Lib.hid ho; clear ho))
        go_roundg (TL.cons u m).len
        case rel => exact Lib.hid ⟨i + 1, .cons u m, rfl, by have := HI.out; have := HK.out; omega, FIN.out _ _ H6.out⟩
        case measure => have := HK.out; omega

def ObjM (wm : World) (goal : L) (g : Nat) (i : Nat) (K : Nat) (v1 : Value) (W : World) (rest : OL) : Prop := ∃ cur, Outp wm W v1 cur ∧ cur ++ (outO rest ++ [125]) = goal ∧ repO wm (In0 wm) rest g i ∧ okO rest ∧ MTO rest ∧ rest.len = K
set_option maxHeartbeats 16000000 in
set_option maxRecDepth 100000 in
/-- Object.MarshalTo. -/
theorem mtObj (l : OL) (hm : MTO l) (b o g c : Nat) (wm W : World) (v : Value) (xs : L) (hk : okO l) (H : Outp wm W v xs) (h1 : wm.cell? ⟨b, o + 1, none⟩ = some (.bool false) ∧ In0 wm b (o + 1)) (h0 : wm.cell? ⟨b, o, none⟩ = some (slc g l.len c) ∧ In0 wm b o) (hr : repO wm (In0 wm) l g 0) (hl : xs.length + (out (.obj l)).length ≤ 4294900000) :
    Calls Tryz.prog 52 #[.pointer (some ⟨b, o, none⟩), v] W (OPost wm (xs ++ out (.obj l))) := by
  have C1 := Lib.hid h1
  have C0 := Lib.hid h0
  have HO := Lib.hid H
  obtain ⟨goal, hgoal⟩ : ∃ goal, goal = xs ++ out (.obj l) := ⟨_, rfl⟩
  rw [← hgoal]
  have hgo : (xs ++ [123]) ++ (outO l ++ [125]) = goal := by rw [hgoal, out]; simp
  have hgl : goal.length ≤ 4294900000 := by rw [hgoal, List.length_append]; exact hl
  have l0 : xs.length ≤ 4294967296 := by omega
  have HS := Lib.hid (show ∀ W' v', Outp wm W' v' (xs ++ [123]) → ObjM wm goal g 0 l.len v' W' l from fun W' v' ho => ⟨_, ho, hgo, hr, hk, hm, rfl⟩)
  obtain ⟨n, hn⟩ : ∃ n, n = l.len := ⟨_, rfl⟩
  rw [← hn] at HS C0
  have hnb : n ≤ 4294900000 := by
    have h1 := outO_len l
    have h2 := congrArg List.length hgo
    simp only [List.length_append, List.length_cons, List.length_nil] at h2
    omega
  clear hgo hl hm hk hr H h1 h0 hgoal
  obtain ⟨sv, hsv⟩ : ∃ sv, sv = slc g n c := ⟨_, rfl⟩
  have hsl : ∃ base cc, sv = .slice base n cc := by
    rw [hsv]; unfold slc
    by_cases h0 : n = 0
    · rw [if_pos h0, h0]; exact ⟨_, _, rfl⟩
    · rw [if_neg h0]; exact ⟨_, _, rfl⟩
  obtain ⟨base, cc, rfl⟩ := hsl
  rw [← hsv] at C0
  have HSV := Lib.hid hsv
  clear hsv
  go_enter Tryz.func52, Tryz.ntmps52
  go_wp2_with (at_builtin; refine out_num rfl (.tmp 8) (.tmp 9) rfl _ 123 xs rfl (by simp [go_sem]) HO.out l0 ?_; intro v1 w1 ho _; have H1 := Lib.hid (HS.out _ _ ho); have c0 := at_wm ho C0.out.1 C0.out.2; clear ho)
  clear HO HS l0 c0
  go_loopg [1, 17] n (fun kq v1' v17 w' => Hid (∃ i rest, v17 = .int .i64 ((i : Nat) : Int) ∧ i + kq = n ∧ ObjM wm goal g i kq v1' w' rest))
  case atStart => exact Lib.hid ⟨0, l, rfl, by omega, H1.out⟩
  case round =>
    obtain ⟨i, rest, rfl, hi, cur, hO, hcu, hre, hok, hmt, hle⟩ := hrel.out
    clear hrel H1
    have HO := Lib.hid hO
    have hcl : cur.length + ((outO rest).length + 1) ≤ 4294900000 := by
      have := congrArg List.length hcu
      simp only [List.length_append, List.length_cons, List.length_nil] at this
      omega
    cases rest with
    | nil =>
      obtain rfl : gk = 0 := by rw [← hle]; rfl
      obtain rfl : i = n := by omega
      have d1 : decide (i < i) = false := decide_eq_false (by omega)
      have l1 : cur.length ≤ 4294967296 := by omega
      have HG := Lib.hid (show cur ++ [125] = goal from hcu)
      clear hcu hre hok hmt hle hO hcl hi
      go_wp2_with (at_builtin; refine out_num rfl (.tmp 66) (.tmp 67) rfl _ 125 cur rfl (by simp [go_sem]) HO.out l1 ?_; intro v1 w1 ho _; have H1 := Lib.hid ho; clear ho)
      go_ret
      exact ⟨_, rfl, by rw [← HG.out]; exact H1.out⟩
    | cons kk t rest =>
      rw [repO] at hre
      rw [okO] at hok
      rw [MTO] at hmt
      obtain ⟨_, hkc, tb, tq, _, hx, hrt, hrest⟩ := hre
      replace hrt := rep_keep (Keep.drop wm _ _) _ _ _ hrt
      replace hrest := repO_keep (Keep.drop wm _ _) _ _ _ hrest
      obtain ⟨⟨hkR, hok1⟩, hok2⟩ := hok
      obtain ⟨hmt1, hmt2⟩ := hmt
      rw [OL.len] at hle
      have hb : base = some ⟨g, 0, none⟩ := by
        have := HSV.out
        unfold slc at this
        rw [if_neg (by omega)] at this
        injection this
      subst hb
      have hby := hkR.by
      obtain ⟨y, hy⟩ : ∃ y, y = strOfNums kk := ⟨_, rfl⟩
      rw [← hy] at hby hkc
      rw [Nat.mul_comm 2 i] at hkc hx
      have CK := Lib.hid hkc
      have CX := Lib.hid hx
      have hys := bytesOf_length y
      have f1 := at_wm hO C1.out.1 C1.out.2
      have hin : (i : Int) < (n : Int) := by omega
      have d1 : decide (i < n) = true := decide_eq_true (by omega)
      have HM := Lib.hid (fun W v xs H hl => hmt1 tb tq wm W v xs hok1 H hrt hl)
      have hcl2 : cur.length + (kk.length + (out t).length + 3) ≤ 4294900000 := by
        cases rest with
        | nil => rw [outO1] at hcl; simp only [List.length_append, List.length_cons] at hcl; omega
        | cons j u m => rw [outO2] at hcl; simp only [List.length_append, List.length_cons] at hcl; omega
      rw [hby] at hys
      have l1 : cur.length ≤ 4294967296 := by omega
      have l2 : (cur ++ [34]).length + y.size ≤ 4294967296 := by simp; omega
      have l3 : ((cur ++ [34]) ++ bytesOf y).length ≤ 4294967296 := by rw [hby]; simp; omega
      have l4 : (((cur ++ [34]) ++ bytesOf y) ++ [34]).length ≤ 4294967296 := by rw [hby]; simp; omega
      have HL5 := Lib.hid (show ((((cur ++ [34]) ++ bytesOf y) ++ [34]) ++ [58]).length + (out t).length ≤ 4294900000 by rw [hby]; simp; omega)
      have hcm : ((((cur ++ [34]) ++ bytesOf y) ++ [34]) ++ [58]) ++ out t = cur ++ 34 :: (kk ++ 34 :: 58 :: out t) := by rw [hby]; simp
      have HCM := Lib.hid hcm
      cases rest with
      | nil =>
        have d2 : ((i : Int) != (n : Int) - 1) = false := by
          rw [bne_eq_false_iff_eq]
          have : gk = 1 := by rw [← hle]; rfl
          omega
        have FIN : Hid (∀ W' v', Outp wm W' v' (((((cur ++ [34]) ++ bytesOf y) ++ [34]) ++ [58]) ++ out t) → ObjM wm goal g (i + 1) 0 v' W' .nil) := Lib.hid fun W' v' ho => ⟨_, ho, by rw [HCM.out, ← hcu, outO1, List.append_assoc]; rfl, by rw [repO]; trivial, by rw [okO]; trivial, by rw [MTO]; trivial, rfl⟩
        have HK := Lib.hid (show gk = 1 by rw [← hle]; rfl)
        have HI := Lib.hid hi
        clear hcu hok1 hok2 hmt1 hmt2 hrt hrest hle hO hcl hx hi hkc hby hys hcm hcl2 hy
        go_wp2_with (first
          | (at_builtin; refine out_num rfl (.tmp 33) (.tmp 34) rfl _ 34 cur rfl (by simp [go_sem]) HO.out l1 ?_; intro v2 w2 ho _; have H2 := Lib.hid ho; have ck := at_wm ho CK.out.1 CK.out.2; clear ho)
          | (at_builtin; refine out_str rfl (.tmp 36) (.tmp 40) rfl _ y (cur ++ [34]) rfl rfl H2.out l2 ?_; intro v3 w3 ho _; have H3 := Lib.hid ho; clear ho)
          | (at_builtin; refine out_num rfl (.tmp 42) (.tmp 43) rfl _ 34 ((cur ++ [34]) ++ bytesOf y) rfl (by simp [go_sem]) H3.out l3 ?_; intro v4 w4 ho _; have H4 := Lib.hid ho; clear ho)
          | (at_builtin; refine out_num rfl (.tmp 45) (.tmp 46) rfl _ 58 (((cur ++ [34]) ++ bytesOf y) ++ [34]) rfl (by simp [go_sem]) H4.out l4 ?_; intro v5 w5 ho _; have H5 := Lib.hid ho; have cx := at_wm ho CX.out.1 CX.out.2; clear ho)
          | (go_at_call 29; refine (HM.out _ _ _ H5.out HL5.out).mono ?_; rintro e w6 ⟨v6, rfl, h6⟩; have H6 := Lib.hid h6; have c0 := at_wm h6 C0.out.1 C0.out.2; clear h6))
        go_roundg 0
        case rel => exact Lib.hid ⟨i + 1, .nil, rfl, by have := HI.out; have := HK.out; omega, FIN.out _ _ H6.out⟩
        case measure => have := HK.out; omega
      | cons j u m =>
        have d2 : ((i : Int) != (n : Int) - 1) = true := by
          rw [bne_iff_ne]
          rw [OL.len] at hle
          omega
        have HK := Lib.hid (show gk = (OL.cons j u m).len + 1 from hle.symm)
        have l6 : (((((cur ++ [34]) ++ bytesOf y) ++ [34]) ++ [58]) ++ out t).length ≤ 4294967296 := by rw [hcm]; simp only [List.length_append, List.length_cons]; omega
        have FIN : Hid (∀ W' v', Outp wm W' v' ((((((cur ++ [34]) ++ bytesOf y) ++ [34]) ++ [58]) ++ out t) ++ [44]) → ObjM wm goal g (i + 1) (OL.cons j u m).len v' W' (.cons j u m)) := Lib.hid fun W' v' ho => ⟨_, ho, by rw [HCM.out, ← hcu, outO2]; simp, hrest, hok2, hmt2, rfl⟩
        have HI := Lib.hid hi
        clear hcu hok1 hok2 hmt1 hmt2 hrt hrest hle hO hcl hx hi hkc hby hys hcm hcl2 hy
        go_wp2_with (first
          | (at_builtin; refine out_num rfl (.tmp 33) (.tmp 34) rfl _ 34 cur rfl (by simp [go_sem]) HO.out l1 ?_; intro v2 w2 ho _; have H2 := Lib.hid ho; have ck := at_wm ho CK.out.1 CK.out.2; clear ho)
          | (at_builtin; refine out_str rfl (.tmp 36) (.tmp 40) rfl _ y (cur ++ [34]) rfl rfl H2.out l2 ?_; intro v3 w3 ho _; have H3 := Lib.hid ho; clear ho)
          | (at_builtin; refine out_num rfl (.tmp 42) (.tmp 43) rfl _ 34 ((cur ++ [34]) ++ bytesOf y) rfl (by simp [go_sem]) H3.out l3 ?_; intro v4 w4 ho _; have H4 := Lib.hid ho; clear ho)
          | (at_builtin; refine out_num rfl (.tmp 45) (.tmp 46) rfl _ 58 (((cur ++ [34]) ++ bytesOf y) ++ [34]) rfl (by simp [go_sem]) H4.out l4 ?_; intro v5 w5 ho _; have H5 := Lib.hid ho; have cx := at_wm ho CX.out.1 CX.out.2; clear ho)
          | (go_at_call 29; refine (HM.out _ _ _ H5.out HL5.out).mono ?_; rintro e w6 ⟨v6, rfl, h6⟩; have H6 := Lib.hid h6; have c0 := at_wm h6 C0.out.1 C0.out.2; clear h6)
          | (at_builtin; refine out_num rfl (.tmp 62) (.tmp 63) rfl _ 44 (((((cur ++ [34]) ++ bytesOf y) ++ [34]) ++ [58]) ++ out t) rfl (by simp [go_sem]) H6.out l6 ?_; intro v7 w7 ho _; have H7 := Lib.hid ho; clear ho))
        go_roundg (OL.cons j u m).len
        case rel => exact Lib.hid ⟨i + 1, .cons j u m, rfl, by have := HI.out; have := HK.out; omega, FIN.out _ _ H7.out⟩
        case measure => have := HK.out; omega
set_option maxHeartbeats 8000000 in
set_option maxRecDepth 100000 in
theorem mtObjV (l : OL) (hm : MTO l) : MT (.obj l) := by
  intro b o wm W v xs hk H hr hl
  rw [okT] at hk
  rw [rep] at hr
  obtain ⟨hv, h4, h1, g, c, h0, hr⟩ := hr
  have c4 := at_wm H h4.1 h4.2
  replace hr := repO_keep (Keep.drop wm _ _) _ _ _ hr
  have HM := Lib.hid (mtObj l hm b o g c wm W v xs hk H h1 h0 hr hl)
  generalize xs ++ out (.obj l) = goal at HM ⊢
  clear hr H h4 h1 h0 hv hm hl hk
  go_enter Tryz.func29, Tryz.ntmps29
  go_wp2_with (go_at_call 52; refine HM.out.mono ?_; rintro e w6 ⟨v6, rfl, h6⟩; have H6 := Lib.hid h6; clear h6)
  go_ret
  exact ⟨_, rfl, H6.out⟩
mutual
theorem mt_all : ∀ t : T, MT t
  | .leaf k s => mtLeaf k s
  | .arr l => mtArr l (mtL_all l)
  | .obj l => mtObjV l (mtO_all l)
theorem mtL_all : ∀ l : TL, MTL l
  | .nil => by rw [MTL]; trivial
  | .cons t l => by rw [MTL]; exact ⟨mt_all t, mtL_all l⟩
theorem mtO_all : ∀ l : OL, MTO l
  | .nil => by rw [MTO]; trivial
  | .cons k t l => by rw [MTO]; exact ⟨mt_all t, mtO_all l⟩
end
end Go.Proofs.YtcaigeikdnoheaaGreatDoor.Fp

set_option linter.unusedVariables false
set_option linter.unusedSimpArgs false
namespace Go.Proofs.YtcaigeikdnoheaaGreatDoor.Fp
open Go.RowKit Go.Proofs.YtcaigeikdnoheaaGreatDoorW.PrintWords Go.Proofs.YtcaigeikdnoheaaGreatDoorW.PrintLast Go.Proofs.YtcaigeikdnoheaaGreatDoorW.PrintMore Go.Proofs.YtcaigeikdnoheaaGreatDoor.Aid Go.Proofs.YtcaigeikdnoheaaGreatDoor.J

/-- A cell that is new since w0. -/
abbrev In2 (w0 w : World) (i _j : Nat) : Prop := i < w.heap.size ∧ w0.heap.size ≤ i
def PaPost2 (w0 : World) (l : L) (r : Option T) (e : Ending) (w' : World) : Prop := Below w0.heap.size w0 w' ∧ match r with
  | some t => ∃ b o, e = .returned (.tuple #[.pointer (some ⟨b, o, none⟩), .nilIface]) ∧ okT t ∧ rep w' (In2 w0 w') t b o ∧ (out t).length ≤ l.length
  | none => ∃ N, e = .returned (.tuple #[.pointer none, eI N])
theorem pa2_none {w0 w' : World} {l : L} {r : Option T} {e : Ending} {N : Nat} (hr : r = none) (hb : Below w0.heap.size w0 w') (h : e = .returned (.tuple #[.pointer none, eI N])) : PaPost2 w0 l r e w' := by subst hr; exact ⟨hb, N, h⟩
theorem pa2_some {w0 w' : World} {l : L} {r : Option T} {t : T} {e : Ending} {b o : Nat} (hr : r = some t) (hb : Below w0.heap.size w0 w') (h : e = .returned (.tuple #[.pointer (some ⟨b, o, none⟩), .nilIface])) (hk : okT t) (hp : rep w' (In2 w0 w') t b o) (hl : (out t).length ≤ l.length) : PaPost2 w0 l r e w' := by subst hr; exact ⟨hb, b, o, h, hk, hp, hl⟩
theorem not_old {w0 W : World} {A i j : Nat} (h : ¬ Old A W (.slice none 0 0) i j) (hA : w0.heap.size ≤ A) (hW : w0.heap.size ≤ W.heap.size) : w0.heap.size ≤ i := by
  refine Nat.le_of_not_lt fun hi => h ⟨by omega, by omega, fun B n hv => (by cases hv)⟩
theorem Outp.shape {w0 W : World} {v : Value} {xs : L} (h : Outp w0 W v xs) : ∃ base c, v = .slice base xs.length c := by
  rcases h.1.2 with ⟨e, h0⟩ | ⟨g, cap, cur, e1, _⟩
  · exact ⟨none, 0, by rw [e, h0]⟩
  · exact ⟨_, _, e1⟩
theorem b2sO_any {B : Nat} (W : World) (v : Value) (xs : L) (h : W.ownsRow B 5 1 v xs.length (nums .u8 xs)) : Calls Tryz.prog 79 #[v] W fun e w' => e = .returned (.string (strOfNums xs)) ∧ w' = W := by
  have hc : (convert 30 9 v).run Tryz.prog W = .ok (.string (strOfNums xs)) W := own_string Tryz.underlying30 Tryz.underlying5 Tryz.underlying9 h
  obtain ⟨base, c, rfl⟩ : ∃ base c, v = .slice base xs.length c := by
    rcases h.2 with ⟨e, h0⟩ | ⟨g, cap, cur, e1, _⟩
    · exact ⟨none, 0, by rw [e, h0]⟩
    · exact ⟨_, _, e1⟩
  clear h
  go_enter Tryz.func79, Tryz.ntmps79
  go_wp2
  go_ret
  exact ⟨rfl, rfl⟩
set_option maxRecDepth 100000 in
/-- reset of a cache that was never filled. -/
theorem creset_any (W : World) (A : Nat) (h0 : W.cell? ⟨A, 1, none⟩ = some (.slice none 0 0)) (f0 : W.frozen? ⟨A, 1, none⟩ = false) :
    Calls Tryz.prog 78 #[.pointer (some ⟨A, 1, none⟩)] W fun e w' => e = .returned (.tuple #[]) ∧ w' = W.setCell ⟨A, 1, none⟩ (.slice none 0 0) := by
  go_enter Tryz.func78, Tryz.ntmps78
  go_wp2
  go_loop [10] (fun v10 => v10 = .int .i64 0) (fun _ => 0)
  case atStart => rfl
  case round =>
    subst hrel
    go_wp2
    go_end0
    exact ⟨rfl, rfl⟩
set_option maxHeartbeats 8000000 in
set_option maxRecDepth 100000 in
theorem Parse_any2 (w0 W : World) (A : Nat) (s : ByteArray) (hs : s.size ≤ 90000) (hA : W.heap[A]? = some (.cells #[.slice none 0 0, .slice none 0 0] tPar (0, 0))) (hlow : w0.heap.size ≤ A) (hbel : Below w0.heap.size w0 W) :
    Calls Tryz.prog 40 #[.pointer (some ⟨A, 0, none⟩), .string s] W (PaPost2 w0 (bytesOf s) (parse0 (bytesOf s))) := by
  have HW := Lib.hid (fun W => ws_any s W (by omega))
  have hbw : bytesOf (strOfNums (ws (bytesOf s))) = ws (bytesOf s) := bs_of (ws_sb _)
  have hwl := ws_le (bytesOf s)
  rw [bytesOf_length] at hwl
  obtain ⟨s1, hs1⟩ : ∃ s1, s1 = strOfNums (ws (bytesOf s)) := ⟨_, rfl⟩
  rw [← hs1] at HW hbw
  have hz1 : s1.size = (ws (bytesOf s)).length := by rw [← hbw, bytesOf_length]
  have HA := Lib.hid hA
  have HB := Lib.hid hbel
  have HL := Lib.hid hlow
  have c0 : W.cell? ⟨A, 0, none⟩ = some (.slice none 0 0) := (blk_cell hA 0).trans rfl
  have l1 : ([] : L).length + s1.size ≤ 4294967296 := by simp; omega
  obtain ⟨res, hres⟩ : ∃ res, res = parse0 (bytesOf s) := ⟨_, rfl⟩
  rw [← hres]
  clear hA hbel hlow hs1
  go_enter Tryz.func40, Tryz.ntmps40
  go_upto_region 3 with (first
    | (go_at_call 77; refine (HW.out _).mono ?_; rintro e w1 ⟨rfl, hd1⟩; have HD1 := Lib.hid hd1.below; have c1 : w1.cell? ⟨A, 0, none⟩ = some (.slice none 0 0) := (blk_cell (blk_below HA.out HD1.out) 0).trans rfl; clear hd1)
    | (at_builtin; refine out_str rfl (.tmp 16) (.tmp 17) rfl (.slice none 0 0) s1 [] rfl rfl (Outp.nil (Below.refl w1.heap.size w1)) l1 ?_; intro v2 w2 ho _; have H2 := Lib.hid ho; obtain ⟨base, cc, rfl⟩ := Outp.shape ho; have hA2 := blk_below (blk_below HA.out HD1.out) ho.2; have HA2 := Lib.hid hA2; have c2 : w2.cell? ⟨A, 0, none⟩ = some (.slice none 0 0) := (blk_cell hA2 0).trans rfl; have f2 : w2.frozen? ⟨A, 0, none⟩ = false := blk_frozen hA2 0; clear ho hA2))
  clear c1 c2 f2 c0
  obtain ⟨sv, hsv⟩ : ∃ sv, sv = Value.slice base (ws (bytesOf s)).length cc := ⟨_, rfl⟩
  have hO2 : Outp w1 w2 sv (bytesOf s1) := by rw [hsv, ← hbw]; exact H2.out
  have hA3 := blk_set HA2.out 0 sv
  have hlt1 : A < w1.heap.size := blk_lt (blk_below HA.out HD1.out)
  have hown3 : (w2.setCell ⟨A, 0, none⟩ sv).ownsRow w1.heap.size 5 1 sv (bytesOf s1).length (nums .u8 (bytesOf s1)) := ownsRow_setCell_below hO2.1 hlt1 sv
  have hB3 : Below w0.heap.size w0 (w2.setCell ⟨A, 0, none⟩ sv) := below_set (below_step (below_step HB.out HD1.out) hO2.2) HL.out
  rw [← hsv]
  generalize w2.setCell ⟨A, 0, none⟩ sv = W3 at hA3 hown3 hB3 ⊢
  have HCR := Lib.hid (creset_any W3 A ((blk_cell hA3 1).trans rfl) (blk_frozen hA3 1))
  have hA4 := blk_set hA3 1 (.slice none 0 0)
  have hown4 := ownsRow_setCell_below hown3 (a := ⟨A, 1, none⟩) hlt1 (.slice none 0 0)
  have hB4 := below_set (j := 1) (v := .slice none 0 0) hB3 HL.out
  have HK4 := Lib.hid (And.intro hA4 (And.intro hown4 hB4))
  clear hA3 hown3 hB3 hO2 hsv hA4 hown4 hB4 H2 HA2 hlt1
  go_upto_region 4 with (go_at_call 78; refine HCR.out.mono ?_; rintro e w4 ⟨rfl, hw4⟩; have HK := Lib.hid HK4.out; rw [← hw4] at HK; have c5 : w4.cell? ⟨A, 0, none⟩ = some sv := (blk_cell HK.out.1 0).trans rfl; clear hw4)
  clear HCR HK4
  have HP := Lib.hid (fun (W5 : World) (hb : Below w4.heap.size w4 W5) => pv_all w0 A sv s1.size s1 (2 * s1.size + 2) 0 0 W5 (.slice none 0 0) (Nat.le_refl _) (by omega) (Nat.le_refl _) (by omega) (St.below ⟨HK.out.1, HL.out, HK.out.2.2, .inl ⟨rfl, rfl⟩, fun B n hv => by cases hv⟩ hb) (by omega))
  have HO5 := Lib.hid (show World.ownsRow w4.drew w1.heap.size 5 1 sv (bytesOf s1).length (nums .u8 (bytesOf s1)) from HK.out.2.1)
  rw [hbw] at HP
  have HBS := Lib.hid (b2sO_any w4.drew sv (bytesOf s1) HO5.out)
  rw [str_of_bytes] at HBS
  replace HP : Hid (∀ (W5 : World), Below w4.heap.size w4 W5 → Calls Tryz.prog 69 #[.pointer (some ⟨A, 1, none⟩), .string s1, .int .i64 0] W5 (PvPost w0 A sv W5 (.slice none 0 0) 0 s1.size (pv (2 * s1.size + 2) 0 (ws (bytesOf s))))) := HP
  unfold parse0 at hres
  cases hr : pv (2 * (ws (bytesOf s)).length + 2) 0 (ws (bytesOf s)) with
  | none =>
    rw [hr] at hres
    rw [← hz1] at hr
    rw [hr] at HP
    have Hg := Lib.hid (show res = none from hres)
    clear hres hr hbw hwl hz1 l1
    go_region_with ((first
      | (go_at_call 79; refine HBS.out.mono ?_; rintro e w6 ⟨rfl, hw6⟩; replace hw6 := hw6.symm; subst hw6)
      | (go_at_call 69; refine (HP.out _ (below_drew (Below.refl _ _))).mono ?_; rintro e w7 ⟨hb, htk, a, N, rfl⟩; have HB7 := Lib.hid hb; clear hb htk)))
    go_wp2_with (go_at_call 54; refine (new_any _ _).mono ?_; rintro e w8 ⟨⟨N2, rfl⟩, hb⟩; have HB8 := Lib.hid (below_step HB7.out hb); clear hb)
    go_ret2
    exact pa2_none Hg.out HB8.out rfl
  | some x =>
    obtain ⟨t, r⟩ := x
    rw [hr] at hres
    have hrw : Rg (ws (bytesOf s)) := fun y hy => bytesOf_range s y (ws_sb _ y hy)
    have hok := (oks _).1 _ _ _ _ hrw hr
    have hsz := ((sizes _).1 _ _ _ _ hr).1
    have hbr : bytesOf (strOfNums r) = r := (hrw.sb ((sbs _).1 _ _ _ _ hr)).by
    rw [← hz1] at hr
    rw [hr] at HP
    have HWR := Lib.hid (fun W => ws_any (strOfNums r) W (by rw [sz_of]; omega))
    rw [hbr] at HWR
    have HSZ := Lib.hid (show (out t).length ≤ (bytesOf s).length by rw [bytesOf_length]; omega)
    have HOK := Lib.hid hok
    replace hres : res = if ws r = [] then some t else none := hres
    clear hr hbw hwl hz1 l1 hok hsz hbr hrw
    cases hw : ws r with
    | nil =>
      rw [hw] at HWR hres
      have Hg : Hid (res = some t) := Lib.hid (by rw [hres, if_pos rfl])
      obtain ⟨s3, hs3⟩ : ∃ s3, s3 = strOfNums [] := ⟨_, rfl⟩
      have e0 : decide (0 < s3.size) = false := by rw [hs3]; rfl
      have e1 : decide ((0 : Int) < (s3.size : Int)) = false := by rw [hs3]; rfl
      rw [← hs3] at HWR
      clear hs3 hw hres
      go_region_with ((first
        | (go_at_call 79; refine HBS.out.mono ?_; rintro e w6 ⟨rfl, hw6⟩; replace hw6 := hw6.symm; subst hw6)
        | (go_at_call 69; refine (HP.out _ (below_drew (Below.refl _ _))).mono ?_; rintro e w7 ⟨hb, tb, tq, vs', n', rfl, hst, hcnt, hfr, hrep⟩; have HX := Lib.hid (And.intro hst hrep); clear hb hst hcnt hfr hrep)))
      go_wp2_with (go_at_call 77; refine (HWR.out _).mono ?_; rintro e w8 ⟨rfl, hd⟩; have HD := Lib.hid hd.below; clear hd)
      go_ret2
      exact pa2_some Hg.out (below_step HX.out.1.bel HD.out) rfl HOK.out (rep_keep (fun i j hq => ⟨⟨Nat.lt_of_lt_of_le hq.1.1 HD.out.size, not_old hq.2 HL.out HK.out.2.2.size⟩, HD.out.cell (p := ⟨i, j, none⟩) hq.1.1, fun _ h => h.below HD.out⟩) _ _ _ HX.out.2) HSZ.out
    | cons c q =>
      rw [hw] at HWR hres
      have Hg : Hid (res = none) := Lib.hid (by rw [hres, if_neg (by simp)])
      obtain ⟨s3, hs3⟩ : ∃ s3, s3 = strOfNums (c :: q) := ⟨_, rfl⟩
      have hz3 : s3.size = q.length + 1 := by rw [hs3, sz_of]; rfl
      have e0 : decide (0 < s3.size) = true := decide_eq_true (by omega)
      have e1 : decide ((0 : Int) < (s3.size : Int)) = true := decide_eq_true (by omega)
      rw [← hs3] at HWR
      clear hs3 hw hres hz3
      go_region_with ((first
        | (go_at_call 79; refine HBS.out.mono ?_; rintro e w6 ⟨rfl, hw6⟩; replace hw6 := hw6.symm; subst hw6)
        | (go_at_call 69; refine (HP.out _ (below_drew (Below.refl _ _))).mono ?_; rintro e w7 ⟨hb, tb, tq, vs', n', rfl, hst, hcnt, hfr, hrep⟩; have HB7 := Lib.hid hb; clear hb hst hcnt hfr hrep)))
      go_wp2_with (first
        | (go_at_call 77; refine (HWR.out _).mono ?_; rintro e w8 ⟨rfl, hd⟩; have HD := Lib.hid (below_step HB7.out hd.below); clear hd)
        | (go_at_call 54; refine (new_any _ _).mono ?_; rintro e w9 ⟨⟨N2, rfl⟩, hb⟩; have HB8 := Lib.hid (below_step HD.out hb); clear hb))
      go_ret2
      exact pa2_none Hg.out HB8.out rfl
abbrev oPar : Obj := .cells #[.slice none 0 0, .slice none 0 0] tPar
theorem parse_new2 (w : World) (s : ByteArray) (hs : s.size ≤ 90000) : Calls Tryz.prog 40 #[.pointer (some ⟨w.heap.size, 0, none⟩), .string s] (w.alloc oPar) (PaPost2 w (bytesOf s) (parse0 (bytesOf s))) :=
  Parse_any2 w (w.alloc oPar) w.heap.size s hs (blk_new w oPar) (Nat.le_refl _) (below_alloc (Below.refl _ _) _)
end Go.Proofs.YtcaigeikdnoheaaGreatDoor.Fp
