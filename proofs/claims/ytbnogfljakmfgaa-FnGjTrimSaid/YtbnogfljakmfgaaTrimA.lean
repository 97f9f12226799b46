/- The walk of gjson.trim: it gives what stands between the blanks at both ends. -/
import Derived.Test.YtbnogfljakmfgaaPFnGjTrimx1
import Derived.ScopeJumps
import Derived.Lib.Hide
namespace Go.Proofs.Ytbnogfljakmfgaa.TrimA
open Go.RowKit Go.Proofs.YtbnogfljakmfgaaW.PrintWords Go.Proofs.YtbnogfljakmfgaaW.PrintLast Go.Proofs.YtbnogfljakmfgaaW.PrintMore

/-- As Q; by a goto: J. -/
def jumps (J : Nat → Act → World → Prop) (Q : Exit → Act → World → Prop) : Exit → Act → World → Prop
  | .goto l, a, w => J l a w
  | e, a, w => Q e a w

theorem wp_scope_jumpsN {P : Program} {a : Act} {w : World} {Q : Exit → Act → World → Prop} {c : Code} (J : Nat → Act → World → Prop) (μ : Nat → Act → World → Nat)
    (first : c.wp P (jumps J Q) a w)
    (pass : ∀ l a w, J l a w → ∃ rest, findLabel c l = some rest ∧ rest.wp P (jumps (fun l' a' w' => J l' a' w' ∧ μ l' a' w' < μ l a w) Q) a w) : (Code.scope c).wp P Q a w := by
  intro b k cs
  have key : ∀ n l rest a w, μ l a w = n → J l a w → findLabel c l = some rest → ∃ e a' w', Q e a' w' ∧ Arrives P (lone (b.at a (.code rest :: .inScope c :: k)) cs w) b k cs e a' w' := by
    intro n
    induction n using Nat.strongRecOn with
    | _ n ih =>
      intro l rest a w hn hJ hf
      obtain ⟨rest', hf', hp⟩ := pass l a w hJ
      obtain rfl : rest = rest' := by rw [hf] at hf'; exact Option.some.inj hf'
      obtain ⟨e, a₁, w₁, hq, harr⟩ := hp b (.inScope c :: k) cs
      cases e with
      | normal => exact ⟨.normal, a₁, w₁, hq, Steps.trans harr (.one step_inScope)⟩
      | exit id => exact ⟨.exit id, a₁, w₁, hq, fun k' hk => harr k' (by simp [exitTo, hk])⟩
      | goto l' =>
        obtain ⟨hJ', hlt⟩ := hq
        obtain ⟨rest₂, hf₂, _⟩ := pass l' a₁ w₁ hJ'
        obtain ⟨e₂, a₂, w₂, hq₂, harr₂⟩ := ih _ (by omega) l' rest₂ a₁ w₁ rfl hJ' hf₂
        exact ⟨e₂, a₂, w₂, hq₂, .of_steps (harr _ (by simp [gotoIn, hf₂])) harr₂⟩
      | ret => exact ⟨_, a₁, w₁, hq, harr⟩
      | panic ch => exact ⟨_, a₁, w₁, hq, harr⟩
      | outgrown => exact ⟨_, a₁, w₁, hq, harr⟩
  obtain ⟨e, a₁, w₁, hq, harr⟩ := first b (.inScope c :: k) cs
  cases e with
  | normal => exact ⟨.normal, a₁, w₁, hq, .head step_scope (Steps.trans harr (.one step_inScope))⟩
  | exit id => exact ⟨.exit id, a₁, w₁, hq, fun k' hk => .head step_scope (harr k' (by simp [exitTo, hk]))⟩
  | goto l' =>
    obtain ⟨rest₂, hf₂, _⟩ := pass l' a₁ w₁ hq
    obtain ⟨e₂, a₂, w₂, hq₂, harr₂⟩ := key _ l' rest₂ a₁ w₁ rfl hq hf₂
    exact ⟨e₂, a₂, w₂, hq₂, .of_steps (.head step_scope (harr _ (by simp [gotoIn, hf₂]))) harr₂⟩
  | ret => exact ⟨_, a₁, w₁, hq, .of_steps (.one step_scope) harr⟩
  | panic ch => exact ⟨_, a₁, w₁, hq, .of_steps (.one step_scope) harr⟩
  | outgrown => exact ⟨_, a₁, w₁, hq, .of_steps (.one step_scope) harr⟩

def strOf : Value → Nat | .string s => s.size | _ => 0

/-- What is left behind the blanks at the begin, at the end. -/
def cutL : Nat → ByteArray → ByteArray
  | 0, s => s
  | n + 1, s => if 0 < s.size then if bt s 0 ≤ 32 then cutL n (s.extract 1 s.size) else s else s
def cutR : Nat → ByteArray → ByteArray
  | 0, s => s
  | n + 1, s => if 0 < s.size then if bt s (s.size - 1 : Nat) ≤ 32 then cutR n (s.extract 0 (s.size - 1)) else s else s

theorem cutL_go {t : ByteArray} (h : 0 < t.size) (hb : bt t 0 ≤ 32) : cutL t.size t = cutL (t.extract 1 t.size).size (t.extract 1 t.size) := by
  obtain ⟨n, hn⟩ : ∃ n, t.size = n + 1 := ⟨t.size - 1, by omega⟩
  have e : (t.extract 1 t.size).size = n := by rw [ByteArray.size_extract]; omega
  rw [e]
  conv => lhs; rw [hn]
  simp only [cutL]; rw [if_pos h, if_pos hb]
theorem cutL_stop {t : ByteArray} (h : 0 < t.size → ¬ bt t 0 ≤ 32) : cutL t.size t = t := by
  cases hn : t.size with
  | zero => rfl
  | succ n => simp only [cutL]; rw [if_pos (by omega), if_neg (h (by omega))]
theorem cutR_go {t : ByteArray} (h : 0 < t.size) (hb : bt t (t.size - 1 : Nat) ≤ 32) : cutR t.size t = cutR (t.extract 0 (t.size - 1)).size (t.extract 0 (t.size - 1)) := by
  obtain ⟨n, hn⟩ : ∃ n, t.size = n + 1 := ⟨t.size - 1, by omega⟩
  have e : (t.extract 0 (t.size - 1)).size = n := by rw [ByteArray.size_extract]; omega
  rw [e]
  conv => lhs; rw [hn]
  simp only [cutR]; rw [if_pos h, if_pos hb]
theorem cutR_stop {t : ByteArray} (h : 0 < t.size → ¬ bt t (t.size - 1 : Nat) ≤ 32) : cutR t.size t = t := by
  cases hn : t.size with
  | zero => rfl
  | succ n => simp only [cutR]; rw [if_pos (by omega), if_neg (h (by omega))]

def trimOf (s : ByteArray) : ByteArray := cutR (cutL s.size s).size (cutL s.size s)
theorem ret_str {a b : ByteArray} (h : a = b) : Ending.returned (.string a) = .returned (.string b) := by rw [h]
def relT (s : ByteArray) (l : Nat) (t : ByteArray) : Prop := t.size ≤ s.size ∧ ((l = 0 ∧ cutL t.size t = cutL s.size s) ∨ (l = 1 ∧ cutR t.size t = trimOf s))

theorem relT_0 {s t : ByteArray} (hr : relT s 0 t) : t.size ≤ s.size ∧ cutL t.size t = cutL s.size s := by
  obtain ⟨h, h' | h'⟩ := hr
  · exact ⟨h, h'.2⟩
  · omega
theorem relT_1 {s t : ByteArray} (hr : relT s 1 t) : t.size ≤ s.size ∧ cutR t.size t = trimOf s := by
  obtain ⟨h, h' | h'⟩ := hr
  · omega
  · exact ⟨h, h'.2⟩
theorem relT_00 (s : ByteArray) : relT s 0 s := ⟨by omega, Or.inl ⟨rfl, rfl⟩⟩
theorem relT_l {s t : ByteArray} (hr : relT s 0 t) (h : 0 < t.size) (hb : ((t[0]'h).toNat : Int) ≤ 32) : relT s 0 (t.extract 1 t.size) := by
  obtain ⟨h1, h2⟩ := relT_0 hr
  have e : bt t 0 ≤ 32 := by rw [← bt_at t 0 h]; exact hb
  exact ⟨by rw [ByteArray.size_extract]; omega, Or.inl ⟨rfl, by rw [← h2, cutL_go h e]⟩⟩
theorem relT_lr {s t : ByteArray} (hr : relT s 0 t) (hb : ∀ h : 0 < t.size, 32 < ((t[0]'h).toNat : Int)) : relT s 1 t := by
  obtain ⟨h1, h2⟩ := relT_0 hr
  have e : cutL t.size t = t := cutL_stop fun h => by have := hb h; have q := bt_at t 0 h; have q' : ((t[0]'h).toNat : Int) = bt t 0 := q; omega
  refine ⟨h1, Or.inr ⟨rfl, ?_⟩⟩
  unfold trimOf
  rw [← h2, e]
theorem relT_r {s t : ByteArray} (hr : relT s 1 t) (h : 0 < t.size) (hb : ((t[t.size - 1]'(by omega)).toNat : Int) ≤ 32) : relT s 1 (t.extract 0 (t.size - 1)) := by
  obtain ⟨h1, h2⟩ := relT_1 hr
  have e : bt t (t.size - 1 : Nat) ≤ 32 := by rw [← bt_at t (t.size - 1 : Nat) (by omega)]; exact hb
  exact ⟨by rw [ByteArray.size_extract]; omega, Or.inr ⟨rfl, by rw [← h2, cutR_go h e]⟩⟩
theorem relT_end {s t : ByteArray} (hr : relT s 1 t) (hb : ∀ h : 0 < t.size, 32 < ((t[t.size - 1]'(by omega)).toNat : Int)) : t = trimOf s := by
  obtain ⟨h1, h2⟩ := relT_1 hr
  have e : cutR t.size t = t := cutR_stop fun h => by have := hb h; have q := bt_at t (t.size - 1 : Nat) (by omega); have q' : ((t[t.size - 1]'(by omega)).toNat : Int) = bt t (t.size - 1 : Nat) := q; omega
  rw [← h2, e]
set_option maxRecDepth 1000000 in
set_option maxHeartbeats 1000000 in
theorem trim_any (s : ByteArray) (w : World) (hs : s.size ≤ 140737488351232) :
    Calls Try.prog 26 #[.string s] w fun e w' => e = .returned (.string (trimOf s)) ∧ w' = w := by
  go_enter Try.func26, Try.ntmps26
  go_wp2
  refine wp_scope_jumpsN (fun l a' w' => w' = w ∧ ∃ (t : ByteArray) (u3 u4 u5 u6 u7 u8 u9 u10 u11 u12 u13 u14 u15 u16 u17 u18 u19 u20 u21 u22 u23 u24 u25 u26 u27 u28 : Value), a' = { tmps := #[.string t, undef, .string { data := #[] }, u3, u4, u5, u6, u7, u8, u9, u10, u11, u12, u13, u14, u15, u16, u17, u18, u19, u20, u21, u22, u23, u24, u25, u26, u27, u28, undef], defers := [] } ∧ relT s l t) (fun l a' _ => (strOf (a'.tmps.getD 0 undef))) ?_ ?_
  · go_wp2
    go_step3
    by_cases h0 : 0 < s.size
    · have hx := bt_at s 0
      go_wp2
      · go_step3
        exact ⟨rfl, _, _, _, _, _, _, _, _, _, _, _, _, _, _, _, _, _, _, _, _, _, _, _, _, _, _, _, rfl, relT_l (relT_00 s) h0 (by assumption)⟩
      · go_step3
        go_wp2
        · go_step3
          exact ⟨rfl, _, _, _, _, _, _, _, _, _, _, _, _, _, _, _, _, _, _, _, _, _, _, _, _, _, _, _, rfl, relT_r (relT_lr (relT_00 s) (fun _ => by assumption)) h0 (by assumption)⟩
        · simp only [jumps]; go_ret
          exact ⟨ret_str (relT_end (relT_lr (relT_00 s) (fun _ => by assumption)) (fun _ => by assumption)), rfl⟩
    · go_wp2
      go_step3
      go_wp2
      simp only [jumps]; go_ret
      exact ⟨ret_str (relT_end (relT_lr (relT_00 s) (fun h => absurd h h0)) (fun h => absurd h h0)), rfl⟩
  · rintro l a' w' ⟨rfl, t, u3, u4, u5, u6, u7, u8, u9, u10, u11, u12, u13, u14, u15, u16, u17, u18, u19, u20, u21, u22, u23, u24, u25, u26, u27, u28, rfl, hr⟩
    have hl : l = 0 ∨ l = 1 := by obtain ⟨_, h | h⟩ := hr <;> omega
    rcases hl with rfl | rfl
    · refine ⟨_, rfl, ?_⟩
      have ht : t.size ≤ 140737488351232 := by have := hr.1; omega
      by_cases h0 : 0 < t.size
      · have hx := bt_at t 0
        go_wp2
        · go_step3
          exact ⟨⟨rfl, _, _, _, _, _, _, _, _, _, _, _, _, _, _, _, _, _, _, _, _, _, _, _, _, _, _, _, rfl, relT_l hr h0 (by assumption)⟩, by simp [strOf, ByteArray.size_extract]; omega⟩
        · go_step3
          go_wp2
          · go_step3
            exact ⟨⟨rfl, _, _, _, _, _, _, _, _, _, _, _, _, _, _, _, _, _, _, _, _, _, _, _, _, _, _, _, rfl, relT_r (relT_lr hr (fun _ => by assumption)) h0 (by assumption)⟩, by simp [strOf, ByteArray.size_extract]; omega⟩
          · simp only [jumps]; go_ret
            exact ⟨ret_str (relT_end (relT_lr hr (fun _ => by assumption)) (fun _ => by assumption)), rfl⟩
      · go_wp2
        go_step3
        go_wp2
        simp only [jumps]; go_ret
        exact ⟨ret_str (relT_end (relT_lr hr (fun h => absurd h h0)) (fun h => absurd h h0)), rfl⟩
    · refine ⟨_, rfl, ?_⟩
      have ht : t.size ≤ 140737488351232 := by have := hr.1; omega
      by_cases h0 : 0 < t.size
      · have hx := bt_at t 0
        go_wp2
        · go_step3
          exact ⟨⟨rfl, _, _, _, _, _, _, _, _, _, _, _, _, _, _, _, _, _, _, _, _, _, _, _, _, _, _, _, rfl, relT_r hr h0 (by assumption)⟩, by simp [strOf, ByteArray.size_extract]; omega⟩
        · simp only [jumps]; go_ret
          exact ⟨ret_str (relT_end hr (fun _ => by assumption)), rfl⟩
      · go_wp2
        simp only [jumps]; go_ret
        exact ⟨ret_str (relT_end hr (fun h => absurd h h0)), rfl⟩

theorem bt_extract (s : ByteArray) (a b : Nat) (k : Int) (h0 : 0 ≤ k) (hk : k < (b : Int) - a) (hb : b ≤ s.size) :
    bt (s.extract a b) k = bt s (a + k) := by
  have h1 : k.toNat < (s.extract a b).size := by rw [ByteArray.size_extract]; omega
  have h2 : ((a : Int) + k).toNat < s.size := by omega
  have e : ((a : Int) + k).toNat = a + k.toNat := by omega
  unfold bt
  rw [dif_pos h1, dif_pos h2]
  rw [ByteArray.getElem_extract]
  simp only [e]

open Go.Proofs.Ytbnogfljakmfgaa.PFnGjTrim in
theorem left_part (s : ByteArray) (hs : s.size ≤ 140737488351232) (d : Nat) : ∀ (a k : Nat), s.size - a = d → a ≤ s.size → d < k →
    ∃ a' k', k' + d + 1 ≥ k ∧ spec_Trimmed.l0 k s a s.size = spec_Trimmed.j1 k' s (a' : Nat) s.size ∧ cutL d (s.extract a s.size) = s.extract a' s.size ∧ a' ≤ s.size := by
  induction d with
  | zero =>
    intro a k hd ha hk
    obtain ⟨k, rfl⟩ : ∃ m, k = m + 1 := ⟨k - 1, by omega⟩
    refine ⟨a, k, by omega, ?_, rfl, ha⟩
    rw [spec_Trimmed.l0.eq_def]; simp only; rw [if_neg (by omega)]
  | succ d ih =>
    intro a k hd ha hk
    obtain ⟨k, rfl⟩ : ∃ m, k = m + 1 := ⟨k - 1, by omega⟩
    have hsz : (s.extract a s.size).size = d + 1 := by rw [ByteArray.size_extract]; omega
    have hb : bt (s.extract a s.size) 0 = bt s a := by
      have := bt_extract s a s.size 0 (by omega) (by omega) (by omega)
      rw [this]; congr 1
    have hl : spec_Trimmed.l0 (k + 1) s a s.size = if bt s a ≤ 32 then spec_Trimmed.l0 k s (wrap64 ((a : Int) + 1)) s.size else spec_Trimmed.j1 k s a s.size := by
      rw [spec_Trimmed.l0.eq_def]; simp only; rw [if_pos (by omega), if_pos (by omega), if_pos (by omega)]
    have hc : cutL (d + 1) (s.extract a s.size) = if bt s a ≤ 32 then cutL d ((s.extract a s.size).extract 1 (s.extract a s.size).size) else s.extract a s.size := by
      rw [← hb]; simp only [cutL]; rw [if_pos (by omega)]
    rw [hl, hc]
    by_cases c : bt s a ≤ 32
    · rw [if_pos c, if_pos c]
      obtain ⟨a', k', h1, h2, h3, h4⟩ := ih (a + 1) k (by omega) (by omega) (by omega)
      refine ⟨a', k', by omega, ?_, ?_, h4⟩
      · rw [← h2]
        have : wrap64 ((a : Int) + 1) = ((a + 1 : Nat) : Int) := by unfold wrap64; omega
        rw [this]
      · rw [← h3, hsz, ByteArray.extract_extract]
        congr 2; omega
    · rw [if_neg c, if_neg c]
      exact ⟨a, k, by omega, rfl, rfl, ha⟩

open Go.Proofs.Ytbnogfljakmfgaa.PFnGjTrim in
theorem right_part (s : ByteArray) (hs : s.size ≤ 140737488351232) (d : Nat) : ∀ (a b k : Nat), b - a = d → a ≤ b → b ≤ s.size → d < k →
    spec_Trimmed.l1 k s a b = some (cutR d (s.extract a b)) := by
  induction d with
  | zero =>
    intro a b k hd ha hb hk
    obtain ⟨k, rfl⟩ : ∃ m, k = m + 1 := ⟨k - 1, by omega⟩
    rw [spec_Trimmed.l1.eq_def]; simp only; rw [if_neg (by omega), if_pos (by omega), if_pos (by omega), if_pos (by omega)]
    rfl
  | succ d ih =>
    intro a b k hd ha hb hk
    obtain ⟨k, rfl⟩ : ∃ m, k = m + 1 := ⟨k - 1, by omega⟩
    have hsz : (s.extract a b).size = d + 1 := by rw [ByteArray.size_extract]; omega
    have e1 : wrap64 ((b : Int) - 1) = ((b - 1 : Nat) : Int) := by unfold wrap64; omega
    have hb' : bt (s.extract a b) ((s.extract a b).size - 1 : Nat) = bt s (b - 1 : Nat) := by
      rw [bt_extract s a b _ (by omega) (by omega) (by omega)]; congr 1; omega
    have hl : spec_Trimmed.l1 (k + 1) s a b = if bt s (b - 1 : Nat) ≤ 32 then spec_Trimmed.l1 k s a (b - 1 : Nat) else some (s.extract a b) := by
      rw [spec_Trimmed.l1.eq_def]; simp only; rw [if_pos (by omega), e1, if_pos (by omega), if_pos (by omega)]
      by_cases c : bt s (b - 1 : Nat) ≤ 32
      · rw [if_pos c, if_pos c]
      · rw [if_neg c, if_neg c, if_pos (by omega), if_pos (by omega), if_pos (by omega)]
        rfl
    have hc : cutR (d + 1) (s.extract a b) = if bt s (b - 1 : Nat) ≤ 32 then cutR d ((s.extract a b).extract 0 ((s.extract a b).size - 1)) else s.extract a b := by
      rw [← hb']; simp only [cutR]; rw [if_pos (by omega)]
    rw [hl, hc]
    by_cases c : bt s (b - 1 : Nat) ≤ 32
    · rw [if_pos c, if_pos c, ih a (b - 1) k (by omega) (by omega) (by omega) (by omega)]
      rw [ByteArray.extract_extract]
      congr 3; omega
    · rw [if_neg c, if_neg c]

open Go.Proofs.Ytbnogfljakmfgaa.PFnGjTrim in
theorem trimmed_is (s : ByteArray) (hs : s.size ≤ 140737488351232) : ∃ k, spec_Trimmed.f k s = some (trimOf s) := by
  refine ⟨2 * s.size + 10, ?_⟩
  unfold spec_Trimmed.f
  obtain ⟨a', k', h1, h2, h3, h4⟩ := left_part s hs s.size 0 (2 * s.size + 10) (by omega) (by omega) (by omega)
  have e : s.extract 0 s.size = s := by simp
  rw [e] at h3
  obtain ⟨k', rfl⟩ : ∃ m, k' = m + 1 := ⟨k' - 1, by omega⟩
  have h2' : spec_Trimmed.l0 (2 * s.size + 10) s 0 s.size = _ := h2
  rw [h2', spec_Trimmed.j1.eq_def]; simp only
  rw [right_part s hs (s.size - a') a' s.size k' (by omega) (by omega) (by omega) (by omega)]
  unfold trimOf
  rw [h3]
  congr 2
  rw [ByteArray.size_extract]; omega

theorem door_any (s : ByteArray) (w : World) (hs : s.size ≤ 140737488351232) :
    Calls Try.prog 18 #[.string s] w fun e w' => e = .returned (.string (trimOf s)) ∧ w' = w := by
  go_enter Try.func18, Try.ntmps18
  go_wp2_with (go_at_call 26; refine (trim_any _ _ hs).mono ?_; rintro e w' ⟨rfl, rfl⟩)
  go_ret
  exact ⟨rfl, rfl⟩
theorem impl_any (s : ByteArray) (w : World) (hs : s.size ≤ 140737488351232) :
    Calls Try.prog 9 #[.string s] w fun e w' => e = .returned (.string (trimOf s)) ∧ w' = w := by
  go_enter Try.func9, Try.ntmps9
  go_wp2_with (go_at_call 18; refine (door_any _ _ hs).mono ?_; rintro e w' ⟨rfl, rfl⟩)
  go_ret
  exact ⟨rfl, rfl⟩
theorem law_any (s : ByteArray) (w : World) (hs : s.size ≤ 140737488351232) :
    Calls Try.prog 4 #[.string s] w fun e w' => e = .returned (.bool true) ∧ Below w.heap.size w w' := by
  obtain ⟨k, hk⟩ := trimmed_is s hs
  have HK := Lib.hid hk
  clear hk
  by_cases h : 2147483647 < s.size
  · go_enter Try.func4, Try.ntmps4
    go_wp2
    go_ret
    exact ⟨rfl, Below.refl _ _⟩
  · go_enter Try.func4, Try.ntmps4
    go_wp2_with (first | (go_at_call 9; refine (impl_any _ _ hs).mono ?_; rintro e w' ⟨rfl, rfl⟩) | (go_at_call 10; refine (Go.Proofs.Ytbnogfljakmfgaa.PFnGjTrim.spec_Trimmed.calls k s _ _ HK.out).mono ?_; rintro e w' ⟨rfl, ⟨nd, rfl⟩⟩))
    go_ret
    exact ⟨by simp, (Drawn0.step (Drawn0.refl _) nd).below⟩
end Go.Proofs.Ytbnogfljakmfgaa.TrimA
