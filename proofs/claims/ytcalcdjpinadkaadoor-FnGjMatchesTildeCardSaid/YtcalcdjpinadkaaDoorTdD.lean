/- The doors to gjson's queries at the words behind '~' (printed by gen/gentd2.py). -/
import Derived.Test.YtcalcdjpinadkaaDoorTdC
set_option linter.unusedVariables false
set_option linter.unusedSimpArgs false
namespace Go.Proofs.YtcalcdjpinadkaaDoor.ResA
open Go.Proofs.YtcalcdjpinadkaaDoor.Aid Go.RowKit Go.Proofs.YtcalcdjpinadkaaDoorW.PrintWords Go.Proofs.YtcalcdjpinadkaaDoorW.PrintLast Go.Proofs.YtcalcdjpinadkaaDoorW.PrintMore Go.Proofs.YtcalcdjpinadkaaDoor.PFnGjMatchesTilde
attribute [local go_sem] run_store_float'
def zQ : Value := .agg #[.string ⟨#[]⟩, .string ⟨#[]⟩, .string ⟨#[]⟩, .bool false, .bool false, .bool false, .bool false, .string ⟨#[]⟩, .bool false, .bool false, .string ⟨#[]⟩, .string ⟨#[]⟩, .string ⟨#[]⟩]
theorem Qr.mk2 (W : World) (op wd : ByteArray) : Qr (((W.alloc (.cells #[.string ⟨#[]⟩, .string ⟨#[]⟩, .string ⟨#[]⟩, .bool false, .bool false, .bool false, .bool false, .string ⟨#[]⟩, .bool false, .bool false, .string ⟨#[]⟩, .string op, .string wd] 112))) ) W.heap.size op wd :=
  ⟨_, blk_new _ _, rfl, rfl⟩
set_option maxHeartbeats 8000000 in
set_option maxRecDepth 100000 in
theorem dm_any (k : Int) (raw str op wd : ByteArray) (num : Nat) (b : Bool) (E : World → Prop) (hEb : ∀ W W', E W → Below W.heap.size W W' → E W') (h : ∀ W A, Qr W A op wd → E W → Calls Tryd.prog 71 #[.pointer (some ⟨A, 0, none⟩), .agg #[.int .i64 k, .string raw, .string str, .float .f64 num, .int .i64 0, .slice none 0 0]] W fun e w' => e = .returned (.bool b) ∧ Below W.heap.size W w') (w : World) (hE : E w) :
    Calls Tryd.prog 45 #[.agg #[.int .i64 k, .string raw, .string str, .float .f64 num, .int .i64 0, .slice none 0 0], .string op, .string wd] w fun e w' => e = .returned (.bool b) ∧ Below w.heap.size w w' := by
  have HC := Lib.hid h
  have HE := Lib.hid hE
  have HB := Lib.hid hEb
  have H0 := Lib.hid (below_alloc (below_alloc (Below.refl w.heap.size w) (.cells #[.int .i64 k, .string raw, .string str, .float .f64 num, .int .i64 0, .slice none 0 0] 56)) (.cells #[.string ⟨#[]⟩, .string ⟨#[]⟩, .string ⟨#[]⟩, .bool false, .bool false, .bool false, .bool false, .string ⟨#[]⟩, .bool false, .bool false, .string ⟨#[]⟩, .string op, .string wd] 112))
  have HQ := Lib.hid (Qr.mk2 (w.alloc (.cells #[.int .i64 k, .string raw, .string str, .float .f64 num, .int .i64 0, .slice none 0 0] 56)) op wd)
  have HZ : Hid ((w.alloc (.cells #[.int .i64 k, .string raw, .string str, .float .f64 num, .int .i64 0, .slice none 0 0] 56)).heap.size = w.heap.size + 1) := Lib.hid (by simp)
  rw [HZ.out] at HQ
  clear h hE hEb HZ
  go_enter Tryd.func45, Tryd.ntmps45
  go_wp2_with (go_at_call 71; go_loud (refine (HC.out _ _ HQ.out (HB.out _ _ HE.out H0.out)).mono ?_; rintro e w1 ⟨rfl, hb⟩; have HF := Lib.hid (below_step H0.out hb); clear hb))
  go_ret
  exact ⟨rfl, HF.out⟩
set_option maxHeartbeats 8000000 in
set_option maxRecDepth 100000 in
theorem gm_any (k : Int) (raw str op wd : ByteArray) (num : Nat) (ex b : Bool) (E : World → Prop) (hEb : ∀ W W', E W → Below W.heap.size W W' → E W') (h : ∀ W A, Qr W A op wd → E W → Calls Tryd.prog 71 #[.pointer (some ⟨A, 0, none⟩), .agg #[.int .i64 k, .string raw, .string str, .float .f64 num, .int .i64 0, .slice none 0 0]] W fun e w' => e = .returned (.bool b) ∧ Below W.heap.size W w') (w : World) (hE : E w) :
    Calls Tryd.prog 25 #[.agg #[.int .i64 k, .string raw, .string str, .float .f64 num, .bool ex], .string op, .string wd] w fun e w' => e = .returned (.bool b) ∧ Below w.heap.size w w' := by
  have HD := Lib.hid (fun W hE => dm_any k raw str op wd num b E hEb h W hE)
  have HE := Lib.hid hE
  have HB := Lib.hid hEb
  have H0 := Lib.hid (below_alloc (Below.refl w.heap.size w) (.cells #[.int .i64 k, .string raw, .string str, .float .f64 num, .bool ex] 24))
  clear h hE hEb
  go_enter Tryd.func25, Tryd.ntmps25
  go_wp2_with (first
    | (go_at_call 26; go_loud (refine (gjOf_any k raw str num ex _).mono ?_; rintro e w1 ⟨rfl, hb⟩; have H1 := Lib.hid (below_step H0.out hb); clear hb))
    | (go_at_call 45; go_loud (refine (HD.out _ (HB.out _ _ HE.out H1.out)).mono ?_; rintro e w1 ⟨rfl, hb⟩; have HF := Lib.hid (below_step H1.out hb); clear hb)))
  go_ret
  exact ⟨rfl, HF.out⟩
set_option maxHeartbeats 8000000 in
set_option maxRecDepth 100000 in
theorem dTrue_any (k : Int) (raw str r : ByteArray) (num : Nat) (b ok : Bool) (hl : Lo str r) (hp : Pb r b ok) (w : World) (hE : ErrV w) :
    Calls Tryd.prog 42 #[.agg #[.int .i64 k, .string raw, .string str, .float .f64 num, .int .i64 0, .slice none 0 0]] w fun e w' => e = .returned (.bool (trV k num b ok)) ∧ Below w.heap.size w w' := by
  have HD := Lib.hid (fun W (hE : ErrV W) => trueish_any k raw str r num b ok hl hp W hE)
  have HE := Lib.hid hE
  have H0 := Lib.hid (below_alloc (Below.refl w.heap.size w) (.cells #[.int .i64 k, .string raw, .string str, .float .f64 num, .int .i64 0, .slice none 0 0] 56))
  clear hl hE hp
  go_enter Tryd.func42, Tryd.ntmps42
  go_wp2_with (go_at_call 68; go_loud (refine (HD.out _ (HE.out.below H0.out)).mono ?_; rintro e w1 ⟨rfl, hb⟩; have HF := Lib.hid (below_step H0.out hb); clear hb))
  go_ret
  exact ⟨rfl, HF.out⟩
set_option maxHeartbeats 8000000 in
set_option maxRecDepth 100000 in
theorem gTrue_any (k : Int) (raw str r : ByteArray) (num : Nat) (ex b ok : Bool) (hl : Lo str r) (hp : Pb r b ok) (w : World) (hE : ErrV w) :
    Calls Tryd.prog 22 #[.agg #[.int .i64 k, .string raw, .string str, .float .f64 num, .bool ex]] w fun e w' => e = .returned (.bool (trV k num b ok)) ∧ Below w.heap.size w w' := by
  have HD := Lib.hid (fun W (hE : ErrV W) => dTrue_any k raw str r num b ok hl hp W hE)
  have HE := Lib.hid hE
  have H0 := Lib.hid (below_alloc (Below.refl w.heap.size w) (.cells #[.int .i64 k, .string raw, .string str, .float .f64 num, .bool ex] 24))
  clear hl hE hp
  go_enter Tryd.func22, Tryd.ntmps22
  go_wp2_with (first
    | (go_at_call 26; go_loud (refine (gjOf_any k raw str num ex _).mono ?_; rintro e w1 ⟨rfl, hb⟩; have H1 := Lib.hid (below_step H0.out hb); clear hb))
    | (go_at_call 42; go_loud (refine (HD.out _ (HE.out.below H1.out)).mono ?_; rintro e w1 ⟨rfl, hb⟩; have HF := Lib.hid (below_step H1.out hb); clear hb)))
  go_ret
  exact ⟨rfl, HF.out⟩
set_option maxHeartbeats 8000000 in
set_option maxRecDepth 100000 in
theorem dFalse_any (k : Int) (raw str r : ByteArray) (num : Nat) (b ok : Bool) (hl : Lo str r) (hp : Pb r b ok) (w : World) (hE : ErrV w) :
    Calls Tryd.prog 43 #[.agg #[.int .i64 k, .string raw, .string str, .float .f64 num, .int .i64 0, .slice none 0 0]] w fun e w' => e = .returned (.bool (faV k num b ok)) ∧ Below w.heap.size w w' := by
  have HD := Lib.hid (fun W (hE : ErrV W) => falseish_any k raw str r num b ok hl hp W hE)
  have HE := Lib.hid hE
  have H0 := Lib.hid (below_alloc (Below.refl w.heap.size w) (.cells #[.int .i64 k, .string raw, .string str, .float .f64 num, .int .i64 0, .slice none 0 0] 56))
  clear hl hE hp
  go_enter Tryd.func43, Tryd.ntmps43
  go_wp2_with (go_at_call 69; go_loud (refine (HD.out _ (HE.out.below H0.out)).mono ?_; rintro e w1 ⟨rfl, hb⟩; have HF := Lib.hid (below_step H0.out hb); clear hb))
  go_ret
  exact ⟨rfl, HF.out⟩
set_option maxHeartbeats 8000000 in
set_option maxRecDepth 100000 in
theorem gFalse_any (k : Int) (raw str r : ByteArray) (num : Nat) (ex b ok : Bool) (hl : Lo str r) (hp : Pb r b ok) (w : World) (hE : ErrV w) :
    Calls Tryd.prog 23 #[.agg #[.int .i64 k, .string raw, .string str, .float .f64 num, .bool ex]] w fun e w' => e = .returned (.bool (faV k num b ok)) ∧ Below w.heap.size w w' := by
  have HD := Lib.hid (fun W (hE : ErrV W) => dFalse_any k raw str r num b ok hl hp W hE)
  have HE := Lib.hid hE
  have H0 := Lib.hid (below_alloc (Below.refl w.heap.size w) (.cells #[.int .i64 k, .string raw, .string str, .float .f64 num, .bool ex] 24))
  clear hl hE hp
  go_enter Tryd.func23, Tryd.ntmps23
  go_wp2_with (first
    | (go_at_call 26; go_loud (refine (gjOf_any k raw str num ex _).mono ?_; rintro e w1 ⟨rfl, hb⟩; have H1 := Lib.hid (below_step H0.out hb); clear hb))
    | (go_at_call 43; go_loud (refine (HD.out _ (HE.out.below H1.out)).mono ?_; rintro e w1 ⟨rfl, hb⟩; have HF := Lib.hid (below_step H1.out hb); clear hb)))
  go_ret
  exact ⟨rfl, HF.out⟩
set_option maxHeartbeats 8000000 in
set_option maxRecDepth 100000 in
theorem dNull_any (k : Int) (raw str r : ByteArray) (num : Nat) (b ok : Bool) (hl : Lo str r) (hp : Pb r b ok) (w : World) (hE : ErrV w) :
    Calls Tryd.prog 44 #[.agg #[.int .i64 k, .string raw, .string str, .float .f64 num, .int .i64 0, .slice none 0 0]] w fun e w' => e = .returned (.bool (k == 0)) ∧ Below w.heap.size w w' := by
  have HD := Lib.hid (fun W (hE : ErrV W) => nullish_any k raw str num W)
  have HE := Lib.hid hE
  have H0 := Lib.hid (below_alloc (Below.refl w.heap.size w) (.cells #[.int .i64 k, .string raw, .string str, .float .f64 num, .int .i64 0, .slice none 0 0] 56))
  clear hl hE hp
  go_enter Tryd.func44, Tryd.ntmps44
  go_wp2_with (go_at_call 70; go_loud (refine (HD.out _ (HE.out.below H0.out)).mono ?_; rintro e w1 ⟨rfl, hb⟩; have HF := Lib.hid (below_step H0.out hb); clear hb))
  go_ret
  exact ⟨rfl, HF.out⟩
set_option maxHeartbeats 8000000 in
set_option maxRecDepth 100000 in
theorem gNull_any (k : Int) (raw str r : ByteArray) (num : Nat) (ex b ok : Bool) (hl : Lo str r) (hp : Pb r b ok) (w : World) (hE : ErrV w) :
    Calls Tryd.prog 24 #[.agg #[.int .i64 k, .string raw, .string str, .float .f64 num, .bool ex]] w fun e w' => e = .returned (.bool (k == 0)) ∧ Below w.heap.size w w' := by
  have HD := Lib.hid (fun W (hE : ErrV W) => dNull_any k raw str r num b ok hl hp W hE)
  have HE := Lib.hid hE
  have H0 := Lib.hid (below_alloc (Below.refl w.heap.size w) (.cells #[.int .i64 k, .string raw, .string str, .float .f64 num, .bool ex] 24))
  clear hl hE hp
  go_enter Tryd.func24, Tryd.ntmps24
  go_wp2_with (first
    | (go_at_call 26; go_loud (refine (gjOf_any k raw str num ex _).mono ?_; rintro e w1 ⟨rfl, hb⟩; have H1 := Lib.hid (below_step H0.out hb); clear hb))
    | (go_at_call 44; go_loud (refine (HD.out _ (HE.out.below H1.out)).mono ?_; rintro e w1 ⟨rfl, hb⟩; have HF := Lib.hid (below_step H1.out hb); clear hb)))
  go_ret
  exact ⟨rfl, HF.out⟩
end Go.Proofs.YtcalcdjpinadkaaDoor.ResA
