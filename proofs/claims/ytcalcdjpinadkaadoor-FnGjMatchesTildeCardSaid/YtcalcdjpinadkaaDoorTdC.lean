/- The walk of gjson's queries at the words behind '~' (printed by gen/gentd.py). -/
import Derived.Test.YtcalcdjpinadkaaDoorTdB
set_option linter.unusedVariables false
set_option linter.unusedSimpArgs false
namespace Go.Proofs.YtcalcdjpinadkaaDoor.ResA
open Go.Proofs.YtcalcdjpinadkaaDoor.Aid Go.RowKit Go.Proofs.YtcalcdjpinadkaaDoorW.PrintWords Go.Proofs.YtcalcdjpinadkaaDoorW.PrintLast Go.Proofs.YtcalcdjpinadkaaDoorW.PrintMore Go.Proofs.YtcalcdjpinadkaaDoor.PFnGjMatchesTilde
attribute [local go_sem] run_store_float'

def opEq : ByteArray := ⟨#[61]⟩
def opNe : ByteArray := ⟨#[33, 61]⟩
def wT : ByteArray := ⟨#[126, 116, 114, 117, 101]⟩
def wF : ByteArray := ⟨#[126, 102, 97, 108, 115, 101]⟩
def wN : ByteArray := ⟨#[126, 110, 117, 108, 108]⟩
def wS : ByteArray := ⟨#[126, 42]⟩
/-- What a query asks by: two cells of its room. -/
def Qr (W : World) (A : Nat) (op wd : ByteArray) : Prop := ∃ Z, W.heap[A]? = some (.cells Z 112 (0, 0)) ∧ Z[11]? = some (.string op) ∧ Z[12]? = some (.string wd)
theorem Qr.op {W : World} {A : Nat} {op wd : ByteArray} (h : Qr W A op wd) : W.cell? ⟨A, 11, none⟩ = some (.string op) := by obtain ⟨Z, h1, h2, _⟩ := h; exact (blk_cell h1 11).trans h2
theorem Qr.wd {W : World} {A : Nat} {op wd : ByteArray} (h : Qr W A op wd) : W.cell? ⟨A, 12, none⟩ = some (.string wd) := by obtain ⟨Z, h1, _, h2⟩ := h; exact (blk_cell h1 12).trans h2
theorem Qr.lt {W : World} {A : Nat} {op wd : ByteArray} (h : Qr W A op wd) : A < W.heap.size := by obtain ⟨Z, h1, _⟩ := h; exact blk_lt h1
theorem Qr.far {W : World} {A : Nat} {op wd : ByteArray} (h : Qr W A op wd) {p : Addr} (hp : A ≠ p.block) (u : Value) : Qr (W.setCell p u) A op wd := by
  obtain ⟨Z, h1, h2⟩ := h
  exact ⟨Z, blk_far h1 hp u, h2⟩
theorem Qr.below {W W' : World} {A : Nat} {op wd : ByteArray} (h : Qr W A op wd) (k : Below W.heap.size W W') : Qr W' A op wd := by
  obtain ⟨Z, h1, h2⟩ := h
  exact ⟨Z, blk_below h1 k, h2⟩
structure Vq (w W : World) (A : Nat) (op wd : ByteArray) (t : Int) : Prop where
  bel : Below w.heap.size w W
  q : Qr W A op wd
  x : W.heap[w.heap.size]? = some (.cells #[.int .i64 t, .string ⟨#[]⟩, .string ⟨#[]⟩, .float .f64 0, .int .i64 0, .slice none 0 0] 56 (0, 0))
theorem Vq.below {w W W' : World} {A : Nat} {op wd : ByteArray} {t : Int} (h : Vq w W A op wd t) (k : Below W.heap.size W W') : Vq w W' A op wd t := ⟨below_step h.bel k, h.q.below k, blk_below h.x k⟩
theorem Vq.of {w W : World} {A : Nat} {op wd raw str : ByteArray} {k : Int} {num : Nat} (t : Int) (hA : A < w.heap.size) (hb : Below w.heap.size w W) (hq : Qr W A op wd) (hx : W.heap[w.heap.size]? = some (.cells #[.int .i64 k, .string raw, .string str, .float .f64 num, .int .i64 0, .slice none 0 0] 56 (0, 0))) :
    Vq w ((((((W.setCell ⟨w.heap.size, 0, none⟩ (.int .i64 t)).setCell ⟨w.heap.size, 1, none⟩ (.string ⟨#[]⟩)).setCell ⟨w.heap.size, 2, none⟩ (.string ⟨#[]⟩)).setCell ⟨w.heap.size, 3, none⟩ (.float .f64 0)).setCell ⟨w.heap.size, 4, none⟩ (.int .i64 0)).setCell ⟨w.heap.size, 5, none⟩ (.slice none 0 0)) A op wd t := by
  have hne : A ≠ w.heap.size := by omega
  refine ⟨?_, ?_, ?_⟩
  · exact below_set (below_set (below_set (below_set (below_set (below_set hb (Nat.le_refl _)) (Nat.le_refl _)) (Nat.le_refl _)) (Nat.le_refl _)) (Nat.le_refl _)) (Nat.le_refl _)
  · exact (((((hq.far hne _).far hne _).far hne _).far hne _).far hne _).far hne _
  · exact blk_set (blk_set (blk_set (blk_set (blk_set (blk_set hx 0 _) 1 _) 2 _) 3 _) 4 _) 5 _
set_option maxHeartbeats 8000000 in
set_option maxRecDepth 100000 in
theorem qm_true_eq (k : Int) (raw str : ByteArray) (num : Nat) (b : Bool) (h : ∀ W, ErrV W → Calls Tryd.prog 68 #[.agg #[.int .i64 k, .string raw, .string str, .float .f64 num, .int .i64 0, .slice none 0 0]] W fun e w' => e = .returned (.bool b) ∧ Below W.heap.size W w') (w : World) (A : Nat) (hq : Qr w A opEq wT) (hE : ErrV w) :
    Calls Tryd.prog 71 #[.pointer (some ⟨A, 0, none⟩), .agg #[.int .i64 k, .string raw, .string str, .float .f64 num, .int .i64 0, .slice none 0 0]] w fun e w' => e = .returned (.bool (b)) ∧ Below w.heap.size w w' := by
  have HC := Lib.hid h
  have HE := Lib.hid hE
  have HA := Lib.hid hq.lt
  obtain ⟨w0, hw0⟩ : ∃ w0, w0 = w.alloc (.cells #[.int .i64 k, .string raw, .string str, .float .f64 num, .int .i64 0, .slice none 0 0] 56) := ⟨_, rfl⟩
  have HB0 := Lib.hid (show Below w.heap.size w w0 by rw [hw0]; exact below_alloc (Below.refl _ _) _)
  have HX0 := Lib.hid (show w0.heap[w.heap.size]? = some (.cells #[.int .i64 k, .string raw, .string str, .float .f64 num, .int .i64 0, .slice none 0 0] 56 (0, 0)) by rw [hw0]; exact blk_new _ _)
  have HQ0 := Lib.hid (hq.below HB0.out)
  have q11 := HQ0.out.op
  have q12 := HQ0.out.wd
  have y0 := (blk_cell HX0.out 0).trans rfl
  have y1 := (blk_cell HX0.out 1).trans rfl
  have y2 := (blk_cell HX0.out 2).trans rfl
  have y3 := (blk_cell HX0.out 3).trans rfl
  have y4 := (blk_cell HX0.out 4).trans rfl
  have y5 := (blk_cell HX0.out 5).trans rfl
  have s0 : (⟨#[126, 116, 114, 117, 101]⟩ : ByteArray).extract 1 5 = ⟨#[116, 114, 117, 101]⟩ := by kernel_rfl
  have s1 : ((⟨#[116, 114, 117, 101]⟩ : ByteArray).toList == ([42] : List UInt8)) = false := by kernel_rfl
  have s2 : ((⟨#[116, 114, 117, 101]⟩ : ByteArray).toList == ([110, 117, 108, 108] : List UInt8)) = false := by kernel_rfl
  have s3 : ((⟨#[116, 114, 117, 101]⟩ : ByteArray).toList == ([116, 114, 117, 101] : List UInt8)) = true := by kernel_rfl
  have s4 : ((⟨#[116, 114, 117, 101]⟩ : ByteArray).toList == ([102, 97, 108, 115, 101] : List UInt8)) = false := by kernel_rfl
  clear h hq hE
  unfold opEq wT at *
  cases b
  · go_enter Tryd.func71, Tryd.ntmps71
    go_upto_region 1 with (fail)
    rw [← hw0]
    clear hw0
    go_wp2_with (first
      | (go_at_call_of 68 (Value.agg #[.int .i64 k, .string raw, .string str, .float .f64 num, .int .i64 0, .slice none 0 0]); go_loud (refine (HC.out _ (HE.out.below HB0.out)).mono ?_; rintro e w1 ⟨rfl, hb⟩; have HB := Lib.hid (below_step HB0.out hb); have HX := Lib.hid (blk_below HX0.out hb); have HQ := Lib.hid (HQ0.out.below hb); have x0 := (blk_cell HX.out 0).trans rfl; have f0 := blk_frozen HX.out 0; have x1 := (blk_cell HX.out 1).trans rfl; have f1 := blk_frozen HX.out 1; have x2 := (blk_cell HX.out 2).trans rfl; have f2 := blk_frozen HX.out 2; have x3 := (blk_cell HX.out 3).trans rfl; have f3 := blk_frozen HX.out 3; have x4 := (blk_cell HX.out 4).trans rfl; have f4 := blk_frozen HX.out 4; have x5 := (blk_cell HX.out 5).trans rfl; have f5 := blk_frozen HX.out 5; clear hb))
      | (go_at_call 66; go_loud (have V := Lib.hid (Vq.of 1 HA.out HB.out HQ.out HX.out); refine (exists_any 1 ⟨#[]⟩ ⟨#[]⟩ 0 _).mono ?_; rintro e w2 ⟨rfl, hb⟩; have V2 := Lib.hid (V.out.below hb); have q15 := V2.out.q.op; have q16 := V2.out.q.wd; have z0 := (blk_cell V2.out.x 0).trans rfl; clear hb)))
    go_ret
    exact ⟨rfl, V2.out.bel⟩
  · go_enter Tryd.func71, Tryd.ntmps71
    go_upto_region 1 with (fail)
    rw [← hw0]
    clear hw0
    go_wp2_with (first
      | (go_at_call_of 68 (Value.agg #[.int .i64 k, .string raw, .string str, .float .f64 num, .int .i64 0, .slice none 0 0]); go_loud (refine (HC.out _ (HE.out.below HB0.out)).mono ?_; rintro e w1 ⟨rfl, hb⟩; have HB := Lib.hid (below_step HB0.out hb); have HX := Lib.hid (blk_below HX0.out hb); have HQ := Lib.hid (HQ0.out.below hb); have x0 := (blk_cell HX.out 0).trans rfl; have f0 := blk_frozen HX.out 0; have x1 := (blk_cell HX.out 1).trans rfl; have f1 := blk_frozen HX.out 1; have x2 := (blk_cell HX.out 2).trans rfl; have f2 := blk_frozen HX.out 2; have x3 := (blk_cell HX.out 3).trans rfl; have f3 := blk_frozen HX.out 3; have x4 := (blk_cell HX.out 4).trans rfl; have f4 := blk_frozen HX.out 4; have x5 := (blk_cell HX.out 5).trans rfl; have f5 := blk_frozen HX.out 5; clear hb))
      | (go_at_call 66; go_loud (have V := Lib.hid (Vq.of 4 HA.out HB.out HQ.out HX.out); refine (exists_any 4 ⟨#[]⟩ ⟨#[]⟩ 0 _).mono ?_; rintro e w2 ⟨rfl, hb⟩; have V2 := Lib.hid (V.out.below hb); have q15 := V2.out.q.op; have q16 := V2.out.q.wd; have z0 := (blk_cell V2.out.x 0).trans rfl; clear hb)))
    go_ret
    exact ⟨rfl, V2.out.bel⟩
set_option maxHeartbeats 8000000 in
set_option maxRecDepth 100000 in
theorem qm_true_ne (k : Int) (raw str : ByteArray) (num : Nat) (b : Bool) (h : ∀ W, ErrV W → Calls Tryd.prog 68 #[.agg #[.int .i64 k, .string raw, .string str, .float .f64 num, .int .i64 0, .slice none 0 0]] W fun e w' => e = .returned (.bool b) ∧ Below W.heap.size W w') (w : World) (A : Nat) (hq : Qr w A opNe wT) (hE : ErrV w) :
    Calls Tryd.prog 71 #[.pointer (some ⟨A, 0, none⟩), .agg #[.int .i64 k, .string raw, .string str, .float .f64 num, .int .i64 0, .slice none 0 0]] w fun e w' => e = .returned (.bool (!b)) ∧ Below w.heap.size w w' := by
  have HC := Lib.hid h
  have HE := Lib.hid hE
  have HA := Lib.hid hq.lt
  obtain ⟨w0, hw0⟩ : ∃ w0, w0 = w.alloc (.cells #[.int .i64 k, .string raw, .string str, .float .f64 num, .int .i64 0, .slice none 0 0] 56) := ⟨_, rfl⟩
  have HB0 := Lib.hid (show Below w.heap.size w w0 by rw [hw0]; exact below_alloc (Below.refl _ _) _)
  have HX0 := Lib.hid (show w0.heap[w.heap.size]? = some (.cells #[.int .i64 k, .string raw, .string str, .float .f64 num, .int .i64 0, .slice none 0 0] 56 (0, 0)) by rw [hw0]; exact blk_new _ _)
  have HQ0 := Lib.hid (hq.below HB0.out)
  have q11 := HQ0.out.op
  have q12 := HQ0.out.wd
  have y0 := (blk_cell HX0.out 0).trans rfl
  have y1 := (blk_cell HX0.out 1).trans rfl
  have y2 := (blk_cell HX0.out 2).trans rfl
  have y3 := (blk_cell HX0.out 3).trans rfl
  have y4 := (blk_cell HX0.out 4).trans rfl
  have y5 := (blk_cell HX0.out 5).trans rfl
  have s0 : (⟨#[126, 116, 114, 117, 101]⟩ : ByteArray).extract 1 5 = ⟨#[116, 114, 117, 101]⟩ := by kernel_rfl
  have s1 : ((⟨#[116, 114, 117, 101]⟩ : ByteArray).toList == ([42] : List UInt8)) = false := by kernel_rfl
  have s2 : ((⟨#[116, 114, 117, 101]⟩ : ByteArray).toList == ([110, 117, 108, 108] : List UInt8)) = false := by kernel_rfl
  have s3 : ((⟨#[116, 114, 117, 101]⟩ : ByteArray).toList == ([116, 114, 117, 101] : List UInt8)) = true := by kernel_rfl
  have s4 : ((⟨#[116, 114, 117, 101]⟩ : ByteArray).toList == ([102, 97, 108, 115, 101] : List UInt8)) = false := by kernel_rfl
  clear h hq hE
  unfold opNe wT at *
  cases b
  · go_enter Tryd.func71, Tryd.ntmps71
    go_upto_region 1 with (fail)
    rw [← hw0]
    clear hw0
    go_wp2_with (first
      | (go_at_call_of 68 (Value.agg #[.int .i64 k, .string raw, .string str, .float .f64 num, .int .i64 0, .slice none 0 0]); go_loud (refine (HC.out _ (HE.out.below HB0.out)).mono ?_; rintro e w1 ⟨rfl, hb⟩; have HB := Lib.hid (below_step HB0.out hb); have HX := Lib.hid (blk_below HX0.out hb); have HQ := Lib.hid (HQ0.out.below hb); have x0 := (blk_cell HX.out 0).trans rfl; have f0 := blk_frozen HX.out 0; have x1 := (blk_cell HX.out 1).trans rfl; have f1 := blk_frozen HX.out 1; have x2 := (blk_cell HX.out 2).trans rfl; have f2 := blk_frozen HX.out 2; have x3 := (blk_cell HX.out 3).trans rfl; have f3 := blk_frozen HX.out 3; have x4 := (blk_cell HX.out 4).trans rfl; have f4 := blk_frozen HX.out 4; have x5 := (blk_cell HX.out 5).trans rfl; have f5 := blk_frozen HX.out 5; clear hb))
      | (go_at_call 66; go_loud (have V := Lib.hid (Vq.of 1 HA.out HB.out HQ.out HX.out); refine (exists_any 1 ⟨#[]⟩ ⟨#[]⟩ 0 _).mono ?_; rintro e w2 ⟨rfl, hb⟩; have V2 := Lib.hid (V.out.below hb); have q15 := V2.out.q.op; have q16 := V2.out.q.wd; have z0 := (blk_cell V2.out.x 0).trans rfl; clear hb)))
    go_ret
    exact ⟨rfl, V2.out.bel⟩
  · go_enter Tryd.func71, Tryd.ntmps71
    go_upto_region 1 with (fail)
    rw [← hw0]
    clear hw0
    go_wp2_with (first
      | (go_at_call_of 68 (Value.agg #[.int .i64 k, .string raw, .string str, .float .f64 num, .int .i64 0, .slice none 0 0]); go_loud (refine (HC.out _ (HE.out.below HB0.out)).mono ?_; rintro e w1 ⟨rfl, hb⟩; have HB := Lib.hid (below_step HB0.out hb); have HX := Lib.hid (blk_below HX0.out hb); have HQ := Lib.hid (HQ0.out.below hb); have x0 := (blk_cell HX.out 0).trans rfl; have f0 := blk_frozen HX.out 0; have x1 := (blk_cell HX.out 1).trans rfl; have f1 := blk_frozen HX.out 1; have x2 := (blk_cell HX.out 2).trans rfl; have f2 := blk_frozen HX.out 2; have x3 := (blk_cell HX.out 3).trans rfl; have f3 := blk_frozen HX.out 3; have x4 := (blk_cell HX.out 4).trans rfl; have f4 := blk_frozen HX.out 4; have x5 := (blk_cell HX.out 5).trans rfl; have f5 := blk_frozen HX.out 5; clear hb))
      | (go_at_call 66; go_loud (have V := Lib.hid (Vq.of 4 HA.out HB.out HQ.out HX.out); refine (exists_any 4 ⟨#[]⟩ ⟨#[]⟩ 0 _).mono ?_; rintro e w2 ⟨rfl, hb⟩; have V2 := Lib.hid (V.out.below hb); have q15 := V2.out.q.op; have q16 := V2.out.q.wd; have z0 := (blk_cell V2.out.x 0).trans rfl; clear hb)))
    go_ret
    exact ⟨rfl, V2.out.bel⟩
set_option maxHeartbeats 8000000 in
set_option maxRecDepth 100000 in
theorem qm_false_eq (k : Int) (raw str : ByteArray) (num : Nat) (b : Bool) (h : ∀ W, ErrV W → Calls Tryd.prog 69 #[.agg #[.int .i64 k, .string raw, .string str, .float .f64 num, .int .i64 0, .slice none 0 0]] W fun e w' => e = .returned (.bool b) ∧ Below W.heap.size W w') (w : World) (A : Nat) (hq : Qr w A opEq wF) (hE : ErrV w) :
    Calls Tryd.prog 71 #[.pointer (some ⟨A, 0, none⟩), .agg #[.int .i64 k, .string raw, .string str, .float .f64 num, .int .i64 0, .slice none 0 0]] w fun e w' => e = .returned (.bool (b)) ∧ Below w.heap.size w w' := by
  have HC := Lib.hid h
  have HE := Lib.hid hE
  have HA := Lib.hid hq.lt
  obtain ⟨w0, hw0⟩ : ∃ w0, w0 = w.alloc (.cells #[.int .i64 k, .string raw, .string str, .float .f64 num, .int .i64 0, .slice none 0 0] 56) := ⟨_, rfl⟩
  have HB0 := Lib.hid (show Below w.heap.size w w0 by rw [hw0]; exact below_alloc (Below.refl _ _) _)
  have HX0 := Lib.hid (show w0.heap[w.heap.size]? = some (.cells #[.int .i64 k, .string raw, .string str, .float .f64 num, .int .i64 0, .slice none 0 0] 56 (0, 0)) by rw [hw0]; exact blk_new _ _)
  have HQ0 := Lib.hid (hq.below HB0.out)
  have q11 := HQ0.out.op
  have q12 := HQ0.out.wd
  have y0 := (blk_cell HX0.out 0).trans rfl
  have y1 := (blk_cell HX0.out 1).trans rfl
  have y2 := (blk_cell HX0.out 2).trans rfl
  have y3 := (blk_cell HX0.out 3).trans rfl
  have y4 := (blk_cell HX0.out 4).trans rfl
  have y5 := (blk_cell HX0.out 5).trans rfl
  have s0 : (⟨#[126, 102, 97, 108, 115, 101]⟩ : ByteArray).extract 1 6 = ⟨#[102, 97, 108, 115, 101]⟩ := by kernel_rfl
  have s1 : ((⟨#[102, 97, 108, 115, 101]⟩ : ByteArray).toList == ([42] : List UInt8)) = false := by kernel_rfl
  have s2 : ((⟨#[102, 97, 108, 115, 101]⟩ : ByteArray).toList == ([110, 117, 108, 108] : List UInt8)) = false := by kernel_rfl
  have s3 : ((⟨#[102, 97, 108, 115, 101]⟩ : ByteArray).toList == ([116, 114, 117, 101] : List UInt8)) = false := by kernel_rfl
  have s4 : ((⟨#[102, 97, 108, 115, 101]⟩ : ByteArray).toList == ([102, 97, 108, 115, 101] : List UInt8)) = true := by kernel_rfl
  clear h hq hE
  unfold opEq wF at *
  cases b
  · go_enter Tryd.func71, Tryd.ntmps71
    go_upto_region 1 with (fail)
    rw [← hw0]
    clear hw0
    go_wp2_with (first
      | (go_at_call_of 69 (Value.agg #[.int .i64 k, .string raw, .string str, .float .f64 num, .int .i64 0, .slice none 0 0]); go_loud (refine (HC.out _ (HE.out.below HB0.out)).mono ?_; rintro e w1 ⟨rfl, hb⟩; have HB := Lib.hid (below_step HB0.out hb); have HX := Lib.hid (blk_below HX0.out hb); have HQ := Lib.hid (HQ0.out.below hb); have x0 := (blk_cell HX.out 0).trans rfl; have f0 := blk_frozen HX.out 0; have x1 := (blk_cell HX.out 1).trans rfl; have f1 := blk_frozen HX.out 1; have x2 := (blk_cell HX.out 2).trans rfl; have f2 := blk_frozen HX.out 2; have x3 := (blk_cell HX.out 3).trans rfl; have f3 := blk_frozen HX.out 3; have x4 := (blk_cell HX.out 4).trans rfl; have f4 := blk_frozen HX.out 4; have x5 := (blk_cell HX.out 5).trans rfl; have f5 := blk_frozen HX.out 5; clear hb))
      | (go_at_call 66; go_loud (have V := Lib.hid (Vq.of 1 HA.out HB.out HQ.out HX.out); refine (exists_any 1 ⟨#[]⟩ ⟨#[]⟩ 0 _).mono ?_; rintro e w2 ⟨rfl, hb⟩; have V2 := Lib.hid (V.out.below hb); have q15 := V2.out.q.op; have q16 := V2.out.q.wd; have z0 := (blk_cell V2.out.x 0).trans rfl; clear hb)))
    go_ret
    exact ⟨rfl, V2.out.bel⟩
  · go_enter Tryd.func71, Tryd.ntmps71
    go_upto_region 1 with (fail)
    rw [← hw0]
    clear hw0
    go_wp2_with (first
      | (go_at_call_of 69 (Value.agg #[.int .i64 k, .string raw, .string str, .float .f64 num, .int .i64 0, .slice none 0 0]); go_loud (refine (HC.out _ (HE.out.below HB0.out)).mono ?_; rintro e w1 ⟨rfl, hb⟩; have HB := Lib.hid (below_step HB0.out hb); have HX := Lib.hid (blk_below HX0.out hb); have HQ := Lib.hid (HQ0.out.below hb); have x0 := (blk_cell HX.out 0).trans rfl; have f0 := blk_frozen HX.out 0; have x1 := (blk_cell HX.out 1).trans rfl; have f1 := blk_frozen HX.out 1; have x2 := (blk_cell HX.out 2).trans rfl; have f2 := blk_frozen HX.out 2; have x3 := (blk_cell HX.out 3).trans rfl; have f3 := blk_frozen HX.out 3; have x4 := (blk_cell HX.out 4).trans rfl; have f4 := blk_frozen HX.out 4; have x5 := (blk_cell HX.out 5).trans rfl; have f5 := blk_frozen HX.out 5; clear hb))
      | (go_at_call 66; go_loud (have V := Lib.hid (Vq.of 4 HA.out HB.out HQ.out HX.out); refine (exists_any 4 ⟨#[]⟩ ⟨#[]⟩ 0 _).mono ?_; rintro e w2 ⟨rfl, hb⟩; have V2 := Lib.hid (V.out.below hb); have q15 := V2.out.q.op; have q16 := V2.out.q.wd; have z0 := (blk_cell V2.out.x 0).trans rfl; clear hb)))
    go_ret
    exact ⟨rfl, V2.out.bel⟩
set_option maxHeartbeats 8000000 in
set_option maxRecDepth 100000 in
theorem qm_false_ne (k : Int) (raw str : ByteArray) (num : Nat) (b : Bool) (h : ∀ W, ErrV W → Calls Tryd.prog 69 #[.agg #[.int .i64 k, .string raw, .string str, .float .f64 num, .int .i64 0, .slice none 0 0]] W fun e w' => e = .returned (.bool b) ∧ Below W.heap.size W w') (w : World) (A : Nat) (hq : Qr w A opNe wF) (hE : ErrV w) :
    Calls Tryd.prog 71 #[.pointer (some ⟨A, 0, none⟩), .agg #[.int .i64 k, .string raw, .string str, .float .f64 num, .int .i64 0, .slice none 0 0]] w fun e w' => e = .returned (.bool (!b)) ∧ Below w.heap.size w w' := by
  have HC := Lib.hid h
  have HE := Lib.hid hE
  have HA := Lib.hid hq.lt
  obtain ⟨w0, hw0⟩ : ∃ w0, w0 = w.alloc (.cells #[.int .i64 k, .string raw, .string str, .float .f64 num, .int .i64 0, .slice none 0 0] 56) := ⟨_, rfl⟩
  have HB0 := Lib.hid (show Below w.heap.size w w0 by rw [hw0]; exact below_alloc (Below.refl _ _) _)
  have HX0 := Lib.hid (show w0.heap[w.heap.size]? = some (.cells #[.int .i64 k, .string raw, .string str, .float .f64 num, .int .i64 0, .slice none 0 0] 56 (0, 0)) by rw [hw0]; exact blk_new _ _)
  have HQ0 := Lib.hid (hq.below HB0.out)
  have q11 := HQ0.out.op
  have q12 := HQ0.out.wd
  have y0 := (blk_cell HX0.out 0).trans rfl
  have y1 := (blk_cell HX0.out 1).trans rfl
  have y2 := (blk_cell HX0.out 2).trans rfl
  have y3 := (blk_cell HX0.out 3).trans rfl
  have y4 := (blk_cell HX0.out 4).trans rfl
  have y5 := (blk_cell HX0.out 5).trans rfl
  have s0 : (⟨#[126, 102, 97, 108, 115, 101]⟩ : ByteArray).extract 1 6 = ⟨#[102, 97, 108, 115, 101]⟩ := by kernel_rfl
  have s1 : ((⟨#[102, 97, 108, 115, 101]⟩ : ByteArray).toList == ([42] : List UInt8)) = false := by kernel_rfl
  have s2 : ((⟨#[102, 97, 108, 115, 101]⟩ : ByteArray).toList == ([110, 117, 108, 108] : List UInt8)) = false := by kernel_rfl
  have s3 : ((⟨#[102, 97, 108, 115, 101]⟩ : ByteArray).toList == ([116, 114, 117, 101] : List UInt8)) = false := by kernel_rfl
  have s4 : ((⟨#[102, 97, 108, 115, 101]⟩ : ByteArray).toList == ([102, 97, 108, 115, 101] : List UInt8)) = true := by kernel_rfl
  clear h hq hE
  unfold opNe wF at *
  cases b
  · go_enter Tryd.func71, Tryd.ntmps71
    go_upto_region 1 with (fail)
    rw [← hw0]
    clear hw0
    go_wp2_with (first
      | (go_at_call_of 69 (Value.agg #[.int .i64 k, .string raw, .string str, .float .f64 num, .int .i64 0, .slice none 0 0]); go_loud (refine (HC.out _ (HE.out.below HB0.out)).mono ?_; rintro e w1 ⟨rfl, hb⟩; have HB := Lib.hid (below_step HB0.out hb); have HX := Lib.hid (blk_below HX0.out hb); have HQ := Lib.hid (HQ0.out.below hb); have x0 := (blk_cell HX.out 0).trans rfl; have f0 := blk_frozen HX.out 0; have x1 := (blk_cell HX.out 1).trans rfl; have f1 := blk_frozen HX.out 1; have x2 := (blk_cell HX.out 2).trans rfl; have f2 := blk_frozen HX.out 2; have x3 := (blk_cell HX.out 3).trans rfl; have f3 := blk_frozen HX.out 3; have x4 := (blk_cell HX.out 4).trans rfl; have f4 := blk_frozen HX.out 4; have x5 := (blk_cell HX.out 5).trans rfl; have f5 := blk_frozen HX.out 5; clear hb))
      | (go_at_call 66; go_loud (have V := Lib.hid (Vq.of 1 HA.out HB.out HQ.out HX.out); refine (exists_any 1 ⟨#[]⟩ ⟨#[]⟩ 0 _).mono ?_; rintro e w2 ⟨rfl, hb⟩; have V2 := Lib.hid (V.out.below hb); have q15 := V2.out.q.op; have q16 := V2.out.q.wd; have z0 := (blk_cell V2.out.x 0).trans rfl; clear hb)))
    go_ret
    exact ⟨rfl, V2.out.bel⟩
  · go_enter Tryd.func71, Tryd.ntmps71
    go_upto_region 1 with (fail)
    rw [← hw0]
    clear hw0
    go_wp2_with (first
      | (go_at_call_of 69 (Value.agg #[.int .i64 k, .string raw, .string str, .float .f64 num, .int .i64 0, .slice none 0 0]); go_loud (refine (HC.out _ (HE.out.below HB0.out)).mono ?_; rintro e w1 ⟨rfl, hb⟩; have HB := Lib.hid (below_step HB0.out hb); have HX := Lib.hid (blk_below HX0.out hb); have HQ := Lib.hid (HQ0.out.below hb); have x0 := (blk_cell HX.out 0).trans rfl; have f0 := blk_frozen HX.out 0; have x1 := (blk_cell HX.out 1).trans rfl; have f1 := blk_frozen HX.out 1; have x2 := (blk_cell HX.out 2).trans rfl; have f2 := blk_frozen HX.out 2; have x3 := (blk_cell HX.out 3).trans rfl; have f3 := blk_frozen HX.out 3; have x4 := (blk_cell HX.out 4).trans rfl; have f4 := blk_frozen HX.out 4; have x5 := (blk_cell HX.out 5).trans rfl; have f5 := blk_frozen HX.out 5; clear hb))
      | (go_at_call 66; go_loud (have V := Lib.hid (Vq.of 4 HA.out HB.out HQ.out HX.out); refine (exists_any 4 ⟨#[]⟩ ⟨#[]⟩ 0 _).mono ?_; rintro e w2 ⟨rfl, hb⟩; have V2 := Lib.hid (V.out.below hb); have q15 := V2.out.q.op; have q16 := V2.out.q.wd; have z0 := (blk_cell V2.out.x 0).trans rfl; clear hb)))
    go_ret
    exact ⟨rfl, V2.out.bel⟩
set_option maxHeartbeats 8000000 in
set_option maxRecDepth 100000 in
theorem qm_null_eq (k : Int) (raw str : ByteArray) (num : Nat) (b : Bool) (h : ∀ W, Calls Tryd.prog 70 #[.agg #[.int .i64 k, .string raw, .string str, .float .f64 num, .int .i64 0, .slice none 0 0]] W fun e w' => e = .returned (.bool b) ∧ Below W.heap.size W w') (w : World) (A : Nat) (hq : Qr w A opEq wN) :
    Calls Tryd.prog 71 #[.pointer (some ⟨A, 0, none⟩), .agg #[.int .i64 k, .string raw, .string str, .float .f64 num, .int .i64 0, .slice none 0 0]] w fun e w' => e = .returned (.bool (b)) ∧ Below w.heap.size w w' := by
  have HC := Lib.hid h
  have HA := Lib.hid hq.lt
  obtain ⟨w0, hw0⟩ : ∃ w0, w0 = w.alloc (.cells #[.int .i64 k, .string raw, .string str, .float .f64 num, .int .i64 0, .slice none 0 0] 56) := ⟨_, rfl⟩
  have HB0 := Lib.hid (show Below w.heap.size w w0 by rw [hw0]; exact below_alloc (Below.refl _ _) _)
  have HX0 := Lib.hid (show w0.heap[w.heap.size]? = some (.cells #[.int .i64 k, .string raw, .string str, .float .f64 num, .int .i64 0, .slice none 0 0] 56 (0, 0)) by rw [hw0]; exact blk_new _ _)
  have HQ0 := Lib.hid (hq.below HB0.out)
  have q11 := HQ0.out.op
  have q12 := HQ0.out.wd
  have y0 := (blk_cell HX0.out 0).trans rfl
  have y1 := (blk_cell HX0.out 1).trans rfl
  have y2 := (blk_cell HX0.out 2).trans rfl
  have y3 := (blk_cell HX0.out 3).trans rfl
  have y4 := (blk_cell HX0.out 4).trans rfl
  have y5 := (blk_cell HX0.out 5).trans rfl
  have s0 : (⟨#[126, 110, 117, 108, 108]⟩ : ByteArray).extract 1 5 = ⟨#[110, 117, 108, 108]⟩ := by kernel_rfl
  have s1 : ((⟨#[110, 117, 108, 108]⟩ : ByteArray).toList == ([42] : List UInt8)) = false := by kernel_rfl
  have s2 : ((⟨#[110, 117, 108, 108]⟩ : ByteArray).toList == ([110, 117, 108, 108] : List UInt8)) = true := by kernel_rfl
  have s3 : ((⟨#[110, 117, 108, 108]⟩ : ByteArray).toList == ([116, 114, 117, 101] : List UInt8)) = false := by kernel_rfl
  have s4 : ((⟨#[110, 117, 108, 108]⟩ : ByteArray).toList == ([102, 97, 108, 115, 101] : List UInt8)) = false := by kernel_rfl
  clear h hq
  unfold opEq wN at *
  cases b
  · go_enter Tryd.func71, Tryd.ntmps71
    go_upto_region 1 with (fail)
    rw [← hw0]
    clear hw0
    go_wp2_with (first
      | (go_at_call_of 70 (Value.agg #[.int .i64 k, .string raw, .string str, .float .f64 num, .int .i64 0, .slice none 0 0]); go_loud (refine (HC.out _).mono ?_; rintro e w1 ⟨rfl, hb⟩; have HB := Lib.hid (below_step HB0.out hb); have HX := Lib.hid (blk_below HX0.out hb); have HQ := Lib.hid (HQ0.out.below hb); have x0 := (blk_cell HX.out 0).trans rfl; have f0 := blk_frozen HX.out 0; have x1 := (blk_cell HX.out 1).trans rfl; have f1 := blk_frozen HX.out 1; have x2 := (blk_cell HX.out 2).trans rfl; have f2 := blk_frozen HX.out 2; have x3 := (blk_cell HX.out 3).trans rfl; have f3 := blk_frozen HX.out 3; have x4 := (blk_cell HX.out 4).trans rfl; have f4 := blk_frozen HX.out 4; have x5 := (blk_cell HX.out 5).trans rfl; have f5 := blk_frozen HX.out 5; clear hb))
      | (go_at_call 66; go_loud (have V := Lib.hid (Vq.of 1 HA.out HB.out HQ.out HX.out); refine (exists_any 1 ⟨#[]⟩ ⟨#[]⟩ 0 _).mono ?_; rintro e w2 ⟨rfl, hb⟩; have V2 := Lib.hid (V.out.below hb); have q15 := V2.out.q.op; have q16 := V2.out.q.wd; have z0 := (blk_cell V2.out.x 0).trans rfl; clear hb)))
    go_ret
    exact ⟨rfl, V2.out.bel⟩
  · go_enter Tryd.func71, Tryd.ntmps71
    go_upto_region 1 with (fail)
    rw [← hw0]
    clear hw0
    go_wp2_with (first
      | (go_at_call_of 70 (Value.agg #[.int .i64 k, .string raw, .string str, .float .f64 num, .int .i64 0, .slice none 0 0]); go_loud (refine (HC.out _).mono ?_; rintro e w1 ⟨rfl, hb⟩; have HB := Lib.hid (below_step HB0.out hb); have HX := Lib.hid (blk_below HX0.out hb); have HQ := Lib.hid (HQ0.out.below hb); have x0 := (blk_cell HX.out 0).trans rfl; have f0 := blk_frozen HX.out 0; have x1 := (blk_cell HX.out 1).trans rfl; have f1 := blk_frozen HX.out 1; have x2 := (blk_cell HX.out 2).trans rfl; have f2 := blk_frozen HX.out 2; have x3 := (blk_cell HX.out 3).trans rfl; have f3 := blk_frozen HX.out 3; have x4 := (blk_cell HX.out 4).trans rfl; have f4 := blk_frozen HX.out 4; have x5 := (blk_cell HX.out 5).trans rfl; have f5 := blk_frozen HX.out 5; clear hb))
      | (go_at_call 66; go_loud (have V := Lib.hid (Vq.of 4 HA.out HB.out HQ.out HX.out); refine (exists_any 4 ⟨#[]⟩ ⟨#[]⟩ 0 _).mono ?_; rintro e w2 ⟨rfl, hb⟩; have V2 := Lib.hid (V.out.below hb); have q15 := V2.out.q.op; have q16 := V2.out.q.wd; have z0 := (blk_cell V2.out.x 0).trans rfl; clear hb)))
    go_ret
    exact ⟨rfl, V2.out.bel⟩
set_option maxHeartbeats 8000000 in
set_option maxRecDepth 100000 in
theorem qm_null_ne (k : Int) (raw str : ByteArray) (num : Nat) (b : Bool) (h : ∀ W, Calls Tryd.prog 70 #[.agg #[.int .i64 k, .string raw, .string str, .float .f64 num, .int .i64 0, .slice none 0 0]] W fun e w' => e = .returned (.bool b) ∧ Below W.heap.size W w') (w : World) (A : Nat) (hq : Qr w A opNe wN) :
    Calls Tryd.prog 71 #[.pointer (some ⟨A, 0, none⟩), .agg #[.int .i64 k, .string raw, .string str, .float .f64 num, .int .i64 0, .slice none 0 0]] w fun e w' => e = .returned (.bool (!b)) ∧ Below w.heap.size w w' := by
  have HC := Lib.hid h
  have HA := Lib.hid hq.lt
  obtain ⟨w0, hw0⟩ : ∃ w0, w0 = w.alloc (.cells #[.int .i64 k, .string raw, .string str, .float .f64 num, .int .i64 0, .slice none 0 0] 56) := ⟨_, rfl⟩
  have HB0 := Lib.hid (show Below w.heap.size w w0 by rw [hw0]; exact below_alloc (Below.refl _ _) _)
  have HX0 := Lib.hid (show w0.heap[w.heap.size]? = some (.cells #[.int .i64 k, .string raw, .string str, .float .f64 num, .int .i64 0, .slice none 0 0] 56 (0, 0)) by rw [hw0]; exact blk_new _ _)
  have HQ0 := Lib.hid (hq.below HB0.out)
  have q11 := HQ0.out.op
  have q12 := HQ0.out.wd
  have y0 := (blk_cell HX0.out 0).trans rfl
  have y1 := (blk_cell HX0.out 1).trans rfl
  have y2 := (blk_cell HX0.out 2).trans rfl
  have y3 := (blk_cell HX0.out 3).trans rfl
  have y4 := (blk_cell HX0.out 4).trans rfl
  have y5 := (blk_cell HX0.out 5).trans rfl
  have s0 : (⟨#[126, 110, 117, 108, 108]⟩ : ByteArray).extract 1 5 = ⟨#[110, 117, 108, 108]⟩ := by kernel_rfl
  have s1 : ((⟨#[110, 117, 108, 108]⟩ : ByteArray).toList == ([42] : List UInt8)) = false := by kernel_rfl
  have s2 : ((⟨#[110, 117, 108, 108]⟩ : ByteArray).toList == ([110, 117, 108, 108] : List UInt8)) = true := by kernel_rfl
  have s3 : ((⟨#[110, 117, 108, 108]⟩ : ByteArray).toList == ([116, 114, 117, 101] : List UInt8)) = false := by kernel_rfl
  have s4 : ((⟨#[110, 117, 108, 108]⟩ : ByteArray).toList == ([102, 97, 108, 115, 101] : List UInt8)) = false := by kernel_rfl
  clear h hq
  unfold opNe wN at *
  cases b
  · go_enter Tryd.func71, Tryd.ntmps71
    go_upto_region 1 with (fail)
    rw [← hw0]
    clear hw0
    go_wp2_with (first
      | (go_at_call_of 70 (Value.agg #[.int .i64 k, .string raw, .string str, .float .f64 num, .int .i64 0, .slice none 0 0]); go_loud (refine (HC.out _).mono ?_; rintro e w1 ⟨rfl, hb⟩; have HB := Lib.hid (below_step HB0.out hb); have HX := Lib.hid (blk_below HX0.out hb); have HQ := Lib.hid (HQ0.out.below hb); have x0 := (blk_cell HX.out 0).trans rfl; have f0 := blk_frozen HX.out 0; have x1 := (blk_cell HX.out 1).trans rfl; have f1 := blk_frozen HX.out 1; have x2 := (blk_cell HX.out 2).trans rfl; have f2 := blk_frozen HX.out 2; have x3 := (blk_cell HX.out 3).trans rfl; have f3 := blk_frozen HX.out 3; have x4 := (blk_cell HX.out 4).trans rfl; have f4 := blk_frozen HX.out 4; have x5 := (blk_cell HX.out 5).trans rfl; have f5 := blk_frozen HX.out 5; clear hb))
      | (go_at_call 66; go_loud (have V := Lib.hid (Vq.of 1 HA.out HB.out HQ.out HX.out); refine (exists_any 1 ⟨#[]⟩ ⟨#[]⟩ 0 _).mono ?_; rintro e w2 ⟨rfl, hb⟩; have V2 := Lib.hid (V.out.below hb); have q15 := V2.out.q.op; have q16 := V2.out.q.wd; have z0 := (blk_cell V2.out.x 0).trans rfl; clear hb)))
    go_ret
    exact ⟨rfl, V2.out.bel⟩
  · go_enter Tryd.func71, Tryd.ntmps71
    go_upto_region 1 with (fail)
    rw [← hw0]
    clear hw0
    go_wp2_with (first
      | (go_at_call_of 70 (Value.agg #[.int .i64 k, .string raw, .string str, .float .f64 num, .int .i64 0, .slice none 0 0]); go_loud (refine (HC.out _).mono ?_; rintro e w1 ⟨rfl, hb⟩; have HB := Lib.hid (below_step HB0.out hb); have HX := Lib.hid (blk_below HX0.out hb); have HQ := Lib.hid (HQ0.out.below hb); have x0 := (blk_cell HX.out 0).trans rfl; have f0 := blk_frozen HX.out 0; have x1 := (blk_cell HX.out 1).trans rfl; have f1 := blk_frozen HX.out 1; have x2 := (blk_cell HX.out 2).trans rfl; have f2 := blk_frozen HX.out 2; have x3 := (blk_cell HX.out 3).trans rfl; have f3 := blk_frozen HX.out 3; have x4 := (blk_cell HX.out 4).trans rfl; have f4 := blk_frozen HX.out 4; have x5 := (blk_cell HX.out 5).trans rfl; have f5 := blk_frozen HX.out 5; clear hb))
      | (go_at_call 66; go_loud (have V := Lib.hid (Vq.of 4 HA.out HB.out HQ.out HX.out); refine (exists_any 4 ⟨#[]⟩ ⟨#[]⟩ 0 _).mono ?_; rintro e w2 ⟨rfl, hb⟩; have V2 := Lib.hid (V.out.below hb); have q15 := V2.out.q.op; have q16 := V2.out.q.wd; have z0 := (blk_cell V2.out.x 0).trans rfl; clear hb)))
    go_ret
    exact ⟨rfl, V2.out.bel⟩
set_option maxHeartbeats 8000000 in
set_option maxRecDepth 100000 in
theorem qm_star_eq (k : Int) (raw str : ByteArray) (num : Nat) (b : Bool) (h : ∀ W, Calls Tryd.prog 66 #[.agg #[.int .i64 k, .string raw, .string str, .float .f64 num, .int .i64 0, .slice none 0 0]] W fun e w' => e = .returned (.bool b) ∧ Below W.heap.size W w') (w : World) (A : Nat) (hq : Qr w A opEq wS) :
    Calls Tryd.prog 71 #[.pointer (some ⟨A, 0, none⟩), .agg #[.int .i64 k, .string raw, .string str, .float .f64 num, .int .i64 0, .slice none 0 0]] w fun e w' => e = .returned (.bool (b)) ∧ Below w.heap.size w w' := by
  have HC := Lib.hid h
  have HA := Lib.hid hq.lt
  obtain ⟨w0, hw0⟩ : ∃ w0, w0 = w.alloc (.cells #[.int .i64 k, .string raw, .string str, .float .f64 num, .int .i64 0, .slice none 0 0] 56) := ⟨_, rfl⟩
  have HB0 := Lib.hid (show Below w.heap.size w w0 by rw [hw0]; exact below_alloc (Below.refl _ _) _)
  have HX0 := Lib.hid (show w0.heap[w.heap.size]? = some (.cells #[.int .i64 k, .string raw, .string str, .float .f64 num, .int .i64 0, .slice none 0 0] 56 (0, 0)) by rw [hw0]; exact blk_new _ _)
  have HQ0 := Lib.hid (hq.below HB0.out)
  have q11 := HQ0.out.op
  have q12 := HQ0.out.wd
  have y0 := (blk_cell HX0.out 0).trans rfl
  have y1 := (blk_cell HX0.out 1).trans rfl
  have y2 := (blk_cell HX0.out 2).trans rfl
  have y3 := (blk_cell HX0.out 3).trans rfl
  have y4 := (blk_cell HX0.out 4).trans rfl
  have y5 := (blk_cell HX0.out 5).trans rfl
  have s0 : (⟨#[126, 42]⟩ : ByteArray).extract 1 2 = ⟨#[42]⟩ := by kernel_rfl
  have s1 : ((⟨#[42]⟩ : ByteArray).toList == ([42] : List UInt8)) = true := by kernel_rfl
  have s2 : ((⟨#[42]⟩ : ByteArray).toList == ([110, 117, 108, 108] : List UInt8)) = false := by kernel_rfl
  have s3 : ((⟨#[42]⟩ : ByteArray).toList == ([116, 114, 117, 101] : List UInt8)) = false := by kernel_rfl
  have s4 : ((⟨#[42]⟩ : ByteArray).toList == ([102, 97, 108, 115, 101] : List UInt8)) = false := by kernel_rfl
  clear h hq
  unfold opEq wS at *
  cases b
  · go_enter Tryd.func71, Tryd.ntmps71
    go_upto_region 1 with (fail)
    rw [← hw0]
    clear hw0
    go_wp2_with (first
      | (go_at_call_of 66 (Value.agg #[.int .i64 k, .string raw, .string str, .float .f64 num, .int .i64 0, .slice none 0 0]); go_loud (refine (HC.out _).mono ?_; rintro e w1 ⟨rfl, hb⟩; have HB := Lib.hid (below_step HB0.out hb); have HX := Lib.hid (blk_below HX0.out hb); have HQ := Lib.hid (HQ0.out.below hb); have x0 := (blk_cell HX.out 0).trans rfl; have f0 := blk_frozen HX.out 0; have x1 := (blk_cell HX.out 1).trans rfl; have f1 := blk_frozen HX.out 1; have x2 := (blk_cell HX.out 2).trans rfl; have f2 := blk_frozen HX.out 2; have x3 := (blk_cell HX.out 3).trans rfl; have f3 := blk_frozen HX.out 3; have x4 := (blk_cell HX.out 4).trans rfl; have f4 := blk_frozen HX.out 4; have x5 := (blk_cell HX.out 5).trans rfl; have f5 := blk_frozen HX.out 5; clear hb))
      | (go_at_call 66; go_loud (have V := Lib.hid (Vq.of 1 HA.out HB.out HQ.out HX.out); refine (exists_any 1 ⟨#[]⟩ ⟨#[]⟩ 0 _).mono ?_; rintro e w2 ⟨rfl, hb⟩; have V2 := Lib.hid (V.out.below hb); have q15 := V2.out.q.op; have q16 := V2.out.q.wd; have z0 := (blk_cell V2.out.x 0).trans rfl; clear hb)))
    go_ret
    exact ⟨rfl, V2.out.bel⟩
  · go_enter Tryd.func71, Tryd.ntmps71
    go_upto_region 1 with (fail)
    rw [← hw0]
    clear hw0
    go_wp2_with (first
      | (go_at_call_of 66 (Value.agg #[.int .i64 k, .string raw, .string str, .float .f64 num, .int .i64 0, .slice none 0 0]); go_loud (refine (HC.out _).mono ?_; rintro e w1 ⟨rfl, hb⟩; have HB := Lib.hid (below_step HB0.out hb); have HX := Lib.hid (blk_below HX0.out hb); have HQ := Lib.hid (HQ0.out.below hb); have x0 := (blk_cell HX.out 0).trans rfl; have f0 := blk_frozen HX.out 0; have x1 := (blk_cell HX.out 1).trans rfl; have f1 := blk_frozen HX.out 1; have x2 := (blk_cell HX.out 2).trans rfl; have f2 := blk_frozen HX.out 2; have x3 := (blk_cell HX.out 3).trans rfl; have f3 := blk_frozen HX.out 3; have x4 := (blk_cell HX.out 4).trans rfl; have f4 := blk_frozen HX.out 4; have x5 := (blk_cell HX.out 5).trans rfl; have f5 := blk_frozen HX.out 5; clear hb))
      | (go_at_call 66; go_loud (have V := Lib.hid (Vq.of 4 HA.out HB.out HQ.out HX.out); refine (exists_any 4 ⟨#[]⟩ ⟨#[]⟩ 0 _).mono ?_; rintro e w2 ⟨rfl, hb⟩; have V2 := Lib.hid (V.out.below hb); have q15 := V2.out.q.op; have q16 := V2.out.q.wd; have z0 := (blk_cell V2.out.x 0).trans rfl; clear hb)))
    go_ret
    exact ⟨rfl, V2.out.bel⟩
set_option maxHeartbeats 8000000 in
set_option maxRecDepth 100000 in
theorem qm_star_ne (k : Int) (raw str : ByteArray) (num : Nat) (b : Bool) (h : ∀ W, Calls Tryd.prog 66 #[.agg #[.int .i64 k, .string raw, .string str, .float .f64 num, .int .i64 0, .slice none 0 0]] W fun e w' => e = .returned (.bool b) ∧ Below W.heap.size W w') (w : World) (A : Nat) (hq : Qr w A opNe wS) :
    Calls Tryd.prog 71 #[.pointer (some ⟨A, 0, none⟩), .agg #[.int .i64 k, .string raw, .string str, .float .f64 num, .int .i64 0, .slice none 0 0]] w fun e w' => e = .returned (.bool (!b)) ∧ Below w.heap.size w w' := by
  have HC := Lib.hid h
  have HA := Lib.hid hq.lt
  obtain ⟨w0, hw0⟩ : ∃ w0, w0 = w.alloc (.cells #[.int .i64 k, .string raw, .string str, .float .f64 num, .int .i64 0, .slice none 0 0] 56) := ⟨_, rfl⟩
  have HB0 := Lib.hid (show Below w.heap.size w w0 by rw [hw0]; exact below_alloc (Below.refl _ _) _)
  have HX0 := Lib.hid (show w0.heap[w.heap.size]? = some (.cells #[.int .i64 k, .string raw, .string str, .float .f64 num, .int .i64 0, .slice none 0 0] 56 (0, 0)) by rw [hw0]; exact blk_new _ _)
  have HQ0 := Lib.hid (hq.below HB0.out)
  have q11 := HQ0.out.op
  have q12 := HQ0.out.wd
  have y0 := (blk_cell HX0.out 0).trans rfl
  have y1 := (blk_cell HX0.out 1).trans rfl
  have y2 := (blk_cell HX0.out 2).trans rfl
  have y3 := (blk_cell HX0.out 3).trans rfl
  have y4 := (blk_cell HX0.out 4).trans rfl
  have y5 := (blk_cell HX0.out 5).trans rfl
  have s0 : (⟨#[126, 42]⟩ : ByteArray).extract 1 2 = ⟨#[42]⟩ := by kernel_rfl
  have s1 : ((⟨#[42]⟩ : ByteArray).toList == ([42] : List UInt8)) = true := by kernel_rfl
  have s2 : ((⟨#[42]⟩ : ByteArray).toList == ([110, 117, 108, 108] : List UInt8)) = false := by kernel_rfl
  have s3 : ((⟨#[42]⟩ : ByteArray).toList == ([116, 114, 117, 101] : List UInt8)) = false := by kernel_rfl
  have s4 : ((⟨#[42]⟩ : ByteArray).toList == ([102, 97, 108, 115, 101] : List UInt8)) = false := by kernel_rfl
  clear h hq
  unfold opNe wS at *
  cases b
  · go_enter Tryd.func71, Tryd.ntmps71
    go_upto_region 1 with (fail)
    rw [← hw0]
    clear hw0
    go_wp2_with (first
      | (go_at_call_of 66 (Value.agg #[.int .i64 k, .string raw, .string str, .float .f64 num, .int .i64 0, .slice none 0 0]); go_loud (refine (HC.out _).mono ?_; rintro e w1 ⟨rfl, hb⟩; have HB := Lib.hid (below_step HB0.out hb); have HX := Lib.hid (blk_below HX0.out hb); have HQ := Lib.hid (HQ0.out.below hb); have x0 := (blk_cell HX.out 0).trans rfl; have f0 := blk_frozen HX.out 0; have x1 := (blk_cell HX.out 1).trans rfl; have f1 := blk_frozen HX.out 1; have x2 := (blk_cell HX.out 2).trans rfl; have f2 := blk_frozen HX.out 2; have x3 := (blk_cell HX.out 3).trans rfl; have f3 := blk_frozen HX.out 3; have x4 := (blk_cell HX.out 4).trans rfl; have f4 := blk_frozen HX.out 4; have x5 := (blk_cell HX.out 5).trans rfl; have f5 := blk_frozen HX.out 5; clear hb))
      | (go_at_call 66; go_loud (have V := Lib.hid (Vq.of 1 HA.out HB.out HQ.out HX.out); refine (exists_any 1 ⟨#[]⟩ ⟨#[]⟩ 0 _).mono ?_; rintro e w2 ⟨rfl, hb⟩; have V2 := Lib.hid (V.out.below hb); have q15 := V2.out.q.op; have q16 := V2.out.q.wd; have z0 := (blk_cell V2.out.x 0).trans rfl; clear hb)))
    go_ret
    exact ⟨rfl, V2.out.bel⟩
  · go_enter Tryd.func71, Tryd.ntmps71
    go_upto_region 1 with (fail)
    rw [← hw0]
    clear hw0
    go_wp2_with (first
      | (go_at_call_of 66 (Value.agg #[.int .i64 k, .string raw, .string str, .float .f64 num, .int .i64 0, .slice none 0 0]); go_loud (refine (HC.out _).mono ?_; rintro e w1 ⟨rfl, hb⟩; have HB := Lib.hid (below_step HB0.out hb); have HX := Lib.hid (blk_below HX0.out hb); have HQ := Lib.hid (HQ0.out.below hb); have x0 := (blk_cell HX.out 0).trans rfl; have f0 := blk_frozen HX.out 0; have x1 := (blk_cell HX.out 1).trans rfl; have f1 := blk_frozen HX.out 1; have x2 := (blk_cell HX.out 2).trans rfl; have f2 := blk_frozen HX.out 2; have x3 := (blk_cell HX.out 3).trans rfl; have f3 := blk_frozen HX.out 3; have x4 := (blk_cell HX.out 4).trans rfl; have f4 := blk_frozen HX.out 4; have x5 := (blk_cell HX.out 5).trans rfl; have f5 := blk_frozen HX.out 5; clear hb))
      | (go_at_call 66; go_loud (have V := Lib.hid (Vq.of 4 HA.out HB.out HQ.out HX.out); refine (exists_any 4 ⟨#[]⟩ ⟨#[]⟩ 0 _).mono ?_; rintro e w2 ⟨rfl, hb⟩; have V2 := Lib.hid (V.out.below hb); have q15 := V2.out.q.op; have q16 := V2.out.q.wd; have z0 := (blk_cell V2.out.x 0).trans rfl; clear hb)))
    go_ret
    exact ⟨rfl, V2.out.bel⟩
end Go.Proofs.YtcalcdjpinadkaaDoor.ResA
