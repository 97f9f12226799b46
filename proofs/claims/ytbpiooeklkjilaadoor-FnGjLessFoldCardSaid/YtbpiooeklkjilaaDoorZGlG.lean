/- The walk of GjLess at two quoted texts. -/
import Derived.Test.YtbpiooeklkjilaaDoorZGlF
set_option linter.unusedVariables false
set_option linter.unusedSimpArgs false
namespace Go.Proofs.YtbpiooeklkjilaaDoor.Gl
open Go.RowKit Go.Proofs.YtbpiooeklkjilaaDoorW.PrintWords Go.Proofs.YtbpiooeklkjilaaDoorW.PrintLast Go.Proofs.YtbpiooeklkjilaaDoorW.PrintMore Go.Proofs.YtbpiooeklkjilaaDoor.Aid Go.Proofs.YtbpiooeklkjilaaDoor.J Go.Proofs.YtbpiooeklkjilaaDoor.LessPure

set_option maxHeartbeats 8000000 in
set_option maxRecDepth 100000 in
theorem gjLess_any (a b : ByteArray) (x y : L) (za zb : Nat) (ha : Qd a x za) (hb : Qd b y zb) (hla : a.size ≤ 100000) (hlb : b.size ≤ 100000) (w : World) :
    Calls Tryd.prog 5 #[.string a, .string b, .bool false] w fun e w' => e = .returned (.bool (lex (small (strOfNums x)) (small (strOfNums y)))) ∧ Below w.heap.size w w' := by
  have HA := Lib.hid (fun W => parse_any a x za ha hla W)
  have HB := Lib.hid (fun W => parse_any b y zb hb hlb W)
  have hz : (strOfNums x).size ≤ 140737488351232 := by
    have h1 := bytesOf_length (strOfNums x)
    rw [bytes_of_str _ ha.byt] at h1
    have := ha.size
    have := ha.len
    have := (qs_len x).1
    omega
  have HL := Lib.hid (fun (r r' : ByteArray) (W : World) => LessA.less3_any r (strOfNums x) 0 0 r' (strOfNums y) 0 0 W hz)
  clear ha hb hz
  go_enter Tryd.func5, Tryd.ntmps5
  go_wp2_with (first
    | (go_at_call_of 9 (Value.string a); refine (HA.out _).mono ?_; rintro e w1 ⟨⟨r1, rfl⟩, hb1⟩; have HB1 := Lib.hid hb1; clear hb1)
    | (go_at_call_of 9 (Value.string b); refine (HB.out _).mono ?_; rintro e w2 ⟨⟨r2, rfl⟩, hb2⟩; have HB2 := Lib.hid (below_then HB1.out HB1.out.size hb2); clear hb2)
    | (go_at_call 10; refine (HL.out _ _ _).mono ?_; rintro e w3 ⟨rfl, hb3⟩; have HB3 := Lib.hid (below_then HB2.out HB2.out.size hb3); clear hb3))
  go_ret
  exact ⟨rfl, HB3.out⟩
end Go.Proofs.YtbpiooeklkjilaaDoor.Gl
