/- The law FnJpUnescape. -/
import Derived.Test.YtjpbjbcdobibbaaDoorUnE
set_option linter.unusedVariables false
set_option linter.unusedSimpArgs false
namespace Go.Proofs.YtjpbjbcdobibbaaDoor.J
open Go.RowKit Go.Proofs.YtjpbjbcdobibbaaDoorW.PrintWords Go.Proofs.YtjpbjbcdobibbaaDoorW.PrintLast Go.Proofs.YtjpbjbcdobibbaaDoorW.PrintMore Go.Proofs.YtjpbjbcdobibbaaDoor.Aid Go.Proofs.YtjpbjbcdobibbaaDoor.PFnJpUnescape

set_option maxHeartbeats 4000000 in
set_option maxRecDepth 100000 in
theorem lawJpUnescape_any (s : ByteArray) (room : Int) (w : World) (pt : TypeId) (pv : Value) (hG : Glob w pt pv) (hs : s.size ≤ 140737488351232) :
    Calls Tryd.prog 4 #[.string s, .int .i64 room] w fun e w' => e = .returned (.bool true) ∧ Below w.heap.size w w' := by
  by_cases c1 : 2147483647 < (s.size : Int)
  · clear hG
    go_enter Tryd.func4, Tryd.ntmps4
    go_wp2
    go_ret
    exact ⟨rfl, Below.refl _ _⟩
  by_cases c2 : 65536 < (s.size : Int)
  · have hd : decide (65536 < (s.size : Int)) = true := decide_eq_true c2
    clear hG
    go_enter Tryd.func4, Tryd.ntmps4
    go_wp2
    go_ret
    exact ⟨rfl, Below.refl _ _⟩
  have hd2 : decide (65536 < (s.size : Int)) = false := decide_eq_false c2
  by_cases c3 : room < 0
  · have hd3 : decide (room < 0) = true := decide_eq_true c3
    clear hG
    go_enter Tryd.func4, Tryd.ntmps4
    go_wp2
    go_ret
    exact ⟨rfl, Below.refl _ _⟩
  have hd3 : decide (room < 0) = false := decide_eq_false c3
  by_cases c4 : 131072 < room
  · have hd4 : decide (131072 < room) = true := decide_eq_true c4
    clear hG
    go_enter Tryd.func4, Tryd.ntmps4
    go_wp2
    go_ret
    exact ⟨rfl, Below.refl _ _⟩
  have hd4 : decide (131072 < room) = false := decide_eq_false c4
  have K1 := Lib.hid (JpUnescape_any w pt pv s room hG (by omega) (by omega) (by omega))
  have K2 : Hid (∀ W, Calls Tryd.prog 12 #[.string s] W fun e w' => e = .returned (UEscR (unesc (bytesOf s))) ∧ Below W.heap.size W w') := Lib.hid (fun W => Unescape_any s W (by omega))
  obtain ⟨r, hr⟩ : ∃ r, r = unesc (bytesOf s) := ⟨_, rfl⟩
  rw [← hr] at K1 K2
  clear hr hG
  cases r with
  | none =>
    dsimp only [UEscR] at K1 K2
    go_enter Tryd.func4, Tryd.ntmps4
    go_wp2_with (first | (go_at_call 11; refine K1.out.mono ?_; rintro e w1 ⟨rfl, hb⟩; replace hb := Lib.hid hb) | (go_at_call 12; refine (K2.out _).mono ?_; rintro e w2 ⟨rfl, hb2⟩; replace hb := Lib.hid (below_then hb.out hb.out.size hb2); clear hb2))
    go_ret
    exact ⟨by simp, hb.out⟩
  | some q =>
    dsimp only [UEscR] at K1 K2
    go_enter Tryd.func4, Tryd.ntmps4
    go_wp2_with (first | (go_at_call 11; refine K1.out.mono ?_; rintro e w1 ⟨rfl, hb⟩; replace hb := Lib.hid hb) | (go_at_call 12; refine (K2.out _).mono ?_; rintro e w2 ⟨rfl, hb2⟩; replace hb := Lib.hid (below_then hb.out hb.out.size hb2); clear hb2))
    go_ret
    exact ⟨by simp, hb.out⟩
end Go.Proofs.YtjpbjbcdobibbaaDoor.J
