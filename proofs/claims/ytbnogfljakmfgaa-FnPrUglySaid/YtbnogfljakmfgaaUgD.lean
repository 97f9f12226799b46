/- The walks of spec's Bare and of pretty's Ugly. -/
import Derived.Test.YtbnogfljakmfgaaUgC
import Derived.Test.YtbnogfljakmfgaaUgPr
import Derived.Laws.MakeOwn
set_option linter.unusedVariables false
set_option linter.unusedSimpArgs false
namespace Go.Proofs.Ytbnogfljakmfgaa.J
open Go.RowKit Go.Proofs.YtbnogfljakmfgaaW.PrintWords Go.Proofs.YtbnogfljakmfgaaW.PrintLast Go.Proofs.YtbnogfljakmfgaaW.PrintMore Go.Proofs.Ytbnogfljakmfgaa.Aid

theorem bare_any (s : ByteArray) : ∀ (n : Nat) (p : Pl), SizeOf.sizeOf p ≤ n → BareC s p
  | 0, ⟨k, b, e, ns, ks⟩, h => by simp at h
  | n + 1, ⟨k, b, e, ns, ks⟩, h => by
    have hk : ∀ p ∈ ks, BareC s p := fun p hp => by
      have h1 := List.sizeOf_lt_of_mem hp
      have h2 : SizeOf.sizeOf ks < SizeOf.sizeOf (⟨k, b, e, ns, ks⟩ : Pl) := by simp; omega
      exact bare_any s n p (by omega)
    by_cases h5 : k = 5
    · subst h5; exact bare_arr_any s b e ns ks hk
    by_cases h6 : k = 6
    · subst h6; exact bare_obj_any s b e ns ks hk
    exact bare_leaf_any s k b e ns ks h5 h6

theorem str_own {w : World} {v : Value} {base : Nat} {xs : List Int} (h : Own w base v xs) : (convert 41 9 v).run Try.prog w = .ok (.string (strOfNums xs)) w :=
  own_string Try.underlying41 Try.underlying5 Try.underlying9 h

set_option maxHeartbeats 4000000 in
set_option maxRecDepth 100000 in
theorem Bare_any (s : ByteArray) (p : Pl) (A3 A4 : Option Addr) (c3 c4 : Nat) (w : World) (h3 : p.names.length ≤ c3) (g3 : kSp.C w A3 p.names.length p.names) (h4 : p.kids.length ≤ c4) (g4 : kPl.C w A4 p.kids.length p.kids)
    (hlen : (bare (bytesOf s) p).length ≤ 100000) (hok : okP s.size p) :
    Calls Try.prog 13 #[.string s, .agg #[.int .i64 p.kind, .int .i64 p.b, .int .i64 p.e, .slice A3 p.names.length c3, .slice A4 p.kids.length c4]] w fun e w' => e = .returned (.string (strOfNums (bare (bytesOf s) p))) ∧ Below w.heap.size w w' := by
  have HL := Lib.hid hlen
  have HX := Lib.hid hok
  have G3 := Lib.hid g3
  have G4 := Lib.hid g4
  clear hlen hok g3 g4
  go_enter Try.func13, Try.ntmps13
  go_wp2_with fail
  obtain ⟨w1, hw1⟩ : ∃ z, z = w.alloc (.cells #[.int .i64 p.kind, .int .i64 p.b, .int .i64 p.e, .slice A3 p.names.length c3, .slice A4 p.kids.length c4] tPl) := ⟨_, rfl⟩
  rw [← hw1]
  have hb1 : Below w.heap.size w w1 := by rw [hw1]; exact below_alloc (Below.refl _ _) _
  have hb := hb1.size
  refine (bare_any s _ p (Nat.le_refl _) w1 w1 A3 A4 c3 c4 (.slice none 0 0) [] h3 (Kd.C_below G3.out hb1) h4 (Kd.C_below G4.out hb1) (Below.refl _ _) (own_nil w1 _ _ _) (by simpa using HL.out) HX.out).mono ?_
  rintro e w' ⟨v, rfl, ho, hb2, _⟩
  have ks := str_own ho
  have HB := Lib.hid (below_then hb1 hb hb2)
  clear ho hb2 hb1 hw1
  go_wp2
  go_ret
  exact ⟨rfl, HB.out⟩
end Go.Proofs.Ytbnogfljakmfgaa.J
