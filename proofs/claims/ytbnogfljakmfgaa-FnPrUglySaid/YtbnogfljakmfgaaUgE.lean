/- The walks of pretty's Ugly and of the door's PrUgly. -/
import Derived.Test.YtbnogfljakmfgaaUgD
set_option linter.unusedVariables false
set_option linter.unusedSimpArgs false
namespace Go.Proofs.Ytbnogfljakmfgaa.J
open Go.RowKit Go.Proofs.YtbnogfljakmfgaaW.PrintWords Go.Proofs.YtbnogfljakmfgaaW.PrintLast Go.Proofs.YtbnogfljakmfgaaW.PrintMore Go.Proofs.Ytbnogfljakmfgaa.Aid Go.Proofs.Ytbnogfljakmfgaa.PFnPrUgly

theorem made (W : World) (base c : Nat) (hb : base ≤ W.heap.size) (hc : c ≤ 100000) : ∃ w', (Instr.makeSlice 41 (.int .i64 0) (.int .i64 (c : Int))).run Try.prog W = .ok (.slice (some ⟨W.heap.size, 0, none⟩) 0 c) w' ∧
      Own w' base (.slice (some ⟨W.heap.size, 0, none⟩) 0 c) [] ∧ W.grownBy w' none := by
  obtain ⟨i0, hi, hzz⟩ := Option.map_eq_some_iff.1 infoU8
  simp only [Prod.mk.injEq] at hzz
  obtain ⟨hz0, hz1, hz2⟩ := hzz
  exact run_make_own (P := Try.prog) W base 41 tU8 i0 _ 1 Try.underlying41 hi hz0 hz1 .i64 .i64 c (by rw [hz2]; omega) (by unfold maxLen; omega) hb

set_option maxHeartbeats 4000000 in
set_option maxRecDepth 100000 in
theorem Ugly_any (l : List Int) (A : Option Addr) (c : Nat) (w : World) (hC : ReadsInt w .u8 A l.length l) (hl : l.length ≤ 4096) (hc : l.length ≤ c) :
    Calls Try.prog 20 #[.slice A l.length c] w fun e w' => ∃ v, e = .returned v ∧ Own w' w.heap.size v (ugO l) ∧ Below w.heap.size w w' := by
  obtain ⟨w1, hrun, hown, hg⟩ := made w w.heap.size l.length (Nat.le_refl _) (by omega)
  obtain ⟨k, hk⟩ := ugly_is l hl
  have hb1 : Below w.heap.size w w1 := (Below.refl _ _).grown hg (Nat.le_refl _) (fun k h => by cases h)
  have hr0 := Lib.hid (Kd.R_of_own (enc := Value.int .u8) (h1 := fun _ => rfl) (ok := fun k => w.heap.size ≤ k) hown (fun k h => by simp [Value.ownBlock] at h; omega))
  have hr1 : ∀ W_, Kept w1 W_ (fun k_ => w.heap.size ≤ k_) → Kd.C (Kd.int .u8) W_ A l.length l := fun W_ hk => Kd.C_of_reads ⟨hC.1, hC.2.1, fun hn => by
    obtain ⟨ad, e, hcc⟩ := hC.2.2 hn
    exact ⟨ad, e, fun j hj => cell_kept (pw_cell_below hb1 (hcc j hj)) hk (by have := World.block_lt_of_cell? w _ (hcc j hj); omega)⟩⟩
  have HC := Lib.hid (pretty_ugly.calls k (fun k => w.heap.size ≤ k) _ [] A c l (ugO l) w w1 hb1 hr0.out hr1 hc hk)
  clear hr1 hr0 hk hC hg hown
  go_enter Try.func20, Try.ntmps20
  go_wp2_with fail
  refine HC.out.mono ?_
  rintro e w' ⟨v, rfl, hR, hB, _⟩
  have HR := Lib.hid (Kd.own_of_R hR)
  have HB := Lib.hid hB
  clear hR hB hrun
  go_wp2
  go_ret
  exact ⟨v, rfl, HR.out, HB.out⟩

set_option maxHeartbeats 4000000 in
set_option maxRecDepth 100000 in
theorem PrUgly_any (s : ByteArray) (hs : s.size ≤ 4096) (w : World) :
    Calls Try.prog 12 #[.string s] w fun e w' => e = .returned (.string (strOfNums (ugO (bytesOf s)))) ∧ Below w.heap.size w w' := by
  have kb := print_bytes (P := Try.prog) 9 41 5 Try.underlying9 Try.underlying41 Try.underlying5 s w
  have hb : Below w.heap.size w (Lib.bytesWorld w 5 s) := bytes_below (Below.refl _ _) (Nat.le_refl _) _ _
  have hr := Lib.hid (bytes_reads w 5 s (by omega))
  have hcap := grownCap_ge w s.size 0 5
  have hlen := Lib.hid (bytesOf_length s)
  obtain ⟨w1, hw1⟩ : ∃ z, z = Lib.bytesWorld w 5 s := ⟨_, rfl⟩
  rw [← hw1] at kb hb
  replace hr := Lib.hid (show ReadsInt w1 .u8 _ s.size (bytesOf s) by rw [hw1]; exact hr.out)
  have HB := Lib.hid hb
  replace hw1 := Lib.hid hw1
  clear hb
  go_enter Try.func12, Try.ntmps12
  go_wp2_with fail
  have HU := Ugly_any (bytesOf s) (some ⟨w.heap.size, 0, none⟩) (grownCap w s.size 0 5) w1 (by rw [hlen.out]; exact hr.out) (by rw [hlen.out]; exact hs) (by rw [hlen.out]; exact hcap)
  rw [hlen.out] at HU
  refine HU.mono ?_
  rintro e w' ⟨v, rfl, ho, hb2⟩
  have ks := str_own ho
  replace HB := Lib.hid (below_then HB.out HB.out.size hb2)
  clear ho hb2 HU kb
  go_wp2
  go_ret
  exact ⟨rfl, HB.out⟩
end Go.Proofs.Ytbnogfljakmfgaa.J
