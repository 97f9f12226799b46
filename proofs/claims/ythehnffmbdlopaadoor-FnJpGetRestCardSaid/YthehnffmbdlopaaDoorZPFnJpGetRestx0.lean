/- Texts of this claim, what is not used left out. -/
import Derived.Test.YthehnffmbdlopaaDoorProg
import Derived.Below
import Derived.Deep.Draws
import Derived.Deep.AppendLies
import Derived.Maps.AppendAt
import Derived.OwnWalk
import Derived.Laws.BytesArg
import Derived.Laws.MakeOwn
import Derived.Laws.OwnMore
import Derived.Deep.OwnRows
import Derived.Tactics
import Derived.Lib.ConvBytes
import Derived.Laws.Slices
import Derived.WalkKit
import Derived.KernelRfl
import Derived.RowKit3
import Derived.Deep.LoopGhost
import Derived.Deep.QuietTactic
import Derived.BigQuiet
import Derived.WideLaws
import Derived.Deep.DeepCutAuto
import Derived.Deep.CutBlock
import Derived.Deep.RegionHeld3
import Derived.Laws.Rows
import Derived.Lib.AppendStr
import Derived.ArgAppend
import Derived.Laws.IdiomCopy
import Derived.OrdersHeld
import Derived.Laws.BitsLemmas
import Derived.RowKit
import Derived.Test.YthehnffmbdlopaaDoorZWWords
import Derived.Test.YthehnffmbdlopaaDoorZWLast
import Derived.Test.YthehnffmbdlopaaDoorZWTab
import Derived.Test.YthehnffmbdlopaaDoorZWFour
import Derived.Test.YthehnffmbdlopaaDoorZWQPut
import Derived.Test.YthehnffmbdlopaaDoorZWApart
import Derived.Test.YthehnffmbdlopaaDoorZWArr
import Derived.Test.YthehnffmbdlopaaDoorZWZeros
import Derived.Test.YthehnffmbdlopaaDoorZWFoot
import Derived.Test.YthehnffmbdlopaaDoorZWKept
import Derived.Test.YthehnffmbdlopaaDoorZWShare
import Derived.Test.YthehnffmbdlopaaDoorZWN
import Derived.Test.YthehnffmbdlopaaDoorZWFootNe
import Derived.Test.YthehnffmbdlopaaDoorZWAt
import Derived.Test.YthehnffmbdlopaaDoorZWEqStruct
import Derived.Test.YthehnffmbdlopaaDoorZWRepsOne
import Derived.Test.YthehnffmbdlopaaDoorZWInv
import Derived.Test.YthehnffmbdlopaaDoorZWInvWords
import Derived.Test.YthehnffmbdlopaaDoorZWGuard
import Derived.Test.YthehnffmbdlopaaDoorZWNEv
import Derived.Test.YthehnffmbdlopaaDoorZWMore
namespace Go.Proofs.YthehnffmbdlopaaDoor.PFnJpGetRest
open Go.RowKit Go.Proofs.YthehnffmbdlopaaDoorW.PrintWords Go.Proofs.YthehnffmbdlopaaDoorW.PrintLast Go.Proofs.YthehnffmbdlopaaDoorW.PrintMore
attribute [local go_sem] max2_int min2_int max_two min_two max_three min_three max_four min_four   -- for this text's walks alone
set_option linter.unusedVariables false
set_option linter.unusedSimpArgs false

def errW : Option Int → Value
  | none => .nilIface
  | some c => .iface 120 (.int .i64 c)
theorem errW_none : errW none = .nilIface := rfl
theorem errW_some (c : Int) : errW (some c) = .iface 120 (.int .i64 c) := rfl

theorem info5 : (Tryd.prog.info? 5).map (fun i => (i.zero, i.size, i.bytes)) = some (some (.int .u8 0), 1, 1) := by kernel_rfl
-- the values' own types
structure S43 where
  f0 : Int
  f1 : Int
def z43 : S43 := ⟨(0 : Int), (0 : Int)⟩
def k43 : Kd S43 := Kd.iso (Kd.pair (Kd.int .i64) (Kd.int .i64)) (fun x : S43 => (x.f0, x.f1))
theorem k43_open {w : World} {x : S43} {cs : List Value} (h : k43.K w x cs) : cs = [.int .i64 x.f0, .int .i64 x.f1] := by
  obtain ⟨_, _, rfl, rfl, rfl⟩ := h
  exact rfl
def rd_T43 (xs : List S43) (i : Int) : S43 := xs.getD i.toNat z43
theorem at_T43 {w : World} {A : Option Addr} {n : Nat} {xs : List S43} (h : Kd.C k43 w A n xs) (i : Int) (h0 : 0 ≤ i) (h1 : i < n) : ∃ ad , A = some ad ∧ w.cell? (ad.add (i.toNat * 2)) = some (.int .i64 (rd_T43 xs i).f0) ∧ w.cell? ⟨(ad.add (i.toNat * 2)).block, (ad.add (i.toNat * 2)).off + 1, none⟩ = some (.int .i64 (rd_T43 xs i).f1) := by
  obtain ⟨ad, c, e, _, hK, hc0⟩ := Kd.C_get h z43 i h0 h1
  have hc : ∀ j u, c[j]? = some u → w.cell? (ad.add (i.toNat * 2 + j)) = some u := hc0
  obtain rfl := k43_open hK
  exact ⟨ad, e, hc 0 _ rfl, by rw [← add_field _ _ 1 (by omega)]; exact hc 1 _ rfl⟩

structure S27 where
  f0 : Int
  f1 : Int
  f2 : Int
  f3 : (List S43)
  f4 : (List S27)
def z27 : S27 := ⟨(0 : Int), (0 : Int), (0 : Int), ([] : List S43), ([] : List S27)⟩
def F27 (d : Kd S27) : Kd S27 := Kd.iso (Kd.pair (Kd.int .i64) (Kd.pair (Kd.int .i64) (Kd.pair (Kd.int .i64) (Kd.pair (Kd.slice 43 k43) (Kd.slice 27 d))))) (fun x : S27 => (x.f0, x.f1, x.f2, x.f3, x.f4))
theorem sub27 : Kd.Sub F27 [27, 43] := Kd.sub_iso _ (Kd.sub_pair (Kd.sub_const _ (by decide)) (Kd.sub_pair (Kd.sub_const _ (by decide)) (Kd.sub_pair (Kd.sub_const _ (by decide)) (Kd.sub_pair (Kd.sub_const _ (by decide)) (Kd.sub_slice 27 (by decide) Kd.sub_id)))))
theorem sz27 : ∀ n, (Kd.upto F27 5 [27, 43] n).sz = 5 := Kd.upto_sz (fun _ => rfl)
def k27 : Kd S27 := Kd.fix F27 5 [27, 43] sz27 (Kd.upto_E sub27)
theorem k27_open {w : World} {x : S27} {cs : List Value} (h : k27.K w x cs) : ∃ A3 c3 A4 c4, cs = [.int .i64 x.f0, .int .i64 x.f1, .int .i64 x.f2, .slice A3 x.f3.length c3, .slice A4 x.f4.length c4] ∧ x.f3.length ≤ c3 ∧ k43.C w A3 x.f3.length x.f3 ∧ x.f4.length ≤ c4 ∧ k27.C w A4 x.f4.length x.f4 := by
  obtain ⟨n, h⟩ := h
  cases n with
  | zero => exact h.elim
  | succ n =>
    obtain ⟨_, _, rfl, rfl, ⟨_, _, rfl, rfl, ⟨_, _, rfl, rfl, ⟨_, _, rfl, ⟨A3, c3, rfl, l3, g3⟩, ⟨A4, c4, rfl, l4, g4⟩⟩⟩⟩⟩ := h
    exact ⟨A3, c3, A4, c4, rfl, l3, g3, l4, Kd.fix_C g4⟩
theorem k27_openF {W : World} {ok : Nat → Prop} {x : S27} {cs : List Value} (h : Kd.FK k27 W ok x cs) : ∃ A3 c3 A4 c4, cs = [.int .i64 x.f0, .int .i64 x.f1, .int .i64 x.f2, .slice A3 x.f3.length c3, .slice A4 x.f4.length c4] ∧ x.f3.length ≤ c3 ∧ Kd.F k43 W ok A3 x.f3.length x.f3 ∧ x.f4.length ≤ c4 ∧ Kd.F k27 W ok A4 x.f4.length x.f4 := by
  obtain ⟨A3, c3, A4, c4, rfl, l3, _, l4, _⟩ := k27_open (Kd.FK_now h)
  exact ⟨A3, c3, A4, c4, rfl, l3, (fun W' hW => by obtain ⟨A3_, c3_, A4_, c4_, he, l3_, g3_, l4_, g4_⟩ := k27_open (h W' hW); injection (Option.some.inj (show some (Value.slice A3 x.f3.length c3) = some (Value.slice A3_ x.f3.length c3_) from congrArg (fun l => l[3]?) he)) with ha_ _ _; rw [ha_]; exact g3_), l4, (fun W' hW => by obtain ⟨A3_, c3_, A4_, c4_, he, l3_, g3_, l4_, g4_⟩ := k27_open (h W' hW); injection (Option.some.inj (show some (Value.slice A4 x.f4.length c4) = some (Value.slice A4_ x.f4.length c4_) from congrArg (fun l => l[4]?) he)) with ha_ _ _; rw [ha_]; exact g4_)⟩
def rd_T27 (xs : List S27) (i : Int) : S27 := xs.getD i.toNat z27
theorem at_T27 {w : World} {A : Option Addr} {n : Nat} {xs : List S27} (h : Kd.C k27 w A n xs) (i : Int) (h0 : 0 ≤ i) (h1 : i < n) : ∃ ad A3 c3 A4 c4, A = some ad ∧ w.cell? (ad.add (i.toNat * 5)) = some (.int .i64 (rd_T27 xs i).f0) ∧ w.cell? ⟨(ad.add (i.toNat * 5)).block, (ad.add (i.toNat * 5)).off + 1, none⟩ = some (.int .i64 (rd_T27 xs i).f1) ∧ w.cell? ⟨(ad.add (i.toNat * 5)).block, (ad.add (i.toNat * 5)).off + 2, none⟩ = some (.int .i64 (rd_T27 xs i).f2) ∧ w.cell? ⟨(ad.add (i.toNat * 5)).block, (ad.add (i.toNat * 5)).off + 3, none⟩ = some (.slice A3 (rd_T27 xs i).f3.length c3) ∧ w.cell? ⟨(ad.add (i.toNat * 5)).block, (ad.add (i.toNat * 5)).off + 4, none⟩ = some (.slice A4 (rd_T27 xs i).f4.length c4) ∧ (rd_T27 xs i).f3.length ≤ c3 ∧ k43.C w A3 (rd_T27 xs i).f3.length (rd_T27 xs i).f3 ∧ (rd_T27 xs i).f4.length ≤ c4 ∧ k27.C w A4 (rd_T27 xs i).f4.length (rd_T27 xs i).f4 := by
  obtain ⟨ad, c, e, _, hK, hc0⟩ := Kd.C_get h z27 i h0 h1
  have hc : ∀ j u, c[j]? = some u → w.cell? (ad.add (i.toNat * 5 + j)) = some u := hc0
  obtain ⟨A3, c3, A4, c4, rfl, l3, g3, l4, g4⟩ := k27_open hK
  exact ⟨ad, A3, c3, A4, c4, e, hc 0 _ rfl, by rw [← add_field _ _ 1 (by omega)]; exact hc 1 _ rfl, by rw [← add_field _ _ 2 (by omega)]; exact hc 2 _ rfl, by rw [← add_field _ _ 3 (by omega)]; exact hc 3 _ rfl, by rw [← add_field _ _ 4 (by omega)]; exact hc 4 _ rfl, l3, g3, l4, g4⟩

end Go.Proofs.YthehnffmbdlopaaDoor.PFnJpGetRest
