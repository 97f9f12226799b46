/- Small lemmas on byte arrays and lists of whole numbers, of no program. -/
import Derived.Test.YtbpiooeklkjilaaDoorZWMore
import Derived.Lib.Hide
import Derived.LoopTactic
namespace Go.Proofs.YtbpiooeklkjilaaDoor.Aid
open Go.RowKit Go.Proofs.YtbpiooeklkjilaaDoorW.PrintWords

theorem ret_bool {a b : Bool} (h : a = b) : Ending.returned (.bool a) = .returned (.bool b) := by rw [h]

theorem ba_ext {a b : ByteArray} (h : a.data.toList = b.data.toList) : a = b := by
  cases a with | mk a => cases b with | mk b => cases a with | mk a => cases b with | mk b => simp at h; rw [h]
theorem str_of_bytes (s : ByteArray) : strOfNums (bytesOf s) = s := by
  apply ba_ext
  simp only [strOfNums, bytesOf, List.map_map]
  conv => rhs; rw [← List.map_id s.data.toList]
  apply List.map_congr_left
  intro x _
  simp
theorem bytes_of_str (xs : List Int) (h : ∀ x ∈ xs, 0 ≤ x ∧ x < 256) : bytesOf (strOfNums xs) = xs := by
  simp only [strOfNums, bytesOf, List.map_map]
  conv => rhs; rw [← List.map_id xs]
  apply List.map_congr_left
  intro x hx
  have := h x hx
  simp [UInt8.toNat_ofNat']
  omega
theorem bytesOf_extract (s : ByteArray) (a b : Nat) : bytesOf (s.extract a b) = ((bytesOf s).drop a).take (b - a) := by
  simp only [bytesOf, ByteArray.data_extract, Array.toList_extract, List.map_take, List.map_drop, List.extract_eq_take_drop]
theorem bytesOf_range (s : ByteArray) : ∀ x ∈ bytesOf s, 0 ≤ x ∧ x < 256 := by
  intro x hx
  simp only [bytesOf, List.mem_map] at hx
  obtain ⟨b, _, rfl⟩ := hx
  have := b.toNat_lt
  omega
theorem bytesOf_getD (s : ByteArray) (i : Nat) : (bytesOf s).getD i 0 = bt s i := by
  have := rd_bytesOf s i
  rwa [rd, Int.toNat_natCast] at this
theorem bytesOf_get? (s : ByteArray) (i : Nat) (h : i < s.size) : (bytesOf s)[i]? = some (bt s i) := by
  have h' : i < (bytesOf s).length := by rw [bytesOf_length]; exact h
  have := bytesOf_getD s i
  rw [List.getElem?_eq_getElem h']
  rw [List.getD_eq_getElem?_getD, List.getElem?_eq_getElem h'] at this
  simpa using this
/-- The cells of '[]byte(s)'. -/
theorem bytes_cells (W : World) (e : TypeId) (s : ByteArray) : ∀ j, j < s.size → (Lib.bytesWorld W e s).cell? ⟨W.heap.size, j, none⟩ = some (.int .u8 ((bytesOf s).getD j 0)) := by
  intro j hj
  rw [Lib.bytesWorld_cell W e s j hj, bytesOf_getD, ← bt_at s j (by simpa using hj)]
  have h' : j < s.data.toList.length := by rw [data_length]; exact hj
  simp [List.getD_eq_getElem?_getD, List.getElem?_eq_getElem h']
  rfl
end Go.Proofs.YtbpiooeklkjilaaDoor.Aid
