/- Contracts of zzHasPrefix, zzHasSuffix over seat b6001833aM's translation, and the plain laws on texts under them. -/
import Derived.Test.Qxb6001833aModsRows
import Derived.WalkKit
import Derived.ProofKit
import Derived.WalkSpells
import Derived.Lib.Strings
namespace Go.Proofs.Qxb6001833aMods.Own
open Go.RowKit

theorem data_app (a b : ByteArray) : (a ++ b).data.toList = a.data.toList ++ b.data.toList := by
  simp [ByteArray.data_append]
theorem size_data (a : ByteArray) : a.data.toList.length = a.size := by simp
theorem extract_mid (a b c : ByteArray) (i j : Nat) (hi : i = a.size) (hj : j = a.size + b.size) : (a ++ b ++ c).extract i j = b := by
  apply WideShapes.bytes_inj
  rw [Lib.extract_data, data_app, data_app, List.append_assoc, hi, List.drop_append_of_le_length (by rw [size_data]; omega)]
  rw [show List.drop a.size a.data.toList = [] from List.drop_of_length_le (by rw [size_data]; omega), List.nil_append]
  rw [show j - a.size = b.data.toList.length by rw [size_data]; omega, List.take_left]
theorem extract_front (p t : ByteArray) : (p ++ t).extract 0 p.size = p := by
  apply WideShapes.bytes_inj
  rw [Lib.extract_data, data_app, List.drop_zero, Nat.sub_zero, ← size_data p, List.take_left]
theorem extract_back (p t : ByteArray) (i : Nat) (hi : i = p.size) : (p ++ t).extract i (p ++ t).size = t := by
  apply WideShapes.bytes_inj
  rw [Lib.extract_data, data_app, hi, List.drop_append_of_le_length (by rw [size_data]; omega)]
  rw [show List.drop p.size p.data.toList = [] from List.drop_of_length_le (by rw [size_data]; omega), List.nil_append]
  rw [show (p ++ t).size - p.size = t.data.toList.length by rw [size_data, ByteArray.size_append]; omega, List.take_length]
theorem size_ne {a b : ByteArray} (h : a.size ≠ b.size) : (a.toList == b.toList) = false := by
  rw [beq_eq_false_iff_ne]
  intro e
  apply h
  rw [ByteArray.toList_eq, ByteArray.toList_eq] at e
  rw [← size_data a, ← size_data b, e]

theorem grown_trans {a b c : World} (h1 : Grown a b) (h2 : Grown b c) : Grown a c :=
  ⟨World.keptBut_trans h1.1 h2.1, fun x => (h2.2.1 x).trans (h1.2.1 x), Nat.le_trans h1.2.2 h2.2.2⟩

theorem ret_true {b : Bool} (h : b = true) : Ending.returned (.bool b) = .returned (.bool true) := by rw [h]

theorem hasPrefix_eq (s p : ByteArray) (w : World) (h : p.size ≤ s.size) (he : Hid (s.extract 0 p.size = p)) :
    Calls Trym.prog 18 #[.string s, .string p] w fun e w' => e = .returned (.bool true) ∧ w' = w := by
  go_enter Trym.func18, Trym.ntmps18
  go_wp2
  go_ret
  exact ⟨ret_true (by rw [he.out]; simp), rfl⟩

theorem hasSuffix_eq (s p : ByteArray) (w : World) (h : p.size ≤ s.size) (h2 : s.size ≤ 131072) (he : Hid (s.extract (s.size - p.size) s.size = p)) :
    Calls Trym.prog 19 #[.string s, .string p] w fun e w' => e = .returned (.bool true) ∧ w' = w := by
  go_enter Trym.func19, Trym.ntmps19
  go_wp2
  go_ret
  exact ⟨ret_true (by rw [he.out]; simp), rfl⟩

end Go.Proofs.Qxb6001833aMods.Own
