/- Contracts of zzColumn, ZZMariadbSelectColumn, ZZPostgresSelectColumn over seat b6001833aM's translation. -/
import Derived.Test.Qxb6001833aModsRows
import Derived.Test.Qxb6001833aModsTexts
import Derived.WalkKit
import Derived.ProofKit
import Derived.WalkSpells
namespace Go.Proofs.Qxb6001833aMods.Own
open Go.RowKit

/-- the block that zzColumn lays -/
def colObj (k : Int) (nm ty : ByteArray) : Obj :=
  .cells #[.string nm, .int .i64 k, .string ty, .int .i64 0, .int .i64 0, .int .i64 0, .bool false, .bool false, .int .i64 0, .string { data := #[] }, .string { data := #[] }, .int .i64 0, .int .i64 0] 35

theorem column_any (k : Int) (nm ty : ByteArray) (w : World) :
    Calls Trym.prog 15 #[.int .i64 k, .string nm, .string ty] w fun e w' => e = .returned (.pointer (some ⟨w.heap.size, 0, none⟩)) ∧ w' = w.alloc (colObj k nm ty) := by
  go_enter Trym.func15, Trym.ntmps15
  go_wp2
  go_ret
  exact ⟨rfl, rfl⟩
theorem column_kind (k : Int) (nm ty : ByteArray) (w : World) : (w.alloc (colObj k nm ty)).cell? ⟨w.heap.size, 1, none⟩ = some (.int .i64 k) := by
  unfold colObj
  go_simp
theorem column_grown (k : Int) (nm ty : ByteArray) (w : World) : Grown w (w.alloc (colObj k nm ty)) := by
  unfold colObj
  exact Grown.alloc (Grown.refl _) _ _
theorem column_size (k : Int) (nm ty : ByteArray) (w : World) : (w.alloc (colObj k nm ty)).heap.size = w.heap.size + 1 := by
  unfold colObj
  go_simp

theorem maria_other (col : ByteArray) (b : Nat) (w : World) (hb : b < w.heap.size) (hc : w.cell? ⟨b, 1, none⟩ = some (.int .i64 6)) (hs : col.size ≤ 65536) :
    Calls Trym.prog 30 #[.agg #[], .string col, .pointer (some ⟨b, 0, none⟩)] w fun e w' => e = .returned (.string ({ data := #[67, 65, 83, 84, 40] } ++ col ++ { data := #[32, 65, 83, 32, 67, 72, 65, 82, 41] })) ∧ w' = w.alloc (.cells #[] 48) := by
  go_enter Trym.func30, Trym.ntmps30
  go_wp2
  go_ret
  exact ⟨rfl, rfl⟩
theorem maria_bare (col : ByteArray) (b : Nat) (k : Int) (w : World) (hb : b < w.heap.size) (hc : w.cell? ⟨b, 1, none⟩ = some (.int .i64 k)) (hk : ¬ k = 6) :
    Calls Trym.prog 30 #[.agg #[], .string col, .pointer (some ⟨b, 0, none⟩)] w fun e w' => e = .returned (.string col) ∧ w' = w.alloc (.cells #[] 48) := by
  have b6 : (k == 6) = false := by simpa using hk
  go_enter Trym.func30, Trym.ntmps30
  go_wp2
  go_ret
  exact ⟨rfl, rfl⟩
theorem post_other (col : ByteArray) (b : Nat) (w : World) (hb : b < w.heap.size) (hc : w.cell? ⟨b, 1, none⟩ = some (.int .i64 6)) (hs : col.size ≤ 65536) :
    Calls Trym.prog 31 #[.agg #[], .string col, .pointer (some ⟨b, 0, none⟩)] w fun e w' => e = .returned (.string (col ++ { data := #[58, 58, 116, 101, 120, 116] })) ∧ w' = w.alloc (.cells #[] 49) := by
  go_enter Trym.func31, Trym.ntmps31
  go_wp2
  go_ret
  exact ⟨rfl, rfl⟩
theorem post_bare (col : ByteArray) (b : Nat) (k : Int) (w : World) (hb : b < w.heap.size) (hc : w.cell? ⟨b, 1, none⟩ = some (.int .i64 k)) (hk : ¬ k = 6) :
    Calls Trym.prog 31 #[.agg #[], .string col, .pointer (some ⟨b, 0, none⟩)] w fun e w' => e = .returned (.string col) ∧ w' = w.alloc (.cells #[] 49) := by
  have b6 : (k == 6) = false := by simpa using hk
  go_enter Trym.func31, Trym.ntmps31
  go_wp2
  go_ret
  exact ⟨rfl, rfl⟩

theorem zzMaria_other (col : ByteArray) (b : Nat) (w : World) (hb : b < w.heap.size) (hc : w.cell? ⟨b, 1, none⟩ = some (.int .i64 6)) (hs : col.size ≤ 65536) :
    Calls Trym.prog 16 #[.string col, .pointer (some ⟨b, 0, none⟩)] w fun e w' => e = .returned (.string ({ data := #[67, 65, 83, 84, 40] } ++ col ++ { data := #[32, 65, 83, 32, 67, 72, 65, 82, 41] })) ∧ w' = w.alloc (.cells #[] 48) := by
  go_enter Trym.func16, Trym.ntmps16
  go_wp2_with fail
  refine (maria_other _ _ _ hb hc hs).mono ?_
  rintro e w' ⟨rfl, rfl⟩
  go_wp2
  go_ret
  exact ⟨rfl, rfl⟩
theorem zzMaria_bare (col : ByteArray) (b : Nat) (k : Int) (w : World) (hb : b < w.heap.size) (hc : w.cell? ⟨b, 1, none⟩ = some (.int .i64 k)) (hk : ¬ k = 6) :
    Calls Trym.prog 16 #[.string col, .pointer (some ⟨b, 0, none⟩)] w fun e w' => e = .returned (.string col) ∧ w' = w.alloc (.cells #[] 48) := by
  go_enter Trym.func16, Trym.ntmps16
  go_wp2_with fail
  refine (maria_bare _ _ _ _ hb hc hk).mono ?_
  rintro e w' ⟨rfl, rfl⟩
  go_wp2
  go_ret
  exact ⟨rfl, rfl⟩
theorem zzPost_other (col : ByteArray) (b : Nat) (w : World) (hb : b < w.heap.size) (hc : w.cell? ⟨b, 1, none⟩ = some (.int .i64 6)) (hs : col.size ≤ 65536) :
    Calls Trym.prog 17 #[.string col, .pointer (some ⟨b, 0, none⟩)] w fun e w' => e = .returned (.string (col ++ { data := #[58, 58, 116, 101, 120, 116] })) ∧ w' = w.alloc (.cells #[] 49) := by
  go_enter Trym.func17, Trym.ntmps17
  go_wp2_with fail
  refine (post_other _ _ _ hb hc hs).mono ?_
  rintro e w' ⟨rfl, rfl⟩
  go_wp2
  go_ret
  exact ⟨rfl, rfl⟩
theorem zzPost_bare (col : ByteArray) (b : Nat) (k : Int) (w : World) (hb : b < w.heap.size) (hc : w.cell? ⟨b, 1, none⟩ = some (.int .i64 k)) (hk : ¬ k = 6) :
    Calls Trym.prog 17 #[.string col, .pointer (some ⟨b, 0, none⟩)] w fun e w' => e = .returned (.string col) ∧ w' = w.alloc (.cells #[] 49) := by
  go_enter Trym.func17, Trym.ntmps17
  go_wp2_with fail
  refine (post_bare _ _ _ _ hb hc hk).mono ?_
  rintro e w' ⟨rfl, rfl⟩
  go_wp2
  go_ret
  exact ⟨rfl, rfl⟩
end Go.Proofs.Qxb6001833aMods.Own
