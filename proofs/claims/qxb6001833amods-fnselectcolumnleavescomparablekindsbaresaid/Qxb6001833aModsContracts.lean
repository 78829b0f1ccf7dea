/- Contracts of Kind.Comparable, Op.ordered, Kind.Takes, ZZOpOrdered over seat b6001833aM's translation. -/
import Derived.Test.Qxb6001833aModsRows
import Derived.Test.Qxb6001833aModsPlain
import Derived.WalkKit
import Derived.ProofKit
namespace Go.Proofs.Qxb6001833aMods.Own
open Go.RowKit

theorem comparable_any (k : Int) (b : Bool) (hb : cmpB k = b) (w : World) :
    Calls Trym.prog 21 #[.int .i64 k] w fun e w' => e = .returned (.bool b) ∧ w' = w := by
  by_cases h5 : k = 5
  · subst h5; obtain rfl : false = b := hb
    go_enter Trym.func21, Trym.ntmps21
    go_wp2
    go_ret
    exact ⟨rfl, rfl⟩
  by_cases h6 : k = 6
  · subst h6; obtain rfl : false = b := hb
    go_enter Trym.func21, Trym.ntmps21
    go_wp2
    go_ret
    exact ⟨rfl, rfl⟩
  have b5 : (k != 5) = true := by simpa using h5
  have b6 : (k != 6) = true := by simpa using h6
  obtain rfl : true = b := by rw [← hb]; simp [cmpB, h5, h6]
  clear hb
  go_enter Trym.func21, Trym.ntmps21
  go_wp2
  go_ret
  exact ⟨rfl, rfl⟩

theorem ordered_any (o : Int) (b : Bool) (hb : ordB o = b) (w : World) :
    Calls Trym.prog 29 #[.int .i64 o] w fun e w' => e = .returned (.bool b) ∧ w' = w := by
  by_cases h2 : o = 2
  · subst h2; obtain rfl : true = b := hb
    go_enter Trym.func29, Trym.ntmps29
    go_wp2
    go_ret
    exact ⟨rfl, rfl⟩
  by_cases h3 : o = 3
  · subst h3; obtain rfl : true = b := hb
    go_enter Trym.func29, Trym.ntmps29
    go_wp2
    go_ret
    exact ⟨rfl, rfl⟩
  by_cases h4 : o = 4
  · subst h4; obtain rfl : true = b := hb
    go_enter Trym.func29, Trym.ntmps29
    go_wp2
    go_ret
    exact ⟨rfl, rfl⟩
  by_cases h5 : o = 5
  · subst h5; obtain rfl : true = b := hb
    go_enter Trym.func29, Trym.ntmps29
    go_wp2
    go_ret
    exact ⟨rfl, rfl⟩
  obtain rfl : false = b := by rw [← hb]; simp [ordB, h2, h3, h4, h5]
  clear hb
  go_enter Trym.func29, Trym.ntmps29
  go_wp2
  go_ret
  exact ⟨rfl, rfl⟩

theorem takes_no (k o : Int) (w : World) (hc : Hid (cmpB k = false)) :
    Calls Trym.prog 13 #[.int .i64 k, .int .i64 o] w fun e w' => e = .returned (.bool false) ∧ w' = w := by
  go_enter Trym.func13, Trym.ntmps13
  go_wp2_with (go_at_call 21; refine (comparable_any _ false hc.out _).mono ?_; rintro e w' ⟨rfl, rfl⟩)
  go_ret
  exact ⟨rfl, rfl⟩

theorem takes_ord (k o : Int) (w : World) (b : Bool) (hb : (k == 0 || k == 1 || k == 3) = b) (hc : Hid (cmpB k = true)) (ho : Hid (ordB o = true)) :
    Calls Trym.prog 13 #[.int .i64 k, .int .i64 o] w fun e w' => e = .returned (.bool b) ∧ w' = w := by
  by_cases h0 : k = 0
  · subst h0; obtain rfl : true = b := hb
    go_enter Trym.func13, Trym.ntmps13
    go_wp2_with (first | (go_at_call 21; refine (comparable_any _ true hc.out _).mono ?_; rintro e w' ⟨rfl, rfl⟩) | (go_at_call 29; refine (ordered_any _ true ho.out _).mono ?_; rintro e w' ⟨rfl, rfl⟩))
    go_ret
    exact ⟨rfl, rfl⟩
  by_cases h1 : k = 1
  · subst h1; obtain rfl : true = b := hb
    go_enter Trym.func13, Trym.ntmps13
    go_wp2_with (first | (go_at_call 21; refine (comparable_any _ true hc.out _).mono ?_; rintro e w' ⟨rfl, rfl⟩) | (go_at_call 29; refine (ordered_any _ true ho.out _).mono ?_; rintro e w' ⟨rfl, rfl⟩))
    go_ret
    exact ⟨rfl, rfl⟩
  by_cases h3 : k = 3
  · subst h3; obtain rfl : true = b := hb
    go_enter Trym.func13, Trym.ntmps13
    go_wp2_with (first | (go_at_call 21; refine (comparable_any _ true hc.out _).mono ?_; rintro e w' ⟨rfl, rfl⟩) | (go_at_call 29; refine (ordered_any _ true ho.out _).mono ?_; rintro e w' ⟨rfl, rfl⟩))
    go_ret
    exact ⟨rfl, rfl⟩
  have b0 : (k == 0) = false := by simpa using h0
  have b1 : (k == 1) = false := by simpa using h1
  have b3 : (k == 3) = false := by simpa using h3
  obtain rfl : false = b := by rw [← hb]; simp [b0, b1, b3]
  clear hb
  go_enter Trym.func13, Trym.ntmps13
  go_wp2_with (first | (go_at_call 21; refine (comparable_any _ true hc.out _).mono ?_; rintro e w' ⟨rfl, rfl⟩) | (go_at_call 29; refine (ordered_any _ true ho.out _).mono ?_; rintro e w' ⟨rfl, rfl⟩))
  go_ret
  exact ⟨rfl, rfl⟩

theorem takes_like (k o : Int) (w : World) (h67 : o = 6 ∨ o = 7) (hc : Hid (cmpB k = true)) :
    Calls Trym.prog 13 #[.int .i64 k, .int .i64 o] w fun e w' => e = .returned (.bool (k == 2)) ∧ w' = w := by
  rcases h67 with h | h
  · subst h
    have ho : Hid (ordB 6 = false) := rfl
    go_enter Trym.func13, Trym.ntmps13
    go_wp2_with (first | (go_at_call 21; refine (comparable_any _ true hc.out _).mono ?_; rintro e w' ⟨rfl, rfl⟩) | (go_at_call 29; refine (ordered_any _ false ho.out _).mono ?_; rintro e w' ⟨rfl, rfl⟩))
    go_ret
    exact ⟨rfl, rfl⟩
  · subst h
    have ho : Hid (ordB 7 = false) := rfl
    go_enter Trym.func13, Trym.ntmps13
    go_wp2_with (first | (go_at_call 21; refine (comparable_any _ true hc.out _).mono ?_; rintro e w' ⟨rfl, rfl⟩) | (go_at_call 29; refine (ordered_any _ false ho.out _).mono ?_; rintro e w' ⟨rfl, rfl⟩))
    go_ret
    exact ⟨rfl, rfl⟩

theorem takes_eq (k o : Int) (w : World) (h01 : o = 0 ∨ o = 1) (hc : Hid (cmpB k = true)) :
    Calls Trym.prog 13 #[.int .i64 k, .int .i64 o] w fun e w' => e = .returned (.bool true) ∧ w' = w := by
  rcases h01 with h | h
  · subst h
    have ho : Hid (ordB 0 = false) := rfl
    go_enter Trym.func13, Trym.ntmps13
    go_wp2_with (first | (go_at_call 21; refine (comparable_any _ true hc.out _).mono ?_; rintro e w' ⟨rfl, rfl⟩) | (go_at_call 29; refine (ordered_any _ false ho.out _).mono ?_; rintro e w' ⟨rfl, rfl⟩))
    go_ret
    exact ⟨rfl, rfl⟩
  · subst h
    have ho : Hid (ordB 1 = false) := rfl
    go_enter Trym.func13, Trym.ntmps13
    go_wp2_with (first | (go_at_call 21; refine (comparable_any _ true hc.out _).mono ?_; rintro e w' ⟨rfl, rfl⟩) | (go_at_call 29; refine (ordered_any _ false ho.out _).mono ?_; rintro e w' ⟨rfl, rfl⟩))
    go_ret
    exact ⟨rfl, rfl⟩

theorem takes_else (k o : Int) (w : World) (h0 : ¬ o = 0) (h1 : ¬ o = 1) (h6 : ¬ o = 6) (h7 : ¬ o = 7) (hc : Hid (cmpB k = true)) (ho : Hid (ordB o = false)) :
    Calls Trym.prog 13 #[.int .i64 k, .int .i64 o] w fun e w' => e = .returned (.bool false) ∧ w' = w := by
  have b0 : (o == 0) = false := by simpa using h0
  have b1 : (o == 1) = false := by simpa using h1
  have b6 : (o == 6) = false := by simpa using h6
  have b7 : (o == 7) = false := by simpa using h7
  go_enter Trym.func13, Trym.ntmps13
  go_wp2_with (first | (go_at_call 21; refine (comparable_any _ true hc.out _).mono ?_; rintro e w' ⟨rfl, rfl⟩) | (go_at_call 29; refine (ordered_any _ false ho.out _).mono ?_; rintro e w' ⟨rfl, rfl⟩))
  go_ret
  exact ⟨rfl, rfl⟩

theorem takes_any (k o : Int) (b : Bool) (hb : takesB k o = b) (w : World) :
    Calls Trym.prog 13 #[.int .i64 k, .int .i64 o] w fun e w' => e = .returned (.bool b) ∧ w' = w := by
  subst hb
  cases hc : cmpB k with
  | false =>
    have e : takesB k o = false := by simp [takesB, hc]
    rw [e]; exact takes_no k o w hc
  | true =>
    cases ho : ordB o with
    | true =>
      have e : takesB k o = (k == 0 || k == 1 || k == 3) := by simp [takesB, hc, ho]
      rw [e]; exact takes_ord k o w _ rfl hc ho
    | false =>
      by_cases h67 : o = 6 ∨ o = 7
      · have e : takesB k o = (k == 2) := by simp [takesB, hc, ho, h67]
        rw [e]; exact takes_like k o w h67 hc
      · by_cases h01 : o = 0 ∨ o = 1
        · have e : takesB k o = true := by simp [takesB, hc, ho, h67, h01]
          rw [e]; exact takes_eq k o w h01 hc
        · have e : takesB k o = false := by
            have : (o == 6 || o == 7) = false := by simpa using h67
            have : (o == 0 || o == 1) = false := by simpa using h01
            simp [takesB, *]
          rw [e]; exact takes_else k o w (fun h => h01 (.inl h)) (fun h => h01 (.inr h)) (fun h => h67 (.inl h)) (fun h => h67 (.inr h)) hc ho

theorem zzOrdered_any (o : Int) (b : Bool) (hb : Hid (ordB o = b)) (w : World) :
    Calls Trym.prog 12 #[.int .i64 o] w fun e w' => e = .returned (.bool b) ∧ w' = w := by
  go_enter Trym.func12, Trym.ntmps12
  go_wp2_with (go_at_call 29; refine (ordered_any _ b hb.out _).mono ?_; rintro e w' ⟨rfl, rfl⟩)
  go_ret
  exact ⟨rfl, rfl⟩

end Go.Proofs.Qxb6001833aMods.Own
