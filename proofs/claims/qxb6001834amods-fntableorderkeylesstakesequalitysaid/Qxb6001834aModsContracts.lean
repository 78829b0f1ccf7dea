/- Contracts of Kind.Comparable, Op.ordered, Kind.Takes, zzTakesModel, Func.Takes over seat b6001834aM's translation. -/
import Derived.Test.Qxb6001834aModsRows
import Derived.Test.Qxb6001834aModsPlain
import Derived.WalkKit
import Derived.ProofKit
namespace Go.Proofs.Qxb6001834aMods.Own
open Go.RowKit

theorem comparable_any (k : Int) (b : Bool) (hb : cmpB k = b) (w : World) :
    Calls Trym.prog 36 #[.int .i64 k] w fun e w' => e = .returned (.bool b) ∧ w' = w := by
  by_cases h5 : k = 5
  · subst h5; obtain rfl : false = b := hb
    go_enter Trym.func36, Trym.ntmps36
    go_wp2
    go_ret
    exact ⟨rfl, rfl⟩
  by_cases h6 : k = 6
  · subst h6; obtain rfl : false = b := hb
    go_enter Trym.func36, Trym.ntmps36
    go_wp2
    go_ret
    exact ⟨rfl, rfl⟩
  have b5 : (k != 5) = true := by simpa using h5
  have b6 : (k != 6) = true := by simpa using h6
  obtain rfl : true = b := by rw [← hb]; simp [cmpB, h5, h6]
  clear hb
  go_enter Trym.func36, Trym.ntmps36
  go_wp2
  go_ret
  exact ⟨rfl, rfl⟩

theorem ordered_any (o : Int) (b : Bool) (hb : ordB o = b) (w : World) :
    Calls Trym.prog 44 #[.int .i64 o] w fun e w' => e = .returned (.bool b) ∧ w' = w := by
  by_cases h2 : o = 2
  · subst h2; obtain rfl : true = b := hb
    go_enter Trym.func44, Trym.ntmps44
    go_wp2
    go_ret
    exact ⟨rfl, rfl⟩
  by_cases h3 : o = 3
  · subst h3; obtain rfl : true = b := hb
    go_enter Trym.func44, Trym.ntmps44
    go_wp2
    go_ret
    exact ⟨rfl, rfl⟩
  by_cases h4 : o = 4
  · subst h4; obtain rfl : true = b := hb
    go_enter Trym.func44, Trym.ntmps44
    go_wp2
    go_ret
    exact ⟨rfl, rfl⟩
  by_cases h5 : o = 5
  · subst h5; obtain rfl : true = b := hb
    go_enter Trym.func44, Trym.ntmps44
    go_wp2
    go_ret
    exact ⟨rfl, rfl⟩
  obtain rfl : false = b := by rw [← hb]; simp [ordB, h2, h3, h4, h5]
  clear hb
  go_enter Trym.func44, Trym.ntmps44
  go_wp2
  go_ret
  exact ⟨rfl, rfl⟩

theorem takes_no (k o : Int) (w : World) (hc : Hid (cmpB k = false)) :
    Calls Trym.prog 32 #[.int .i64 k, .int .i64 o] w fun e w' => e = .returned (.bool false) ∧ w' = w := by
  go_enter Trym.func32, Trym.ntmps32
  go_wp2_with (go_at_call 36; refine (comparable_any _ false hc.out _).mono ?_; rintro e w' ⟨rfl, rfl⟩)
  go_ret
  exact ⟨rfl, rfl⟩

theorem takes_ord (k o : Int) (w : World) (b : Bool) (hb : (k == 0 || k == 1 || k == 3) = b) (hc : Hid (cmpB k = true)) (ho : Hid (ordB o = true)) :
    Calls Trym.prog 32 #[.int .i64 k, .int .i64 o] w fun e w' => e = .returned (.bool b) ∧ w' = w := by
  by_cases h0 : k = 0
  · subst h0; obtain rfl : true = b := hb
    go_enter Trym.func32, Trym.ntmps32
    go_wp2_with (first | (go_at_call 36; refine (comparable_any _ true hc.out _).mono ?_; rintro e w' ⟨rfl, rfl⟩) | (go_at_call 44; refine (ordered_any _ true ho.out _).mono ?_; rintro e w' ⟨rfl, rfl⟩))
    go_ret
    exact ⟨rfl, rfl⟩
  by_cases h1 : k = 1
  · subst h1; obtain rfl : true = b := hb
    go_enter Trym.func32, Trym.ntmps32
    go_wp2_with (first | (go_at_call 36; refine (comparable_any _ true hc.out _).mono ?_; rintro e w' ⟨rfl, rfl⟩) | (go_at_call 44; refine (ordered_any _ true ho.out _).mono ?_; rintro e w' ⟨rfl, rfl⟩))
    go_ret
    exact ⟨rfl, rfl⟩
  by_cases h3 : k = 3
  · subst h3; obtain rfl : true = b := hb
    go_enter Trym.func32, Trym.ntmps32
    go_wp2_with (first | (go_at_call 36; refine (comparable_any _ true hc.out _).mono ?_; rintro e w' ⟨rfl, rfl⟩) | (go_at_call 44; refine (ordered_any _ true ho.out _).mono ?_; rintro e w' ⟨rfl, rfl⟩))
    go_ret
    exact ⟨rfl, rfl⟩
  have b0 : (k == 0) = false := by simpa using h0
  have b1 : (k == 1) = false := by simpa using h1
  have b3 : (k == 3) = false := by simpa using h3
  obtain rfl : false = b := by rw [← hb]; simp [b0, b1, b3]
  clear hb
  go_enter Trym.func32, Trym.ntmps32
  go_wp2_with (first | (go_at_call 36; refine (comparable_any _ true hc.out _).mono ?_; rintro e w' ⟨rfl, rfl⟩) | (go_at_call 44; refine (ordered_any _ true ho.out _).mono ?_; rintro e w' ⟨rfl, rfl⟩))
  go_ret
  exact ⟨rfl, rfl⟩

theorem takes_like (k o : Int) (w : World) (h67 : o = 6 ∨ o = 7) (hc : Hid (cmpB k = true)) :
    Calls Trym.prog 32 #[.int .i64 k, .int .i64 o] w fun e w' => e = .returned (.bool (k == 2)) ∧ w' = w := by
  rcases h67 with h | h
  · subst h
    have ho : Hid (ordB 6 = false) := rfl
    go_enter Trym.func32, Trym.ntmps32
    go_wp2_with (first | (go_at_call 36; refine (comparable_any _ true hc.out _).mono ?_; rintro e w' ⟨rfl, rfl⟩) | (go_at_call 44; refine (ordered_any _ false ho.out _).mono ?_; rintro e w' ⟨rfl, rfl⟩))
    go_ret
    exact ⟨rfl, rfl⟩
  · subst h
    have ho : Hid (ordB 7 = false) := rfl
    go_enter Trym.func32, Trym.ntmps32
    go_wp2_with (first | (go_at_call 36; refine (comparable_any _ true hc.out _).mono ?_; rintro e w' ⟨rfl, rfl⟩) | (go_at_call 44; refine (ordered_any _ false ho.out _).mono ?_; rintro e w' ⟨rfl, rfl⟩))
    go_ret
    exact ⟨rfl, rfl⟩

theorem takes_eq (k o : Int) (w : World) (h01 : o = 0 ∨ o = 1) (hc : Hid (cmpB k = true)) :
    Calls Trym.prog 32 #[.int .i64 k, .int .i64 o] w fun e w' => e = .returned (.bool true) ∧ w' = w := by
  rcases h01 with h | h
  · subst h
    have ho : Hid (ordB 0 = false) := rfl
    go_enter Trym.func32, Trym.ntmps32
    go_wp2_with (first | (go_at_call 36; refine (comparable_any _ true hc.out _).mono ?_; rintro e w' ⟨rfl, rfl⟩) | (go_at_call 44; refine (ordered_any _ false ho.out _).mono ?_; rintro e w' ⟨rfl, rfl⟩))
    go_ret
    exact ⟨rfl, rfl⟩
  · subst h
    have ho : Hid (ordB 1 = false) := rfl
    go_enter Trym.func32, Trym.ntmps32
    go_wp2_with (first | (go_at_call 36; refine (comparable_any _ true hc.out _).mono ?_; rintro e w' ⟨rfl, rfl⟩) | (go_at_call 44; refine (ordered_any _ false ho.out _).mono ?_; rintro e w' ⟨rfl, rfl⟩))
    go_ret
    exact ⟨rfl, rfl⟩

theorem takes_else (k o : Int) (w : World) (h0 : ¬ o = 0) (h1 : ¬ o = 1) (h6 : ¬ o = 6) (h7 : ¬ o = 7) (hc : Hid (cmpB k = true)) (ho : Hid (ordB o = false)) :
    Calls Trym.prog 32 #[.int .i64 k, .int .i64 o] w fun e w' => e = .returned (.bool false) ∧ w' = w := by
  have b0 : (o == 0) = false := by simpa using h0
  have b1 : (o == 1) = false := by simpa using h1
  have b6 : (o == 6) = false := by simpa using h6
  have b7 : (o == 7) = false := by simpa using h7
  go_enter Trym.func32, Trym.ntmps32
  go_wp2_with (first | (go_at_call 36; refine (comparable_any _ true hc.out _).mono ?_; rintro e w' ⟨rfl, rfl⟩) | (go_at_call 44; refine (ordered_any _ false ho.out _).mono ?_; rintro e w' ⟨rfl, rfl⟩))
  go_ret
  exact ⟨rfl, rfl⟩

theorem takes_any (k o : Int) (b : Bool) (hb : takesB k o = b) (w : World) :
    Calls Trym.prog 32 #[.int .i64 k, .int .i64 o] w fun e w' => e = .returned (.bool b) ∧ w' = w := by
  subst hb
  cases hc : cmpB k with
  | false =>
    have e : takesB k o = false := by simp [takesB, hc]
    rw [e]; exact takes_no k o w hc
  | true =>
    cases ho : ordB o with
    | true =>
      have e : takesB k o = (k == 0 || k == 1 || k == 3) := by simp [takesB, hc, ho]
      rw [e]; exact takes_ord k o w _ rfl hc ho
    | false =>
      by_cases h67 : o = 6 ∨ o = 7
      · have e : takesB k o = (k == 2) := by simp [takesB, hc, ho, h67]
        rw [e]; exact takes_like k o w h67 hc
      · by_cases h01 : o = 0 ∨ o = 1
        · have e : takesB k o = true := by simp [takesB, hc, ho, h67, h01]
          rw [e]; exact takes_eq k o w h01 hc
        · have e : takesB k o = false := by
            have : (o == 6 || o == 7) = false := by simpa using h67
            have : (o == 0 || o == 1) = false := by simpa using h01
            simp [takesB, *]
          rw [e]; exact takes_else k o w (fun h => h01 (.inl h)) (fun h => h01 (.inr h)) (fun h => h67 (.inl h)) (fun h => h67 (.inr h)) hc ho

theorem model_cmp (k o : Int) (w : World) (h01 : o = 0 ∨ o = 1) (b : Bool) (hb : cmpB k = b) :
    Calls Trym.prog 34 #[.int .i64 k, .int .i64 o] w fun e w' => e = .returned (.bool b) ∧ w' = w := by
  by_cases h5 : k = 5
  · subst h5; obtain rfl : false = b := hb
    rcases h01 with h | h
    all_goals
      subst h
      go_enter Trym.func34, Trym.ntmps34
      go_wp2
      go_ret
      exact ⟨rfl, rfl⟩
  by_cases h6 : k = 6
  · subst h6; obtain rfl : false = b := hb
    rcases h01 with h | h
    all_goals
      subst h
      go_enter Trym.func34, Trym.ntmps34
      go_wp2
      go_ret
      exact ⟨rfl, rfl⟩
  have b5 : (k != 5) = true := by simpa using h5
  have b6 : (k != 6) = true := by simpa using h6
  obtain rfl : true = b := by rw [← hb]; simp [cmpB, h5, h6]
  clear hb
  rcases h01 with h | h
  all_goals
    subst h
    go_enter Trym.func34, Trym.ntmps34
    go_wp2
    go_ret
    exact ⟨rfl, rfl⟩

theorem model_ord (k o : Int) (w : World) (ho : o = 2 ∨ o = 3 ∨ o = 4 ∨ o = 5) (b : Bool) (hb : (k == 0 || k == 1 || k == 3) = b) :
    Calls Trym.prog 34 #[.int .i64 k, .int .i64 o] w fun e w' => e = .returned (.bool b) ∧ w' = w := by
  by_cases h0 : k = 0
  · subst h0; obtain rfl : true = b := hb
    rcases ho with h | h | h | h
    all_goals
      subst h
      go_enter Trym.func34, Trym.ntmps34
      go_wp2
      go_ret
      exact ⟨rfl, rfl⟩
  by_cases h1 : k = 1
  · subst h1; obtain rfl : true = b := hb
    rcases ho with h | h | h | h
    all_goals
      subst h
      go_enter Trym.func34, Trym.ntmps34
      go_wp2
      go_ret
      exact ⟨rfl, rfl⟩
  by_cases h3 : k = 3
  · subst h3; obtain rfl : true = b := hb
    rcases ho with h | h | h | h
    all_goals
      subst h
      go_enter Trym.func34, Trym.ntmps34
      go_wp2
      go_ret
      exact ⟨rfl, rfl⟩
  have b0 : (k == 0) = false := by simpa using h0
  have b1 : (k == 1) = false := by simpa using h1
  have b3 : (k == 3) = false := by simpa using h3
  obtain rfl : false = b := by rw [← hb]; simp [b0, b1, b3]
  clear hb
  rcases ho with h | h | h | h
  all_goals
    subst h
    go_enter Trym.func34, Trym.ntmps34
    go_wp2
    go_ret
    exact ⟨rfl, rfl⟩

theorem model_like (k o : Int) (w : World) (h67 : o = 6 ∨ o = 7) :
    Calls Trym.prog 34 #[.int .i64 k, .int .i64 o] w fun e w' => e = .returned (.bool (k == 2)) ∧ w' = w := by
  rcases h67 with h | h
  all_goals
    subst h
    go_enter Trym.func34, Trym.ntmps34
    go_wp2
    go_ret
    exact ⟨rfl, rfl⟩

theorem model_else (k o : Int) (w : World) (h0 : ¬ o = 0) (h1 : ¬ o = 1) (h2 : ¬ o = 2) (h3 : ¬ o = 3) (h4 : ¬ o = 4) (h5 : ¬ o = 5) (h6 : ¬ o = 6) (h7 : ¬ o = 7) :
    Calls Trym.prog 34 #[.int .i64 k, .int .i64 o] w fun e w' => e = .returned (.bool false) ∧ w' = w := by
  go_enter Trym.func34, Trym.ntmps34
  go_wp2
  go_ret
  exact ⟨rfl, rfl⟩

theorem model_any (k o : Int) (w : World) :
    Calls Trym.prog 34 #[.int .i64 k, .int .i64 o] w fun e w' => e = .returned (.bool (modelB k o)) ∧ w' = w := by
  by_cases h01 : o = 0 ∨ o = 1
  · have e : modelB k o = cmpB k := by rcases h01 with rfl | rfl <;> rfl
    rw [e]; exact model_cmp k o w h01 _ rfl
  by_cases ho : o = 2 ∨ o = 3 ∨ o = 4 ∨ o = 5
  · have e : modelB k o = (k == 0 || k == 1 || k == 3) := by rcases ho with rfl | rfl | rfl | rfl <;> rfl
    rw [e]; exact model_ord k o w ho _ rfl
  by_cases h67 : o = 6 ∨ o = 7
  · have e : modelB k o = (k == 2) := by rcases h67 with rfl | rfl <;> rfl
    rw [e]; exact model_like k o w h67
  have e : modelB k o = false := by
    have e1 : (o == 0 || o == 1) = false := by simpa using h01
    have e2 : ordB o = false := by simp [ordB]; omega
    have e3 : (o == 6 || o == 7) = false := by simpa using h67
    simp [modelB, e1, e2, e3]
  rw [e]; exact model_else k o w (by omega) (by omega) (by omega) (by omega) (by omega) (by omega) (by omega) (by omega)

theorem min_any (k : Int) (w : World) (b : Bool) (hb : minB k = b) :
    Calls Trym.prog 35 #[.int .i64 3, .int .i64 k] w fun e w' => e = .returned (.bool b) ∧ w' = w := by
  by_cases h0 : k = 0
  · subst h0; obtain rfl : true = b := hb
    go_enter Trym.func35, Trym.ntmps35
    go_wp2
    go_ret
    exact ⟨rfl, rfl⟩
  by_cases h1 : k = 1
  · subst h1; obtain rfl : true = b := hb
    go_enter Trym.func35, Trym.ntmps35
    go_wp2
    go_ret
    exact ⟨rfl, rfl⟩
  by_cases h3 : k = 3
  · subst h3; obtain rfl : true = b := hb
    go_enter Trym.func35, Trym.ntmps35
    go_wp2
    go_ret
    exact ⟨rfl, rfl⟩
  by_cases h2 : k = 2
  · subst h2; obtain rfl : true = b := hb
    go_enter Trym.func35, Trym.ntmps35
    go_wp2
    go_ret
    exact ⟨rfl, rfl⟩
  have b0 : (k == 0) = false := by simpa using h0
  have b1 : (k == 1) = false := by simpa using h1
  have b3 : (k == 3) = false := by simpa using h3
  have b2 : (k == 2) = false := by simpa using h2
  obtain rfl : false = b := by rw [← hb]; simp [minB, b0, b1, b3, b2]
  clear hb
  go_enter Trym.func35, Trym.ntmps35
  go_wp2
  go_ret
  exact ⟨rfl, rfl⟩

theorem max_any (k : Int) (w : World) (b : Bool) (hb : minB k = b) :
    Calls Trym.prog 35 #[.int .i64 4, .int .i64 k] w fun e w' => e = .returned (.bool b) ∧ w' = w := by
  by_cases h0 : k = 0
  · subst h0; obtain rfl : true = b := hb
    go_enter Trym.func35, Trym.ntmps35
    go_wp2
    go_ret
    exact ⟨rfl, rfl⟩
  by_cases h1 : k = 1
  · subst h1; obtain rfl : true = b := hb
    go_enter Trym.func35, Trym.ntmps35
    go_wp2
    go_ret
    exact ⟨rfl, rfl⟩
  by_cases h3 : k = 3
  · subst h3; obtain rfl : true = b := hb
    go_enter Trym.func35, Trym.ntmps35
    go_wp2
    go_ret
    exact ⟨rfl, rfl⟩
  by_cases h2 : k = 2
  · subst h2; obtain rfl : true = b := hb
    go_enter Trym.func35, Trym.ntmps35
    go_wp2
    go_ret
    exact ⟨rfl, rfl⟩
  have b0 : (k == 0) = false := by simpa using h0
  have b1 : (k == 1) = false := by simpa using h1
  have b3 : (k == 3) = false := by simpa using h3
  have b2 : (k == 2) = false := by simpa using h2
  obtain rfl : false = b := by rw [← hb]; simp [minB, b0, b1, b3, b2]
  clear hb
  go_enter Trym.func35, Trym.ntmps35
  go_wp2
  go_ret
  exact ⟨rfl, rfl⟩

theorem sum_any (k : Int) (w : World) (b : Bool) (hb : sumB k = b) :
    Calls Trym.prog 35 #[.int .i64 2, .int .i64 k] w fun e w' => e = .returned (.bool b) ∧ w' = w := by
  by_cases h0 : k = 0
  · subst h0; obtain rfl : true = b := hb
    go_enter Trym.func35, Trym.ntmps35
    go_wp2
    go_ret
    exact ⟨rfl, rfl⟩
  by_cases h1 : k = 1
  · subst h1; obtain rfl : true = b := hb
    go_enter Trym.func35, Trym.ntmps35
    go_wp2
    go_ret
    exact ⟨rfl, rfl⟩
  have b0 : (k == 0) = false := by simpa using h0
  have b1 : (k == 1) = false := by simpa using h1
  obtain rfl : false = b := by rw [← hb]; simp [sumB, b0, b1]
  clear hb
  go_enter Trym.func35, Trym.ntmps35
  go_wp2
  go_ret
  exact ⟨rfl, rfl⟩

end Go.Proofs.Qxb6001834aMods.Own
