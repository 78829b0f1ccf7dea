/- Plain functions behind the walks of seat b6001834aM: no Go in sight. -/
namespace Go.Proofs.Qxb6001834aMods.Own
/-- Kind.Comparable -/
def cmpB (k : Int) : Bool := !(k == 5) && !(k == 6)
/-- Op.ordered -/
def ordB (o : Int) : Bool := o == 2 || o == 3 || o == 4 || o == 5
/-- Kind.Takes -/
def takesB (k o : Int) : Bool :=
  if cmpB k then (if ordB o then (k == 0 || k == 1 || k == 3) else if o == 6 || o == 7 then k == 2 else o == 0 || o == 1) else false
/-- the documented table, read by operator -/
def modelB (k o : Int) : Bool :=
  if o == 0 || o == 1 then !(k == 5) && !(k == 6) else if ordB o then (k == 0 || k == 1 || k == 3) else if o == 6 || o == 7 then k == 2 else false
/-- Func.Takes at Min and Max -/
def minB (k : Int) : Bool := k == 0 || k == 1 || k == 3 || k == 2
/-- Func.Takes at Sum -/
def sumB (k : Int) : Bool := k == 0 || k == 1
theorem model_eq (k o : Int) : modelB k o = takesB k o := by
  cases hc : cmpB k with
  | true =>
    have h : (!(k == 5) && !(k == 6)) = true := hc
    by_cases h01 : o = 0 ∨ o = 1
    · rcases h01 with rfl | rfl <;> simp [modelB, takesB, hc, h, ordB]
    · have e : (o == 0 || o == 1) = false := by simpa using h01
      simp [modelB, takesB, hc, e]
  | false =>
    have h : (!(k == 5) && !(k == 6)) = false := hc
    have h56 : k = 5 ∨ k = 6 := by simp [cmpB] at hc; omega
    rcases h56 with rfl | rfl <;> simp [modelB, takesB, cmpB]
theorem less_takes (k : Int) : takesB k 2 = (k == 0 || k == 1 || k == 3) := by
  by_cases h5 : k = 5
  · subst h5; rfl
  by_cases h6 : k = 6
  · subst h6; rfl
  simp [takesB, cmpB, ordB, h5, h6]
theorem like_takes (k : Int) : takesB k 6 = (k == 2) := by
  by_cases h5 : k = 5
  · subst h5; rfl
  by_cases h6 : k = 6
  · subst h6; rfl
  simp [takesB, cmpB, ordB, h5, h6]
theorem equal_takes (k : Int) : takesB k 0 = cmpB k := by
  cases h : cmpB k <;> simp [takesB, ordB, h]
theorem min_takes (k : Int) : minB k = (takesB k 2 || takesB k 6) := by
  rw [less_takes, like_takes]; rfl
theorem sum_takes (k : Int) (h : sumB k = true) : takesB k 2 = true := by
  rw [less_takes]; simp [sumB] at h; simp; omega
end Go.Proofs.Qxb6001834aMods.Own
