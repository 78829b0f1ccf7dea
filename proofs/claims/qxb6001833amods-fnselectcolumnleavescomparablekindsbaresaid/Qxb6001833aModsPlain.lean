/- Plain functions behind the walks of seat b6001833aM: no Go in sight. -/
namespace Go.Proofs.Qxb6001833aMods.Own
/-- Kind.Comparable -/
def cmpB (k : Int) : Bool := !(k == 5) && !(k == 6)
/-- Op.ordered -/
def ordB (o : Int) : Bool := o == 2 || o == 3 || o == 4 || o == 5
/-- Kind.Takes -/
def takesB (k o : Int) : Bool :=
  if cmpB k then (if ordB o then (k == 0 || k == 1 || k == 3) else if o == 6 || o == 7 then k == 2 else o == 0 || o == 1) else false
theorem takes_bool_ord {o : Int} (h : ordB o = true) : takesB 4 o = false ∧ takesB 0 o = true ∧ takesB 1 o = true ∧ takesB 3 o = true ∧ takesB 2 o = false := by
  simp [takesB, h, cmpB]
theorem takes_bool_un {o : Int} (h : ordB o = false) : takesB 0 o = takesB 4 o ∧ takesB 1 o = takesB 4 o ∧ takesB 3 o = takesB 4 o := by
  simp [takesB, h, cmpB]
end Go.Proofs.Qxb6001833aMods.Own
