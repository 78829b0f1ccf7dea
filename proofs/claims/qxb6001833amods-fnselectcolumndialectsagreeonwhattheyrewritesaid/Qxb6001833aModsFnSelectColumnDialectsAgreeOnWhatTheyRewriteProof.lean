/-
  A proof of 'Rows.FnSelectColumnDialectsAgreeOnWhatTheyRewriteSaid'. The frame is the seat's shell (written by program); the walk and the theorem 'closed' (the row's closed facts one by one, for the kernel's memory) are this seat's own.
-/
import Derived.Test.Qxb6001833aModsRows
import Derived.Test.Qxb6001833aModsHead
import Derived.Test.Qxb6001833aModsTexts
import Derived.Test.Qxb6001833aModsColumns
import Derived.WalkKit
import Derived.ProofKit
import Derived.OpenShut
import Derived.ShutString
namespace Go.Proofs.Qxb6001833aMods.fnSelectColumnDialectsAgreeOnWhatTheyRewrite
open Go.ChangeShapes Go.WideShapes Go.ChangeAt Go.RowKit
open Go.ChangeMaps (open_string shut_string)
set_option linter.unusedVariables false      -- a walk need not use every 'w<i>' (that an integer argument fits its kind)

theorem own : ownKnob Trym.prog.godebug = none := by kernel_rfl

open Own

theorem bytes_yes (a : ByteArray) (k : Int) (b c : ByteArray) (w : World) (ha : a.size ≤ 65536) (hb : b.size ≤ 65536) (hc : c.size ≤ 65536) :
    Calls Trym.prog 14 #[.string a, .int .i64 k, .string b, .string c] w fun e w' => e = .returned (.bool true) ∧ w' = w := by
  go_enter Trym.func14, Trym.ntmps14
  go_wp2
  go_ret
  exact ⟨rfl, rfl⟩

theorem bytes_some (a : ByteArray) (k : Int) (b c : ByteArray) (w : World) :
    Calls Trym.prog 14 #[.string a, .int .i64 k, .string b, .string c] w fun e w' => (∃ x, e = .returned (.bool x)) ∧ w' = w := by
  go_enter Trym.func14, Trym.ntmps14
  go_wp2
  all_goals
    go_ret
    exact ⟨⟨_, rfl⟩, rfl⟩

theorem walk_long (a0 : ByteArray) (a1 : Int) (a2 : ByteArray) (a3 : ByteArray) (w : World) (hl : 65536 < a0.size ∨ a0.size ≤ 65536 ∧ 65536 < a2.size ∨ a0.size ≤ 65536 ∧ a2.size ≤ 65536 ∧ 65536 < a3.size) :
    Calls Trym.prog 4 #[.string a0, .int .i64 a1, .string a2, .string a3] w fun e w' => e = .returned (.bool true) ∧ Grown w w' := by
  rcases hl with h | ⟨h0, h⟩ | ⟨h0, h2, h⟩
  all_goals
    go_enter Trym.func4, Trym.ntmps4
    go_wp2_with fail
    refine (bytes_some _ _ _ _ _).mono ?_
    rintro e w' ⟨⟨x, rfl⟩, rfl⟩
    cases x
    all_goals
      go_wp2
      go_ret
      exact ⟨rfl, Grown.refl _⟩

theorem m_size (col : ByteArray) : ({ data := #[67, 65, 83, 84, 40] } ++ col ++ { data := #[32, 65, 83, 32, 67, 72, 65, 82, 41] }).size = col.size + 14 := by
  rw [ByteArray.size_append, ByteArray.size_append, show ({ data := #[67, 65, 83, 84, 40] } : ByteArray).size = 5 from rfl, show ({ data := #[32, 65, 83, 32, 67, 72, 65, 82, 41] } : ByteArray).size = 9 from rfl]; omega
theorem p_size (col : ByteArray) : (col ++ { data := #[58, 58, 116, 101, 120, 116] }).size = col.size + 6 := by
  rw [ByteArray.size_append]; rfl
theorem m_ne (col : ByteArray) : (({ data := #[67, 65, 83, 84, 40] } ++ col ++ { data := #[32, 65, 83, 32, 67, 72, 65, 82, 41] }).toList == col.toList) = false := size_ne (by rw [m_size]; omega)
theorem p_ne (col : ByteArray) : ((col ++ { data := #[58, 58, 116, 101, 120, 116] }).toList == col.toList) = false := size_ne (by rw [p_size]; omega)
theorem m_front (col : ByteArray) : ({ data := #[67, 65, 83, 84, 40] } ++ col ++ { data := #[32, 65, 83, 32, 67, 72, 65, 82, 41] }).extract 0 ({ data := #[67, 65, 83, 84, 40] } : ByteArray).size = { data := #[67, 65, 83, 84, 40] } := by
  rw [ByteArray.append_assoc]; exact extract_front _ _
theorem m_back (col : ByteArray) : ({ data := #[67, 65, 83, 84, 40] } ++ col ++ { data := #[32, 65, 83, 32, 67, 72, 65, 82, 41] }).extract (({ data := #[67, 65, 83, 84, 40] } ++ col ++ { data := #[32, 65, 83, 32, 67, 72, 65, 82, 41] }).size - ({ data := #[32, 65, 83, 32, 67, 72, 65, 82, 41] } : ByteArray).size) ({ data := #[67, 65, 83, 84, 40] } ++ col ++ { data := #[32, 65, 83, 32, 67, 72, 65, 82, 41] }).size = { data := #[32, 65, 83, 32, 67, 72, 65, 82, 41] } :=
  extract_back _ _ _ (by rw [ByteArray.size_append (b := { data := #[32, 65, 83, 32, 67, 72, 65, 82, 41] })]; omega)
theorem m_mid (col : ByteArray) (i : Nat) (hi : i = col.size + 5) : ({ data := #[67, 65, 83, 84, 40] } ++ col ++ { data := #[32, 65, 83, 32, 67, 72, 65, 82, 41] }).extract 5 i = col :=
  extract_mid _ _ _ _ _ rfl (by rw [hi, show ({ data := #[67, 65, 83, 84, 40] } : ByteArray).size = 5 from rfl]; omega)
theorem p_back (col : ByteArray) : (col ++ { data := #[58, 58, 116, 101, 120, 116] }).extract ((col ++ { data := #[58, 58, 116, 101, 120, 116] }).size - ({ data := #[58, 58, 116, 101, 120, 116] } : ByteArray).size) (col ++ { data := #[58, 58, 116, 101, 120, 116] }).size = { data := #[58, 58, 116, 101, 120, 116] } :=
  extract_back _ _ _ (by rw [ByteArray.size_append]; omega)
theorem p_front (col : ByteArray) (i : Nat) (hi : i = col.size) : (col ++ { data := #[58, 58, 116, 101, 120, 116] }).extract 0 i = col := by
  rw [hi]; exact extract_front _ _

theorem walk_bare (a0 : ByteArray) (a1 : Int) (a2 : ByteArray) (a3 : ByteArray) (w : World) (h0 : a0.size ≤ 65536) (h2 : a2.size ≤ 65536) (h3 : a3.size ≤ 65536) (h6 : ¬ a1 = 6) :
    Calls Trym.prog 4 #[.string a0, .int .i64 a1, .string a2, .string a3] w fun e w' => e = .returned (.bool true) ∧ Grown w w' := by
  have hkind := column_kind a1 a2 a3 w
  have hg := column_grown a1 a2 a3 w
  have hz : w.heap.size < (w.alloc (colObj a1 a2 a3)).heap.size := by rw [column_size]; omega
  go_enter Trym.func4, Trym.ntmps4
  go_wp2_with fail
  refine (bytes_yes _ _ _ _ _ h0 h2 h3).mono ?_
  rintro e w' ⟨rfl, rfl⟩
  go_wp2_with fail
  refine (column_any _ _ _ _).mono ?_
  rintro e w1 ⟨rfl, hw1⟩
  rw [← hw1] at hkind hg hz
  clear hw1
  go_wp2_with fail
  refine (zzMaria_bare _ _ _ _ hz hkind h6).mono ?_
  rintro e w2 ⟨rfl, hw2⟩
  have hkind2 : w2.cell? ⟨w'.heap.size, 1, none⟩ = some (.int .i64 a1) := by rw [hw2]; go_simp
  have hz2 : w'.heap.size < w2.heap.size := by rw [hw2]; simp; omega
  have hg2 : Grown w' w2 := by rw [hw2]; exact Grown.alloc hg _ _
  clear hw2
  go_wp2_with fail
  refine (zzPost_bare _ _ _ _ hz2 hkind2 h6).mono ?_
  rintro e w3 ⟨rfl, hw3⟩
  have hg3 : Grown w' w3 := by rw [hw3]; exact Grown.alloc hg2 _ _
  clear hw3
  go_wp2
  go_ret
  exact ⟨rfl, hg3⟩

theorem walk_other (a0 : ByteArray) (a2 : ByteArray) (a3 : ByteArray) (w : World) (h0 : a0.size ≤ 65536) (h2 : a2.size ≤ 65536) (h3 : a3.size ≤ 65536) :
    Calls Trym.prog 4 #[.string a0, .int .i64 6, .string a2, .string a3] w fun e w' => e = .returned (.bool true) ∧ Grown w w' := by
  have hkind := column_kind 6 a2 a3 w
  have hg := column_grown 6 a2 a3 w
  have hz : w.heap.size < (w.alloc (colObj 6 a2 a3)).heap.size := by rw [column_size]; omega
  go_enter Trym.func4, Trym.ntmps4
  go_wp2_with fail
  refine (bytes_yes _ _ _ _ _ h0 h2 h3).mono ?_
  rintro e w' ⟨rfl, rfl⟩
  go_wp2_with fail
  refine (column_any _ _ _ _).mono ?_
  rintro e w1 ⟨rfl, hw1⟩
  rw [← hw1] at hkind hg hz
  clear hw1
  go_wp2_with fail
  refine (zzMaria_other _ _ _ hz hkind h0).mono ?_
  rintro e w2 ⟨rfl, hw2⟩
  have hkind2 : w2.cell? ⟨w'.heap.size, 1, none⟩ = some (.int .i64 6) := by rw [hw2]; go_simp
  have hz2 : w'.heap.size < w2.heap.size := by rw [hw2]; simp; omega
  have hg2 : Grown w' w2 := by rw [hw2]; exact Grown.alloc hg _ _
  clear hw2
  go_wp2_with fail
  refine (zzPost_other _ _ _ hz2 hkind2 h0).mono ?_
  rintro e w3 ⟨rfl, hw3⟩
  have hg3 : Grown w' w3 := by rw [hw3]; exact Grown.alloc hg2 _ _
  clear hw3 hg2 hg hz hz2 hkind hkind2
  generalize hm : ({ data := #[67, 65, 83, 84, 40] } ++ a0 ++ { data := #[32, 65, 83, 32, 67, 72, 65, 82, 41] }) = m
  generalize hp : (a0 ++ { data := #[58, 58, 116, 101, 120, 116] }) = p
  have ms : m.size = a0.size + 14 := by rw [← hm]; exact m_size a0
  have ps : p.size = a0.size + 6 := by rw [← hp]; exact p_size a0
  have mn : (m.toList == a0.toList) = false := by rw [← hm]; exact m_ne a0
  have pn : (p.toList == a0.toList) = false := by rw [← hp]; exact p_ne a0
  have mf : Hid (m.extract 0 ({ data := #[67, 65, 83, 84, 40] } : ByteArray).size = { data := #[67, 65, 83, 84, 40] }) := by rw [← hm]; exact m_front a0
  have mb : Hid (m.extract (m.size - ({ data := #[32, 65, 83, 32, 67, 72, 65, 82, 41] } : ByteArray).size) m.size = { data := #[32, 65, 83, 32, 67, 72, 65, 82, 41] }) := by rw [← hm]; exact m_back a0
  have mm : m.extract 5 (a0.size + 5) = a0 := by rw [← hm]; exact m_mid a0 _ rfl
  have pb : Hid (p.extract (p.size - ({ data := #[58, 58, 116, 101, 120, 116] } : ByteArray).size) p.size = { data := #[58, 58, 116, 101, 120, 116] }) := by rw [← hp]; exact p_back a0
  have pf : p.extract 0 a0.size = a0 := by rw [← hp]; exact p_front a0 _ rfl
  have M14 : 14 ≤ m.size ∧ m.size ≤ 131072 := by omega
  have P6 : 6 ≤ p.size ∧ p.size ≤ 131072 := by omega
  clear hm hp
  go_wp2_with fail
  refine (hasPrefix_eq _ _ _ (Nat.le_trans (by decide : 5 ≤ 14) M14.1) mf).mono ?_
  rintro e w4 ⟨rfl, rfl⟩
  go_wp2_with fail
  refine (hasSuffix_eq _ _ _ (Nat.le_trans (by decide : 9 ≤ 14) M14.1) M14.2 mb).mono ?_
  rintro e w5 ⟨rfl, rfl⟩
  go_wp2_with fail
  refine (hasSuffix_eq _ _ _ (Nat.le_trans (by decide : 6 ≤ 6) P6.1) P6.2 pb).mono ?_
  rintro e w6 ⟨rfl, rfl⟩
  go_wp2
  go_ret
  exact ⟨rfl, hg3⟩

/-! ### STEP 1: THE WALK: the Go text returns true and writes nothing that was there. -/
theorem walk (a0 : ByteArray) (a1 : Int) (a2 : ByteArray) (a3 : ByteArray) (w0 : a0.size ≤ maxLen) (w1 : (Lit.int .i64 a1).wf = true) (w2 : a2.size ≤ maxLen) (w3 : a3.size ≤ maxLen) (w : World) :
    Calls Trym.prog 4 #[.string a0, .int .i64 a1, .string a2, .string a3] w fun e w' => e = .returned (.bool true) ∧ Grown w w' := by
  by_cases hl : 65536 < a0.size ∨ a0.size ≤ 65536 ∧ 65536 < a2.size ∨ a0.size ≤ 65536 ∧ a2.size ≤ 65536 ∧ 65536 < a3.size
  · exact walk_long a0 a1 a2 a3 w hl
  by_cases h6 : a1 = 6
  · subst h6
    exact walk_other a0 a2 a3 w (by omega) (by omega) (by omega)
  · exact walk_bare a0 a1 a2 a3 w (by omega) (by omega) (by omega) h6

/-! ### THE ROW's STEP: WRITTEN OUT: LEAVE IT -/
set_option maxRecDepth 100000 in
theorem lifted (os : Os) (started : os.Started) (H : Type) (enc : TypeId × Value → H) :
    ReturnsInHanded {} Trym.checked os 4 .any (Rows.fnSelectColumnDialectsAgreeOnWhatTheyRewriteSpec.pre6 enc Trym.prog Trym.f4 Rows.fnSelectColumnDialectsAgreeOnWhatTheyRewriteRow.domain false) (Rows.fnSelectColumnDialectsAgreeOnWhatTheyRewriteSpec.post enc Trym.prog Trym.f4 false true false false) := by
  refine returnsInHanded_of_change (C := Trym.checked) own started (by kernel_rfl) Trym.func4
    (ChangeSpec.witness6 (enc := enc) (C := Trym.checked) false ⟨#[], #[.string ByteArray.empty, .int .i64 0, .string ByteArray.empty, .string ByteArray.empty], []⟩ 8 (by kernel_rfl) (by kernel_rfl) (by kernel_rfl) (by kernel_rfl)) ?_
  intro W base args ds gs before hval0 hW hcnd _
  have hval : ∀ (j : Nat) t v, Trym.f4.params[j]? = some t → args[j]? = some v → Value.okWide Trym.prog W .any base t v := hval0
  have hW' := hW
  obtain ⟨p, q, hA0, hV, rfl, hfz, hnd⟩ := hW
  have hA : DataW.TrodAll enc Trym.prog W 0 (fun _ => true) true Trym.f4.params.toList args.toList ds p := hA0
  rw [Trym.params4] at hA hval
  obtain ⟨v0, vs0, d0, ds0, p0, q0, hargs, rfl, rfl, h0, r0⟩ := trodAll_cons hA
  obtain ⟨v1, vs1, d1, ds1, p1, q1, rfl, rfl, rfl, h1, r1⟩ := trodAll_cons r0
  obtain ⟨v2, vs2, d2, ds2, p2, q2, rfl, rfl, rfl, h2, r2⟩ := trodAll_cons r1
  obtain ⟨v3, vs3, d3, ds3, p3, q3, rfl, rfl, rfl, h3, r3⟩ := trodAll_cons r2
  obtain ⟨rfl, rfl, rfl⟩ := trodAll_nil r3
  obtain rfl : args = #[v0, v1, v2, v3] := by cases args; simp_all
  obtain ⟨rfl, rfl⟩ := trodVars_none hV
  obtain ⟨a0, rfl, rfl, rfl, w0⟩ := open_string Trym.underlying9 (hval 0 9 v0 rfl rfl) h0
  obtain ⟨a1, rfl, rfl, rfl, w1⟩ := open_int Trym.underlying3 (hval 1 3 v1 rfl rfl) h1
  obtain ⟨a2, rfl, rfl, rfl, w2⟩ := open_string Trym.underlying9 (hval 2 9 v2 rfl rfl) h2
  obtain ⟨a3, rfl, rfl, rfl, w3⟩ := open_string Trym.underlying9 (hval 3 9 v3 rfl rfl) h3
  clear hA0 hval0
  simp only [List.append_nil] at hW'
  refine (walk a0 a1 a2 a3 w0 w1 w2 w3 W).mono fun e W' ⟨he, hg⟩ => ?_
  subst he
  exact ⟨_, rfl, post_of_same (pa := []) (pv := []) hW' (fun _ _ _ => (trodAll_cons_mk (shut_bool Trym.underlying4 _) trodAll_mk0)) (fun sp _ => (trodAll_cons_mk (shut_string Trym.underlying9 w0) (trodAll_cons_mk (shut_int Trym.underlying3 w1) (trodAll_cons_mk (shut_string Trym.underlying9 w2) (trodAll_cons_mk (shut_string Trym.underlying9 w3) trodAll_mk0))))) (fun _ _ => rfl) rfl
    (hg.frame _) hg.2.1 (ok_one (by kernel_rfl) rfl (okWide_bool_mk Trym.underlying4 _))⟩

theorem closed : joinedFacts Trym.prog 4 Trym.f4 Rows.fnSelectColumnDialectsAgreeOnWhatTheyRewriteSpec Rows.fnSelectColumnDialectsAgreeOnWhatTheyRewriteRow = true := by
  unfold joinedFacts
  simp only [Bool.and_eq_true]
  exact ⟨⟨⟨⟨⟨⟨⟨⟨⟨⟨⟨⟨⟨⟨⟨⟨⟨⟨⟨⟨⟨⟨⟨⟨⟨⟨⟨⟨⟨⟨⟨by kernel_rfl, by kernel_rfl⟩, by kernel_rfl⟩, by kernel_rfl⟩, by kernel_rfl⟩, by kernel_rfl⟩, by kernel_rfl⟩, by kernel_rfl⟩, by kernel_rfl⟩, by kernel_rfl⟩, by kernel_rfl⟩, by kernel_rfl⟩, by kernel_rfl⟩, by kernel_rfl⟩, by kernel_rfl⟩, by kernel_rfl⟩, by kernel_rfl⟩, by kernel_rfl⟩, by kernel_rfl⟩, by kernel_rfl⟩, by kernel_rfl⟩, by kernel_rfl⟩, by kernel_rfl⟩, by kernel_rfl⟩, by kernel_rfl⟩, Own.mayEnter⟩, by rw [Own.liftsFinal]; kernel_rfl⟩, by rw [Own.made]; kernel_rfl⟩, by kernel_rfl⟩, by kernel_rfl⟩, by kernel_rfl⟩, by kernel_rfl⟩

theorem over : Rows.fnSelectColumnDialectsAgreeOnWhatTheyRewriteRow.holds Trym.pinned (OpenSpec.ofChange Rows.fnSelectColumnDialectsAgreeOnWhatTheyRewriteSpec) :=
  OpenClaim.holds_of_wide 4 Trym.f4 rfl rfl rfl rfl rfl rfl rfl ⟨rfl, rfl, rfl, rfl, rfl⟩ rfl rfl rfl rfl rfl (by kernel_rfl) Trym.func4 closed
    (of_decide_eq_true (by kernel_rfl)) (by unfold Func.isWrapper; first | (rw [if_pos (by decide +kernel)]; kernel_rfl) | (rw [if_neg (by decide +kernel)]; exact ⟨rfl, rfl⟩))
    (fun os started H enc _ => lifted os started H enc)

/-- ████ THE STATEMENT ████ -/
theorem proved : Rows.FnSelectColumnDialectsAgreeOnWhatTheyRewriteSaid :=
  over
end Go.Proofs.Qxb6001833aMods.fnSelectColumnDialectsAgreeOnWhatTheyRewrite
