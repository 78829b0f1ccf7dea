/-
  A proof of 'Rows.FnOrderByDescendingExtendsAscendingSaid'. The frame is the seat's shell (written by program); the walk and the theorem 'closed' (the row's closed facts one by one, for the kernel's memory) are this seat's own.
-/
import Derived.Test.Qxb6001833aModsRows
import Derived.Test.Qxb6001833aModsHead
import Derived.Test.Qxb6001833aModsTexts
import Derived.WalkKit
import Derived.ProofKit
import Derived.OpenShut
import Derived.ShutString
namespace Go.Proofs.Qxb6001833aMods.fnOrderByDescendingExtendsAscending
open Go.ChangeShapes Go.WideShapes Go.ChangeAt Go.RowKit
open Go.ChangeMaps (open_string shut_string)
set_option linter.unusedVariables false      -- a walk need not use every 'w<i>' (that an integer argument fits its kind)

theorem own : ownKnob Trym.prog.godebug = none := by kernel_rfl

open Own

theorem bytes_yes (a : ByteArray) (w : World) (h : a.size ≤ 1048576) :
    Calls Trym.prog 25 #[.string a] w fun e w' => e = .returned (.bool true) ∧ w' = w := by
  go_enter Trym.func25, Trym.ntmps25
  go_wp2
  go_ret
  exact ⟨rfl, rfl⟩

theorem bytes_no (a : ByteArray) (w : World) (h : 1048576 < a.size) :
    Calls Trym.prog 25 #[.string a] w fun e w' => e = .returned (.bool false) ∧ w' = w := by
  go_enter Trym.func25, Trym.ntmps25
  go_wp2
  go_ret
  exact ⟨rfl, rfl⟩

theorem inner_asc (v : ByteArray) (w : World) :
    Calls Trym.prog 32 #[.agg #[], .string v, .pointer none, .agg #[.int .i64 0, .pointer none], .bool false] w fun e w' => e = .returned (.string v) ∧ Grown w w' := by
  go_enter Trym.func32, Trym.ntmps32
  go_wp2
  go_ret
  exact ⟨rfl, by repeat (first | exact Grown.refl _ | apply Grown.drew | apply Grown.alloc)⟩

theorem inner_desc (v : ByteArray) (w : World) (h : v.size ≤ 65536) :
    Calls Trym.prog 32 #[.agg #[], .string v, .pointer none, .agg #[.int .i64 0, .pointer none], .bool true] w fun e w' => e = .returned (.string (v ++ { data := #[32, 68, 69, 83, 67, 32, 78, 85, 76, 76, 83, 32, 76, 65, 83, 84] })) ∧ Grown w w' := by
  go_enter Trym.func32, Trym.ntmps32
  go_wp2
  go_ret
  exact ⟨rfl, by repeat (first | exact Grown.refl _ | apply Grown.drew | apply Grown.alloc)⟩

theorem orderBy_asc (v : ByteArray) (w : World) :
    Calls Trym.prog 26 #[.string v, .pointer none, .agg #[.int .i64 0, .pointer none], .bool false] w fun e w' => e = .returned (.string v) ∧ Grown w w' := by
  go_enter Trym.func26, Trym.ntmps26
  go_wp2_with fail
  refine (inner_asc _ _).mono ?_
  rintro e w' ⟨rfl, g⟩
  go_wp2
  go_ret
  exact ⟨rfl, grown_trans (Grown.alloc (Grown.refl _) _ _) g⟩

theorem orderBy_desc (v : ByteArray) (w : World) (h : v.size ≤ 65536) :
    Calls Trym.prog 26 #[.string v, .pointer none, .agg #[.int .i64 0, .pointer none], .bool true] w fun e w' => e = .returned (.string (v ++ { data := #[32, 68, 69, 83, 67, 32, 78, 85, 76, 76, 83, 32, 76, 65, 83, 84] })) ∧ Grown w w' := by
  go_enter Trym.func26, Trym.ntmps26
  go_wp2_with fail
  refine (inner_desc _ _ h).mono ?_
  rintro e w' ⟨rfl, g⟩
  go_wp2
  go_ret
  exact ⟨rfl, grown_trans (Grown.alloc (Grown.refl _) _ _) g⟩

theorem desc_size (v : ByteArray) : (v ++ { data := #[32, 68, 69, 83, 67, 32, 78, 85, 76, 76, 83, 32, 76, 65, 83, 84] }).size = v.size + 16 := by
  rw [ByteArray.size_append]; rfl
theorem desc_ne (v : ByteArray) : ((v ++ { data := #[32, 68, 69, 83, 67, 32, 78, 85, 76, 76, 83, 32, 76, 65, 83, 84] }).toList == v.toList) = false :=
  size_ne (by rw [desc_size]; omega)
theorem desc_tail (v : ByteArray) : (v ++ { data := #[32, 68, 69, 83, 67, 32, 78, 85, 76, 76, 83, 32, 76, 65, 83, 84] }).extract ((v ++ { data := #[32, 68, 69, 83, 67, 32, 78, 85, 76, 76, 83, 32, 76, 65, 83, 84] }).size - ({ data := #[32, 78, 85, 76, 76, 83, 32, 76, 65, 83, 84] } : ByteArray).size) (v ++ { data := #[32, 68, 69, 83, 67, 32, 78, 85, 76, 76, 83, 32, 76, 65, 83, 84] }).size = { data := #[32, 78, 85, 76, 76, 83, 32, 76, 65, 83, 84] } := by
  rw [show v ++ { data := #[32, 68, 69, 83, 67, 32, 78, 85, 76, 76, 83, 32, 76, 65, 83, 84] } = (v ++ { data := #[32, 68, 69, 83, 67] }) ++ { data := #[32, 78, 85, 76, 76, 83, 32, 76, 65, 83, 84] } by rw [ByteArray.append_assoc]; rfl]
  exact extract_back _ _ _ (by rw [ByteArray.size_append]; omega)

theorem walk_main (v : ByteArray) (w : World) (h : v.size ≤ 65536) :
    Calls Trym.prog 9 #[.string v] w fun e w' => e = .returned (.bool true) ∧ Grown w w' := by
  have hn := desc_ne v
  have hs : Hid ((v ++ { data := #[32, 68, 69, 83, 67, 32, 78, 85, 76, 76, 83, 32, 76, 65, 83, 84] }).size = v.size + 16) := desc_size v
  go_enter Trym.func9, Trym.ntmps9
  go_wp2_with fail
  refine (bytes_yes _ _ (by omega)).mono ?_
  rintro e w' ⟨rfl, rfl⟩
  go_wp2_with fail
  refine (orderBy_asc _ _).mono ?_
  rintro e w1 ⟨rfl, g1⟩
  go_wp2_with fail
  refine (orderBy_desc _ _ h).mono ?_
  rintro e w2 ⟨rfl, g2⟩
  go_wp2_with fail
  refine (hasPrefix_eq _ _ _ (by rw [hs.out]; omega) (extract_front _ _)).mono ?_
  rintro e w3 ⟨rfl, rfl⟩
  go_wp2_with fail
  refine (hasSuffix_eq _ _ _ (by rw [hs.out]; exact Nat.le_trans (by decide : 11 ≤ 16) (Nat.le_add_left _ _)) (by rw [hs.out]; omega) (desc_tail v)).mono ?_
  rintro e w4 ⟨rfl, rfl⟩
  go_wp2
  go_ret
  exact ⟨rfl, grown_trans g1 g2⟩

/-! ### STEP 1: THE WALK: the Go text returns true and writes nothing that was there. -/
theorem walk (a0 : ByteArray) (w0 : a0.size ≤ maxLen) (w : World) :
    Calls Trym.prog 9 #[.string a0] w fun e w' => e = .returned (.bool true) ∧ Grown w w' := by
  by_cases h1 : 1048576 < a0.size
  · go_enter Trym.func9, Trym.ntmps9
    go_wp2_with (go_at_call 25; refine (bytes_no _ _ h1).mono ?_; rintro e w' ⟨rfl, rfl⟩)
    go_ret
    exact ⟨rfl, Grown.refl _⟩
  by_cases h2 : 65536 < a0.size
  · go_enter Trym.func9, Trym.ntmps9
    go_wp2_with (go_at_call 25; refine (bytes_yes _ _ (by omega)).mono ?_; rintro e w' ⟨rfl, rfl⟩)
    go_ret
    exact ⟨rfl, Grown.refl _⟩
  exact walk_main a0 w (by omega)

/-! ### THE ROW's STEP: WRITTEN OUT: LEAVE IT -/
set_option maxRecDepth 100000 in
theorem lifted (os : Os) (started : os.Started) (H : Type) (enc : TypeId × Value → H) :
    ReturnsInHanded {} Trym.checked os 9 .any (Rows.fnOrderByDescendingExtendsAscendingSpec.pre6 enc Trym.prog Trym.f9 Rows.fnOrderByDescendingExtendsAscendingRow.domain false) (Rows.fnOrderByDescendingExtendsAscendingSpec.post enc Trym.prog Trym.f9 false true false false) := by
  refine returnsInHanded_of_change (C := Trym.checked) own started (by kernel_rfl) Trym.func9
    (ChangeSpec.witness6 (enc := enc) (C := Trym.checked) false ⟨#[], #[.string ByteArray.empty], []⟩ 8 (by kernel_rfl) (by kernel_rfl) (by kernel_rfl) (by kernel_rfl)) ?_
  intro W base args ds gs before hval0 hW hcnd _
  have hval : ∀ (j : Nat) t v, Trym.f9.params[j]? = some t → args[j]? = some v → Value.okWide Trym.prog W .any base t v := hval0
  have hW' := hW
  obtain ⟨p, q, hA0, hV, rfl, hfz, hnd⟩ := hW
  have hA : DataW.TrodAll enc Trym.prog W 0 (fun _ => true) true Trym.f9.params.toList args.toList ds p := hA0
  rw [Trym.params9] at hA hval
  obtain ⟨v0, vs0, d0, ds0, p0, q0, hargs, rfl, rfl, h0, r0⟩ := trodAll_cons hA
  obtain ⟨rfl, rfl, rfl⟩ := trodAll_nil r0
  obtain rfl : args = #[v0] := by cases args; simp_all
  obtain ⟨rfl, rfl⟩ := trodVars_none hV
  obtain ⟨a0, rfl, rfl, rfl, w0⟩ := open_string Trym.underlying9 (hval 0 9 v0 rfl rfl) h0
  clear hA0 hval0
  simp only [List.append_nil] at hW'
  refine (walk a0 w0 W).mono fun e W' ⟨he, hg⟩ => ?_
  subst he
  exact ⟨_, rfl, post_of_same (pa := []) (pv := []) hW' (fun _ _ _ => (trodAll_cons_mk (shut_bool Trym.underlying4 _) trodAll_mk0)) (fun sp _ => (trodAll_cons_mk (shut_string Trym.underlying9 w0) trodAll_mk0)) (fun _ _ => rfl) rfl
    (hg.frame _) hg.2.1 (ok_one (by kernel_rfl) rfl (okWide_bool_mk Trym.underlying4 _))⟩

theorem closed : joinedFacts Trym.prog 9 Trym.f9 Rows.fnOrderByDescendingExtendsAscendingSpec Rows.fnOrderByDescendingExtendsAscendingRow = true := by
  unfold joinedFacts
  simp only [Bool.and_eq_true]
  exact ⟨⟨⟨⟨⟨⟨⟨⟨⟨⟨⟨⟨⟨⟨⟨⟨⟨⟨⟨⟨⟨⟨⟨⟨⟨⟨⟨⟨⟨⟨⟨by kernel_rfl, by kernel_rfl⟩, by kernel_rfl⟩, by kernel_rfl⟩, by kernel_rfl⟩, by kernel_rfl⟩, by kernel_rfl⟩, by kernel_rfl⟩, by kernel_rfl⟩, by kernel_rfl⟩, by kernel_rfl⟩, by kernel_rfl⟩, by kernel_rfl⟩, by kernel_rfl⟩, by kernel_rfl⟩, by kernel_rfl⟩, by kernel_rfl⟩, by kernel_rfl⟩, by kernel_rfl⟩, by kernel_rfl⟩, by kernel_rfl⟩, by kernel_rfl⟩, by kernel_rfl⟩, by kernel_rfl⟩, by kernel_rfl⟩, Own.mayEnter⟩, by rw [Own.liftsFinal]; kernel_rfl⟩, by rw [Own.made]; kernel_rfl⟩, by kernel_rfl⟩, by kernel_rfl⟩, by kernel_rfl⟩, by kernel_rfl⟩

theorem over : Rows.fnOrderByDescendingExtendsAscendingRow.holds Trym.pinned (OpenSpec.ofChange Rows.fnOrderByDescendingExtendsAscendingSpec) :=
  OpenClaim.holds_of_wide 9 Trym.f9 rfl rfl rfl rfl rfl rfl rfl ⟨rfl, rfl, rfl, rfl, rfl⟩ rfl rfl rfl rfl rfl (by kernel_rfl) Trym.func9 closed
    (of_decide_eq_true (by kernel_rfl)) (by unfold Func.isWrapper; first | (rw [if_pos (by decide +kernel)]; kernel_rfl) | (rw [if_neg (by decide +kernel)]; exact ⟨rfl, rfl⟩))
    (fun os started H enc _ => lifted os started H enc)

/-- ████ THE STATEMENT ████ -/
theorem proved : Rows.FnOrderByDescendingExtendsAscendingSaid :=
  over
end Go.Proofs.Qxb6001833aMods.fnOrderByDescendingExtendsAscending
