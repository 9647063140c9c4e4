/-
  PROVED HERE: for every uint k the law FnSizeOfKindWidthTable returns true: where k numbers a numeric kind other than Uintptr (2..14 but 12), sizeOfKind gives the width of the closed form; at every other k the law returns true at once.
  CONDITIONS: none on the input; it stands over a translation cut with the switches -reflectrows -leanrows (the row's cell make says so).
  The frame is the kit's proof-skeleton.mjs print; the walks are mine.
-/
import Derived.Test.YtkcdnbpmochplaaGreatWidthFacts
import Derived.WalkKit
import Derived.ProofKit
import Derived.OpenShut
namespace Go.Proofs.YtkcdnbpmochplaaGreat.fnSizeOfKindWidthTable
open Go.ChangeShapes Go.WideShapes Go.ChangeAt Go.RowKit
set_option linter.unusedVariables false      -- a walk need not use every 'w<i>' (that an integer argument fits its kind)

theorem own : ownKnob Tryz.prog.godebug = none := by kernel_rfl

/-! ### the walks, one a value (each test on the road is closed) -/
theorem at2 (w : World) :
    Calls Tryz.prog 3 #[.int .u64 2] w fun e w' => e = .returned (.bool true) ∧ Grown w w' := by
  go_enter Tryz.func3, Tryz.ntmps3
  go_wp2
  go_ret
  exact ⟨rfl, by repeat (first | exact Grown.refl _ | apply Grown.drew | apply Grown.alloc)⟩
theorem at3 (w : World) :
    Calls Tryz.prog 3 #[.int .u64 3] w fun e w' => e = .returned (.bool true) ∧ Grown w w' := by
  go_enter Tryz.func3, Tryz.ntmps3
  go_wp2
  go_ret
  exact ⟨rfl, by repeat (first | exact Grown.refl _ | apply Grown.drew | apply Grown.alloc)⟩
theorem at4 (w : World) :
    Calls Tryz.prog 3 #[.int .u64 4] w fun e w' => e = .returned (.bool true) ∧ Grown w w' := by
  go_enter Tryz.func3, Tryz.ntmps3
  go_wp2
  go_ret
  exact ⟨rfl, by repeat (first | exact Grown.refl _ | apply Grown.drew | apply Grown.alloc)⟩
theorem at5 (w : World) :
    Calls Tryz.prog 3 #[.int .u64 5] w fun e w' => e = .returned (.bool true) ∧ Grown w w' := by
  go_enter Tryz.func3, Tryz.ntmps3
  go_wp2
  go_ret
  exact ⟨rfl, by repeat (first | exact Grown.refl _ | apply Grown.drew | apply Grown.alloc)⟩
theorem at6 (w : World) :
    Calls Tryz.prog 3 #[.int .u64 6] w fun e w' => e = .returned (.bool true) ∧ Grown w w' := by
  go_enter Tryz.func3, Tryz.ntmps3
  go_wp2
  go_ret
  exact ⟨rfl, by repeat (first | exact Grown.refl _ | apply Grown.drew | apply Grown.alloc)⟩
theorem at7 (w : World) :
    Calls Tryz.prog 3 #[.int .u64 7] w fun e w' => e = .returned (.bool true) ∧ Grown w w' := by
  go_enter Tryz.func3, Tryz.ntmps3
  go_wp2
  go_ret
  exact ⟨rfl, by repeat (first | exact Grown.refl _ | apply Grown.drew | apply Grown.alloc)⟩
theorem at8 (w : World) :
    Calls Tryz.prog 3 #[.int .u64 8] w fun e w' => e = .returned (.bool true) ∧ Grown w w' := by
  go_enter Tryz.func3, Tryz.ntmps3
  go_wp2
  go_ret
  exact ⟨rfl, by repeat (first | exact Grown.refl _ | apply Grown.drew | apply Grown.alloc)⟩
theorem at9 (w : World) :
    Calls Tryz.prog 3 #[.int .u64 9] w fun e w' => e = .returned (.bool true) ∧ Grown w w' := by
  go_enter Tryz.func3, Tryz.ntmps3
  go_wp2
  go_ret
  exact ⟨rfl, by repeat (first | exact Grown.refl _ | apply Grown.drew | apply Grown.alloc)⟩
theorem at10 (w : World) :
    Calls Tryz.prog 3 #[.int .u64 10] w fun e w' => e = .returned (.bool true) ∧ Grown w w' := by
  go_enter Tryz.func3, Tryz.ntmps3
  go_wp2
  go_ret
  exact ⟨rfl, by repeat (first | exact Grown.refl _ | apply Grown.drew | apply Grown.alloc)⟩
theorem at11 (w : World) :
    Calls Tryz.prog 3 #[.int .u64 11] w fun e w' => e = .returned (.bool true) ∧ Grown w w' := by
  go_enter Tryz.func3, Tryz.ntmps3
  go_wp2
  go_ret
  exact ⟨rfl, by repeat (first | exact Grown.refl _ | apply Grown.drew | apply Grown.alloc)⟩
theorem at12 (w : World) :
    Calls Tryz.prog 3 #[.int .u64 12] w fun e w' => e = .returned (.bool true) ∧ Grown w w' := by
  go_enter Tryz.func3, Tryz.ntmps3
  go_wp2
  go_ret
  exact ⟨rfl, by repeat (first | exact Grown.refl _ | apply Grown.drew | apply Grown.alloc)⟩
theorem at13 (w : World) :
    Calls Tryz.prog 3 #[.int .u64 13] w fun e w' => e = .returned (.bool true) ∧ Grown w w' := by
  go_enter Tryz.func3, Tryz.ntmps3
  go_wp2
  go_ret
  exact ⟨rfl, by repeat (first | exact Grown.refl _ | apply Grown.drew | apply Grown.alloc)⟩
theorem at14 (w : World) :
    Calls Tryz.prog 3 #[.int .u64 14] w fun e w' => e = .returned (.bool true) ∧ Grown w w' := by
  go_enter Tryz.func3, Tryz.ntmps3
  go_wp2
  go_ret
  exact ⟨rfl, by repeat (first | exact Grown.refl _ | apply Grown.drew | apply Grown.alloc)⟩
theorem atLow (a0 : Int) (h : a0 < 2) (w : World) :
    Calls Tryz.prog 3 #[.int .u64 a0] w fun e w' => e = .returned (.bool true) ∧ Grown w w' := by
  go_enter Tryz.func3, Tryz.ntmps3
  go_wp2
  go_ret
  exact ⟨rfl, by repeat (first | exact Grown.refl _ | apply Grown.drew | apply Grown.alloc)⟩
theorem atHigh (a0 : Int) (h0 : ¬ a0 < 2) (h : 14 < a0) (w : World) :
    Calls Tryz.prog 3 #[.int .u64 a0] w fun e w' => e = .returned (.bool true) ∧ Grown w w' := by
  go_enter Tryz.func3, Tryz.ntmps3
  go_wp2
  go_ret
  exact ⟨rfl, by repeat (first | exact Grown.refl _ | apply Grown.drew | apply Grown.alloc)⟩

/-! ### STEP 1: THE WALK: the Go text returns true. 'Grown w w'': the world has at most new blocks (Derived/RowKit3.lean). Part the cases AHEAD of 'go_enter' where a test parts the walk; take each callee by a contract of your own. -/
theorem walk (a0 : Int) (w0 : (Lit.int .u64 a0).wf = true) (w : World) :
    Calls Tryz.prog 3 #[.int .u64 a0] w fun e w' => e = .returned (.bool true) ∧ Grown w w' := by
  by_cases h1 : a0 < 2
  · exact atLow a0 h1 w
  · by_cases h2 : 14 < a0
    · exact atHigh a0 h1 h2 w
    · have hc : a0 = 2 ∨ a0 = 3 ∨ a0 = 4 ∨ a0 = 5 ∨ a0 = 6 ∨ a0 = 7 ∨ a0 = 8 ∨ a0 = 9 ∨ a0 = 10 ∨ a0 = 11 ∨ a0 = 12 ∨ a0 = 13 ∨ a0 = 14 := by omega
      rcases hc with rfl | rfl | rfl | rfl | rfl | rfl | rfl | rfl | rfl | rfl | rfl | rfl | rfl
      · exact at2 w
      · exact at3 w
      · exact at4 w
      · exact at5 w
      · exact at6 w
      · exact at7 w
      · exact at8 w
      · exact at9 w
      · exact at10 w
      · exact at11 w
      · exact at12 w
      · exact at13 w
      · exact at14 w

/-! ### THE ROW's STEP: WRITTEN OUT: LEAVE IT -/
set_option maxRecDepth 100000 in
theorem lifted (os : Os) (started : os.Started) (H : Type) (enc : TypeId × Value → H) :
    ReturnsInHanded {} Tryz.checked os 3 .any (Rows.fnSizeOfKindWidthTableSpec.pre6 enc Tryz.prog Tryz.f3 Rows.fnSizeOfKindWidthTableRow.domain false) (Rows.fnSizeOfKindWidthTableSpec.post enc Tryz.prog Tryz.f3 false true false false) := by
  refine returnsInHanded_of_change (C := Tryz.checked) own started (by kernel_rfl) Tryz.func3
    (ChangeSpec.witness6 (enc := enc) (C := Tryz.checked) false ⟨#[], #[.int .u64 0], []⟩ 8 (by kernel_rfl) (by kernel_rfl) (by kernel_rfl) (by kernel_rfl)) ?_
  intro W base args ds gs before hval0 hW hcnd _
  have hval : ∀ (j : Nat) t v, Tryz.f3.params[j]? = some t → args[j]? = some v → Value.okWide Tryz.prog W .any base t v := hval0
  have hW' := hW
  obtain ⟨p, q, hA0, hV, rfl, hfz, hnd⟩ := hW
  have hA : DataW.TrodAll enc Tryz.prog W 0 (fun _ => true) true Tryz.f3.params.toList args.toList ds p := hA0
  rw [Tryz.params3] at hA hval
  obtain ⟨v0, vs0, d0, ds0, p0, q0, hargs, rfl, rfl, h0, r0⟩ := trodAll_cons hA
  obtain ⟨rfl, rfl, rfl⟩ := trodAll_nil r0
  obtain rfl : args = #[v0] := by cases args; simp_all
  obtain ⟨rfl, rfl⟩ := trodVars_none hV
  obtain ⟨a0, rfl, rfl, rfl, w0⟩ := open_int Tryz.underlying30 (hval 0 30 v0 rfl rfl) h0
  clear hA0 hval0
  simp only [List.append_nil] at hW'
  refine (walk a0 w0 W).mono fun e W' ⟨he, hg⟩ => ?_
  subst he
  exact ⟨_, rfl, post_of_same (pa := []) (pv := []) hW' (fun _ _ _ => (trodAll_cons_mk (shut_bool Tryz.underlying4 _) trodAll_mk0)) (fun sp _ => (trodAll_cons_mk (shut_int Tryz.underlying30 w0) trodAll_mk0)) (fun _ _ => rfl) rfl
    (hg.frame _) hg.2.1 (ok_one (by kernel_rfl) rfl (okWide_bool_mk Tryz.underlying4 _))⟩

theorem over : Rows.fnSizeOfKindWidthTableRow.holds Tryz.pinned (OpenSpec.ofChange Rows.fnSizeOfKindWidthTableSpec) :=
  OpenClaim.holds_of_wide 3 Tryz.f3 rfl rfl rfl rfl rfl rfl rfl ⟨rfl, rfl, rfl, rfl, rfl⟩ rfl rfl rfl rfl rfl (by kernel_rfl) Tryz.func3 facts
    (of_decide_eq_true (by kernel_rfl)) (by unfold Func.isWrapper; first | (rw [if_pos (by decide +kernel)]; kernel_rfl) | (rw [if_neg (by decide +kernel)]; exact ⟨rfl, rfl⟩))
    (fun os started H enc _ => lifted os started H enc)

/-- ████ THE STATEMENT ████ -/
theorem proved : Rows.FnSizeOfKindWidthTableSaid :=
  over
#print axioms proved
end Go.Proofs.YtkcdnbpmochplaaGreat.fnSizeOfKindWidthTable
