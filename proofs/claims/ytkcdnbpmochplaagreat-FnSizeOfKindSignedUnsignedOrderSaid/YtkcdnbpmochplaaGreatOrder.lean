/-
  PROVED HERE: for every uint r the law FnSizeOfKindSignedUnsignedOrder returns true: at each integer rank the signed and the unsigned kind have one width, widths double from Int8 to Int64, Int's is Int32's or Int64's, the floats match Int32 and Int64, and every width is a multiple of 8 between 8 and 64; above rank 4 the law returns true at once.
  CONDITIONS: none on the input; it stands over a translation cut with the switches -reflectrows -leanrows (the row's cell make says so).
  The frame is the kit's proof-skeleton.mjs print; the walks are mine.
-/
import Derived.Test.YtkcdnbpmochplaaGreatOrderFacts
import Derived.WalkKit
import Derived.ProofKit
import Derived.OpenShut
namespace Go.Proofs.YtkcdnbpmochplaaGreat.fnSizeOfKindSignedUnsignedOrder
open Go.ChangeShapes Go.WideShapes Go.ChangeAt Go.RowKit
set_option linter.unusedVariables false      -- a walk need not use every 'w<i>' (that an integer argument fits its kind)

theorem own : ownKnob Tryz.prog.godebug = none := by kernel_rfl

/-! ### the walks, one a value (each test on the road is closed) -/
theorem at0 (w : World) :
    Calls Tryz.prog 4 #[.int .u64 0] w fun e w' => e = .returned (.bool true) ∧ Grown w w' := by
  go_enter Tryz.func4, Tryz.ntmps4
  go_wp2
  go_ret
  exact ⟨rfl, by repeat (first | exact Grown.refl _ | apply Grown.drew | apply Grown.alloc)⟩
theorem at1 (w : World) :
    Calls Tryz.prog 4 #[.int .u64 1] w fun e w' => e = .returned (.bool true) ∧ Grown w w' := by
  go_enter Tryz.func4, Tryz.ntmps4
  go_wp2
  go_ret
  exact ⟨rfl, by repeat (first | exact Grown.refl _ | apply Grown.drew | apply Grown.alloc)⟩
theorem at2 (w : World) :
    Calls Tryz.prog 4 #[.int .u64 2] w fun e w' => e = .returned (.bool true) ∧ Grown w w' := by
  go_enter Tryz.func4, Tryz.ntmps4
  go_wp2
  go_ret
  exact ⟨rfl, by repeat (first | exact Grown.refl _ | apply Grown.drew | apply Grown.alloc)⟩
theorem at3 (w : World) :
    Calls Tryz.prog 4 #[.int .u64 3] w fun e w' => e = .returned (.bool true) ∧ Grown w w' := by
  go_enter Tryz.func4, Tryz.ntmps4
  go_wp2
  go_ret
  exact ⟨rfl, by repeat (first | exact Grown.refl _ | apply Grown.drew | apply Grown.alloc)⟩
theorem at4 (w : World) :
    Calls Tryz.prog 4 #[.int .u64 4] w fun e w' => e = .returned (.bool true) ∧ Grown w w' := by
  go_enter Tryz.func4, Tryz.ntmps4
  go_wp2
  go_ret
  exact ⟨rfl, by repeat (first | exact Grown.refl _ | apply Grown.drew | apply Grown.alloc)⟩
theorem atHigh (a0 : Int) (h : 4 < a0) (w : World) :
    Calls Tryz.prog 4 #[.int .u64 a0] w fun e w' => e = .returned (.bool true) ∧ Grown w w' := by
  go_enter Tryz.func4, Tryz.ntmps4
  go_wp2
  go_ret
  exact ⟨rfl, by repeat (first | exact Grown.refl _ | apply Grown.drew | apply Grown.alloc)⟩

/-! ### STEP 1: THE WALK: the Go text returns true. 'Grown w w'': the world has at most new blocks (Derived/RowKit3.lean). Part the cases AHEAD of 'go_enter' where a test parts the walk; take each callee by a contract of your own. -/
theorem walk (a0 : Int) (w0 : (Lit.int .u64 a0).wf = true) (w : World) :
    Calls Tryz.prog 4 #[.int .u64 a0] w fun e w' => e = .returned (.bool true) ∧ Grown w w' := by
  have hb := bounds_u64 w0
  by_cases h2 : 4 < a0
  · exact atHigh a0 h2 w
  · have hc : a0 = 0 ∨ a0 = 1 ∨ a0 = 2 ∨ a0 = 3 ∨ a0 = 4 := by omega
    rcases hc with rfl | rfl | rfl | rfl | rfl
    · exact at0 w
    · exact at1 w
    · exact at2 w
    · exact at3 w
    · exact at4 w

/-! ### THE ROW's STEP: WRITTEN OUT: LEAVE IT -/
set_option maxRecDepth 100000 in
theorem lifted (os : Os) (started : os.Started) (H : Type) (enc : TypeId × Value → H) :
    ReturnsInHanded {} Tryz.checked os 4 .any (Rows.fnSizeOfKindSignedUnsignedOrderSpec.pre6 enc Tryz.prog Tryz.f4 Rows.fnSizeOfKindSignedUnsignedOrderRow.domain false) (Rows.fnSizeOfKindSignedUnsignedOrderSpec.post enc Tryz.prog Tryz.f4 false true false false) := by
  refine returnsInHanded_of_change (C := Tryz.checked) own started (by kernel_rfl) Tryz.func4
    (ChangeSpec.witness6 (enc := enc) (C := Tryz.checked) false ⟨#[], #[.int .u64 0], []⟩ 8 (by kernel_rfl) (by kernel_rfl) (by kernel_rfl) (by kernel_rfl)) ?_
  intro W base args ds gs before hval0 hW hcnd _
  have hval : ∀ (j : Nat) t v, Tryz.f4.params[j]? = some t → args[j]? = some v → Value.okWide Tryz.prog W .any base t v := hval0
  have hW' := hW
  obtain ⟨p, q, hA0, hV, rfl, hfz, hnd⟩ := hW
  have hA : DataW.TrodAll enc Tryz.prog W 0 (fun _ => true) true Tryz.f4.params.toList args.toList ds p := hA0
  rw [Tryz.params4] at hA hval
  obtain ⟨v0, vs0, d0, ds0, p0, q0, hargs, rfl, rfl, h0, r0⟩ := trodAll_cons hA
  obtain ⟨rfl, rfl, rfl⟩ := trodAll_nil r0
  obtain rfl : args = #[v0] := by cases args; simp_all
  obtain ⟨rfl, rfl⟩ := trodVars_none hV
  obtain ⟨a0, rfl, rfl, rfl, w0⟩ := open_int Tryz.underlying30 (hval 0 30 v0 rfl rfl) h0
  clear hA0 hval0
  simp only [List.append_nil] at hW'
  refine (walk a0 w0 W).mono fun e W' ⟨he, hg⟩ => ?_
  subst he
  exact ⟨_, rfl, post_of_same (pa := []) (pv := []) hW' (fun _ _ _ => (trodAll_cons_mk (shut_bool Tryz.underlying4 _) trodAll_mk0)) (fun sp _ => (trodAll_cons_mk (shut_int Tryz.underlying30 w0) trodAll_mk0)) (fun _ _ => rfl) rfl
    (hg.frame _) hg.2.1 (ok_one (by kernel_rfl) rfl (okWide_bool_mk Tryz.underlying4 _))⟩

theorem over : Rows.fnSizeOfKindSignedUnsignedOrderRow.holds Tryz.pinned (OpenSpec.ofChange Rows.fnSizeOfKindSignedUnsignedOrderSpec) :=
  OpenClaim.holds_of_wide 4 Tryz.f4 rfl rfl rfl rfl rfl rfl rfl ⟨rfl, rfl, rfl, rfl, rfl⟩ rfl rfl rfl rfl rfl (by kernel_rfl) Tryz.func4 facts
    (of_decide_eq_true (by kernel_rfl)) (by unfold Func.isWrapper; first | (rw [if_pos (by decide +kernel)]; kernel_rfl) | (rw [if_neg (by decide +kernel)]; exact ⟨rfl, rfl⟩))
    (fun os started H enc _ => lifted os started H enc)

/-- ████ THE STATEMENT ████ -/
theorem proved : Rows.FnSizeOfKindSignedUnsignedOrderSaid :=
  over
#print axioms proved
end Go.Proofs.YtkcdnbpmochplaaGreat.fnSizeOfKindSignedUnsignedOrder
