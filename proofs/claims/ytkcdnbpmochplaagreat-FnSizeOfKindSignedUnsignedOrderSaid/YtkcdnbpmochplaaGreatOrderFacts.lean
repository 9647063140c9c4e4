/-
  PROVED HERE: the closed facts that the form asks of the row fnSizeOfKindSignedUnsignedOrderRow, one theorem each (so that no one declaration outgrows the memory), and their conjunction.
  CONDITIONS: none; every fact is closed and is checked by the kernel. Printed by a program of mine (wip/genfacts.py).
-/
import Derived.Test.YtkcdnbpmochplaaGreatRows
import Derived.JoinedOf
namespace Go.Proofs.YtkcdnbpmochplaaGreat.fnSizeOfKindSignedUnsignedOrder
theorem band {a b : Bool} (h : a = true) (k : b = true) : (a && b) = true := by rw [h, k]; rfl
theorem k1 : ((Rows.fnSizeOfKindSignedUnsignedOrderRow).wf (OpenSpec.ofChange Rows.fnSizeOfKindSignedUnsignedOrderSpec)) = true := by kernel_rfl
theorem k2 : (laidOutB Tryz.checked.prog) = true := by kernel_rfl
theorem k3 : (mapsRowed Tryz.checked.prog) = true := by kernel_rfl
theorem k4 : (Tryz.f4.params.all (Tryz.checked.prog.readableRec ·)) = true := by kernel_rfl
theorem k5 : (namedTie Tryz.checked.prog (Rows.fnSizeOfKindSignedUnsignedOrderRow).named (Rows.fnSizeOfKindSignedUnsignedOrderSpec).vars) = true := by kernel_rfl
theorem k6 : (((Rows.fnSizeOfKindSignedUnsignedOrderRow).stops == [])) = true := by kernel_rfl
theorem k7 : ((Tryz.checked.prog.stops == [])) = true := by kernel_rfl
theorem k8 : (((Rows.fnSizeOfKindSignedUnsignedOrderRow).knobs == [])) = true := by kernel_rfl
theorem k9 : ((Tryz.checked.prog.stopKnobs == [])) = true := by kernel_rfl
theorem k10 : (((Rows.fnSizeOfKindSignedUnsignedOrderRow).inPlace == Tryz.checked.prog.inPlace 4)) = true := by kernel_rfl
theorem k11 : (((Rows.fnSizeOfKindSignedUnsignedOrderRow).unfollowed == Tryz.checked.prog.unfollowed 4)) = true := by kernel_rfl
theorem k12 : (((Rows.fnSizeOfKindSignedUnsignedOrderRow).recurses == Tryz.checked.prog.recurses 4)) = true := by kernel_rfl
theorem k13 : (((Rows.fnSizeOfKindSignedUnsignedOrderRow).named == Tryz.checked.prog.varsNamed 4)) = true := by kernel_rfl
theorem k14 : (((Rows.fnSizeOfKindSignedUnsignedOrderRow).maps == (Tryz.f4.params.toList ++ (Rows.fnSizeOfKindSignedUnsignedOrderSpec).plain.varTypes Tryz.checked.prog).any (Tryz.checked.prog.mapsRec ·))) = true := by kernel_rfl
theorem k15 : (((Rows.fnSizeOfKindSignedUnsignedOrderRow).ifaces == (Tryz.f4.params.toList ++ (Rows.fnSizeOfKindSignedUnsignedOrderSpec).plain.varTypes Tryz.checked.prog).any (Tryz.checked.prog.ifacesRec ·))) = true := by kernel_rfl
theorem k16 : (((Rows.fnSizeOfKindSignedUnsignedOrderRow).mapsOut == Tryz.checked.prog.mapsAmong Tryz.f4.resultTypes.toList)) = true := by kernel_rfl
theorem k17 : (((Rows.fnSizeOfKindSignedUnsignedOrderRow).loops == (Tryz.f4.params.toList ++ (Rows.fnSizeOfKindSignedUnsignedOrderSpec).plain.varTypes Tryz.checked.prog).any (Tryz.checked.prog.loopsFrom ·))) = true := by kernel_rfl
theorem k18 : (((Rows.fnSizeOfKindSignedUnsignedOrderRow).wideKeys == (Tryz.f4.params.toList ++ (Rows.fnSizeOfKindSignedUnsignedOrderSpec).plain.varTypes Tryz.checked.prog ++ Tryz.f4.resultTypes.toList).any (Tryz.checked.prog.wideKeysFrom ·))) = true := by kernel_rfl
theorem k19 : ((Rows.fnSizeOfKindSignedUnsignedOrderSpec).vars.all (Tryz.checked.prog.varReadable ·)) = true := by kernel_rfl
theorem k20 : (Tryz.f4.resultTypes.all (fun t => Tryz.checked.prog.readableRec t && decide (t < Tryz.checked.prog.types.size))) = true := by kernel_rfl
theorem k21 : (((Rows.fnSizeOfKindSignedUnsignedOrderRow).ifacesOut == Tryz.f4.resultTypes.toList.any (Tryz.checked.prog.ifacesRec ·))) = true := by kernel_rfl
theorem k22 : (((Rows.fnSizeOfKindSignedUnsignedOrderRow).loopsOut == Tryz.f4.resultTypes.toList.any (Tryz.checked.prog.loopsFrom ·))) = true := by kernel_rfl
theorem k23 : (((Rows.fnSizeOfKindSignedUnsignedOrderRow).plainKeys == Tryz.checked.prog.plainKeys)) = true := by kernel_rfl
theorem k24 : ((Rows.fnSizeOfKindSignedUnsignedOrderRow).shortTexts.isNone) = true := by kernel_rfl
theorem k25 : (Tryz.checked.prog.stopsHeard) = true := by kernel_rfl
theorem k26 : (Tryz.checked.prog.mayEnter) = true := by kernel_rfl
theorem k27 : (((Rows.fnSizeOfKindSignedUnsignedOrderRow).lifted == Tryz.checked.prog.liftsFinal)) = true := by kernel_rfl
theorem k28 : ((Tryz.checked.prog.make == some (Rows.fnSizeOfKindSignedUnsignedOrderRow).make)) = true := by kernel_rfl
theorem k30 : (((Rows.fnSizeOfKindSignedUnsignedOrderRow).pinned == (Rows.fnSizeOfKindSignedUnsignedOrderRow).pinnedBy)) = true := by kernel_rfl
theorem k31 : (((Rows.fnSizeOfKindSignedUnsignedOrderRow).veiled == (Tryz.f4.params.toList ++ (Rows.fnSizeOfKindSignedUnsignedOrderSpec).plain.varTypes Tryz.checked.prog ++ Tryz.f4.resultTypes.toList).any (Tryz.checked.prog.veiledRec ·))) = true := by kernel_rfl
theorem k32 : ((Rows.fnSizeOfKindSignedUnsignedOrderRow).veiledFits Tryz.checked.prog Tryz.f4.params.toList (Tryz.f4.params.toList ++ (Rows.fnSizeOfKindSignedUnsignedOrderSpec).plain.varTypes Tryz.checked.prog ++ Tryz.f4.resultTypes.toList)) = true := by kernel_rfl
theorem facts : joinedFacts Tryz.checked.prog 4 Tryz.f4 Rows.fnSizeOfKindSignedUnsignedOrderSpec Rows.fnSizeOfKindSignedUnsignedOrderRow = true := by
  unfold joinedFacts
  refine (band (band (band (band (band (band (band (band (band (band (band (band (band (band (band (band (band (band (band (band (band (band (band (band (band (band (band (band (band (band (band k1 k2) k3) k4) k5) k6) k7) k8) k9) k10) k11) k12) k13) k14) k15) k16) k17) k18) k19) k20) k21) k22) k23) k24) k25) k26) k27) k28) ?_) k30) k31) k32)
  as_aux_lemma => kernel_rfl
end Go.Proofs.YtkcdnbpmochplaaGreat.fnSizeOfKindSignedUnsignedOrder
