/-
  PROVED HERE: the closed facts that the form asks of the row fnStopIdempotentDepthIsMaxRow, one theorem each (so that no one declaration outgrows the memory), and their conjunction.
  CONDITIONS: none; every fact is closed and is checked by the kernel. Printed by a program of mine (wip/genfacts.py).
-/
import Derived.Test.YtiahdmoigmoibaaGreatRows
import Derived.JoinedOf
namespace Go.Proofs.YtiahdmoigmoibaaGreat.fnStopIdempotentDepthIsMax
theorem band {a b : Bool} (h : a = true) (k : b = true) : (a && b) = true := by rw [h, k]; rfl
theorem k1 : ((Rows.fnStopIdempotentDepthIsMaxRow).wf (OpenSpec.ofChange Rows.fnStopIdempotentDepthIsMaxSpec)) = true := by kernel_rfl
theorem k2 : (laidOutB Tryz.checked.prog) = true := by kernel_rfl
theorem k3 : (mapsRowed Tryz.checked.prog) = true := by kernel_rfl
theorem k4 : (Tryz.f3.params.all (Tryz.checked.prog.readableRec ·)) = true := by kernel_rfl
theorem k5 : (namedTie Tryz.checked.prog (Rows.fnStopIdempotentDepthIsMaxRow).named (Rows.fnStopIdempotentDepthIsMaxSpec).vars) = true := by kernel_rfl
theorem k6 : (((Rows.fnStopIdempotentDepthIsMaxRow).stops == [])) = true := by kernel_rfl
theorem k7 : ((Tryz.checked.prog.stops == [])) = true := by kernel_rfl
theorem k8 : (((Rows.fnStopIdempotentDepthIsMaxRow).knobs == [])) = true := by kernel_rfl
theorem k9 : ((Tryz.checked.prog.stopKnobs == [])) = true := by kernel_rfl
theorem k10 : (((Rows.fnStopIdempotentDepthIsMaxRow).inPlace == Tryz.checked.prog.inPlace 3)) = true := by kernel_rfl
theorem k11 : (((Rows.fnStopIdempotentDepthIsMaxRow).unfollowed == Tryz.checked.prog.unfollowed 3)) = true := by kernel_rfl
theorem k12 : (((Rows.fnStopIdempotentDepthIsMaxRow).recurses == Tryz.checked.prog.recurses 3)) = true := by kernel_rfl
theorem k13 : (((Rows.fnStopIdempotentDepthIsMaxRow).named == Tryz.checked.prog.varsNamed 3)) = true := by kernel_rfl
theorem k14 : (((Rows.fnStopIdempotentDepthIsMaxRow).maps == (Tryz.f3.params.toList ++ (Rows.fnStopIdempotentDepthIsMaxSpec).plain.varTypes Tryz.checked.prog).any (Tryz.checked.prog.mapsRec ·))) = true := by kernel_rfl
theorem k15 : (((Rows.fnStopIdempotentDepthIsMaxRow).ifaces == (Tryz.f3.params.toList ++ (Rows.fnStopIdempotentDepthIsMaxSpec).plain.varTypes Tryz.checked.prog).any (Tryz.checked.prog.ifacesRec ·))) = true := by kernel_rfl
theorem k16 : (((Rows.fnStopIdempotentDepthIsMaxRow).mapsOut == Tryz.checked.prog.mapsAmong Tryz.f3.resultTypes.toList)) = true := by kernel_rfl
theorem k17 : (((Rows.fnStopIdempotentDepthIsMaxRow).loops == (Tryz.f3.params.toList ++ (Rows.fnStopIdempotentDepthIsMaxSpec).plain.varTypes Tryz.checked.prog).any (Tryz.checked.prog.loopsFrom ·))) = true := by kernel_rfl
theorem k18 : (((Rows.fnStopIdempotentDepthIsMaxRow).wideKeys == (Tryz.f3.params.toList ++ (Rows.fnStopIdempotentDepthIsMaxSpec).plain.varTypes Tryz.checked.prog ++ Tryz.f3.resultTypes.toList).any (Tryz.checked.prog.wideKeysFrom ·))) = true := by kernel_rfl
theorem k19 : ((Rows.fnStopIdempotentDepthIsMaxSpec).vars.all (Tryz.checked.prog.varReadable ·)) = true := by kernel_rfl
theorem k20 : (Tryz.f3.resultTypes.all (fun t => Tryz.checked.prog.readableRec t && decide (t < Tryz.checked.prog.types.size))) = true := by kernel_rfl
theorem k21 : (((Rows.fnStopIdempotentDepthIsMaxRow).ifacesOut == Tryz.f3.resultTypes.toList.any (Tryz.checked.prog.ifacesRec ·))) = true := by kernel_rfl
theorem k22 : (((Rows.fnStopIdempotentDepthIsMaxRow).loopsOut == Tryz.f3.resultTypes.toList.any (Tryz.checked.prog.loopsFrom ·))) = true := by kernel_rfl
theorem k23 : (((Rows.fnStopIdempotentDepthIsMaxRow).plainKeys == Tryz.checked.prog.plainKeys)) = true := by kernel_rfl
theorem k24 : ((Rows.fnStopIdempotentDepthIsMaxRow).shortTexts.isNone) = true := by kernel_rfl
theorem k25 : (Tryz.checked.prog.stopsHeard) = true := by kernel_rfl
theorem k26 : (Tryz.checked.prog.mayEnter) = true := by kernel_rfl
theorem k27 : (((Rows.fnStopIdempotentDepthIsMaxRow).lifted == Tryz.checked.prog.liftsFinal)) = true := by kernel_rfl
theorem k28 : ((Tryz.checked.prog.make == some (Rows.fnStopIdempotentDepthIsMaxRow).make)) = true := by kernel_rfl
theorem k30 : (((Rows.fnStopIdempotentDepthIsMaxRow).pinned == (Rows.fnStopIdempotentDepthIsMaxRow).pinnedBy)) = true := by kernel_rfl
theorem k31 : (((Rows.fnStopIdempotentDepthIsMaxRow).veiled == (Tryz.f3.params.toList ++ (Rows.fnStopIdempotentDepthIsMaxSpec).plain.varTypes Tryz.checked.prog ++ Tryz.f3.resultTypes.toList).any (Tryz.checked.prog.veiledRec ·))) = true := by kernel_rfl
theorem k32 : ((Rows.fnStopIdempotentDepthIsMaxRow).veiledFits Tryz.checked.prog Tryz.f3.params.toList (Tryz.f3.params.toList ++ (Rows.fnStopIdempotentDepthIsMaxSpec).plain.varTypes Tryz.checked.prog ++ Tryz.f3.resultTypes.toList)) = true := by kernel_rfl
theorem facts : joinedFacts Tryz.checked.prog 3 Tryz.f3 Rows.fnStopIdempotentDepthIsMaxSpec Rows.fnStopIdempotentDepthIsMaxRow = true := by
  unfold joinedFacts
  refine (band (band (band (band (band (band (band (band (band (band (band (band (band (band (band (band (band (band (band (band (band (band (band (band (band (band (band (band (band (band (band k1 k2) k3) k4) k5) k6) k7) k8) k9) k10) k11) k12) k13) k14) k15) k16) k17) k18) k19) k20) k21) k22) k23) k24) k25) k26) k27) k28) ?_) k30) k31) k32)
  as_aux_lemma => kernel_rfl
end Go.Proofs.YtiahdmoigmoibaaGreat.fnStopIdempotentDepthIsMax
