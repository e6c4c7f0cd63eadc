/-
  The closed facts of one row, each a theorem of its own (tools/facts.py).
-/
import Derived.Test.Qxb6613596aHead
import Derived.JoinedOf
import Derived.KernelRfl
namespace Go.Proofs.Qxb6613596a.fnCheckerAddRecordsEveryProblemInOrder
open Go
theorem and_mk {a b : Bool} (h : a = true) (k : b = true) : (a && b) = true := by rw [h, k]; rfl
theorem k1 : (Rows.fnCheckerAddRecordsEveryProblemInOrderRow.wf (OpenSpec.ofChange Rows.fnCheckerAddRecordsEveryProblemInOrderSpec) : Bool) = true := by kernel_rfl
theorem k2 : (laidOutB Try.prog : Bool) = true := by kernel_rfl
theorem k3 : (mapsRowed Try.prog : Bool) = true := by kernel_rfl
theorem k4 : (Try.f5.params.all (Try.prog.readableRec ·) : Bool) = true := by kernel_rfl
theorem k5 : (namedTie Try.prog Rows.fnCheckerAddRecordsEveryProblemInOrderRow.named Rows.fnCheckerAddRecordsEveryProblemInOrderSpec.vars : Bool) = true := by kernel_rfl
theorem k6 : ((Rows.fnCheckerAddRecordsEveryProblemInOrderRow.stops == []) : Bool) = true := by kernel_rfl
theorem k7 : ((Try.prog.stops == []) : Bool) = true := by kernel_rfl
theorem k8 : ((Rows.fnCheckerAddRecordsEveryProblemInOrderRow.knobs == []) : Bool) = true := by kernel_rfl
theorem k9 : ((Try.prog.stopKnobs == []) : Bool) = true := by kernel_rfl
theorem k10 : ((Rows.fnCheckerAddRecordsEveryProblemInOrderRow.inPlace == Try.prog.inPlace 5) : Bool) = true := by kernel_rfl
theorem k11 : ((Rows.fnCheckerAddRecordsEveryProblemInOrderRow.unfollowed == Try.prog.unfollowed 5) : Bool) = true := by kernel_rfl
theorem k12 : ((Rows.fnCheckerAddRecordsEveryProblemInOrderRow.recurses == Try.prog.recurses 5) : Bool) = true := by kernel_rfl
theorem k13 : ((Rows.fnCheckerAddRecordsEveryProblemInOrderRow.named == Try.prog.varsNamed 5) : Bool) = true := by kernel_rfl
theorem k14 : ((Rows.fnCheckerAddRecordsEveryProblemInOrderRow.maps == (Try.f5.params.toList ++ Rows.fnCheckerAddRecordsEveryProblemInOrderSpec.plain.varTypes Try.prog).any (Try.prog.mapsRec ·)) : Bool) = true := by kernel_rfl
theorem k15 : ((Rows.fnCheckerAddRecordsEveryProblemInOrderRow.ifaces == (Try.f5.params.toList ++ Rows.fnCheckerAddRecordsEveryProblemInOrderSpec.plain.varTypes Try.prog).any (Try.prog.ifacesRec ·)) : Bool) = true := by kernel_rfl
theorem k16 : ((Rows.fnCheckerAddRecordsEveryProblemInOrderRow.mapsOut == Try.prog.mapsAmong Try.f5.resultTypes.toList) : Bool) = true := by kernel_rfl
theorem k17 : ((Rows.fnCheckerAddRecordsEveryProblemInOrderRow.loops == (Try.f5.params.toList ++ Rows.fnCheckerAddRecordsEveryProblemInOrderSpec.plain.varTypes Try.prog).any (Try.prog.loopsFrom ·)) : Bool) = true := by kernel_rfl
theorem k18 : ((Rows.fnCheckerAddRecordsEveryProblemInOrderRow.wideKeys == (Try.f5.params.toList ++ Rows.fnCheckerAddRecordsEveryProblemInOrderSpec.plain.varTypes Try.prog ++ Try.f5.resultTypes.toList).any (Try.prog.wideKeysFrom ·)) : Bool) = true := by kernel_rfl
theorem k19 : (Rows.fnCheckerAddRecordsEveryProblemInOrderSpec.vars.all (Try.prog.varReadable ·) : Bool) = true := by kernel_rfl
theorem k20 : (Try.f5.resultTypes.all (fun t => Try.prog.readableRec t && decide (t < Try.prog.types.size)) : Bool) = true := by kernel_rfl
theorem k21 : ((Rows.fnCheckerAddRecordsEveryProblemInOrderRow.ifacesOut == Try.f5.resultTypes.toList.any (Try.prog.ifacesRec ·)) : Bool) = true := by kernel_rfl
theorem k22 : ((Rows.fnCheckerAddRecordsEveryProblemInOrderRow.loopsOut == Try.f5.resultTypes.toList.any (Try.prog.loopsFrom ·)) : Bool) = true := by kernel_rfl
theorem k23 : ((Rows.fnCheckerAddRecordsEveryProblemInOrderRow.plainKeys == Try.prog.plainKeys) : Bool) = true := by kernel_rfl
theorem k24 : (Rows.fnCheckerAddRecordsEveryProblemInOrderRow.shortTexts.isNone : Bool) = true := by kernel_rfl
theorem k25 : (Try.prog.stopsHeard : Bool) = true := by kernel_rfl
theorem k26 : (Try.prog.mayEnter : Bool) = true := head.mayEnter
theorem k27 : ((Rows.fnCheckerAddRecordsEveryProblemInOrderRow.lifted == Try.prog.liftsFinal) : Bool) = true := by rw [head.liftsFinal]; rfl
theorem k28 : ((Try.prog.make == some Rows.fnCheckerAddRecordsEveryProblemInOrderRow.make) : Bool) = true := by rw [head.make]; rfl
theorem k29 : ((Rows.fnCheckerAddRecordsEveryProblemInOrderRow.kinds == (if Rows.fnCheckerAddRecordsEveryProblemInOrderRow.domain.isEmpty then [] else Try.f5.params.toList.map fun t => match Try.prog.underlying t with | some (.int k) => some k | _ => none)) : Bool) = true := by kernel_rfl
theorem k30 : ((Rows.fnCheckerAddRecordsEveryProblemInOrderRow.pinned == Rows.fnCheckerAddRecordsEveryProblemInOrderRow.pinnedBy) : Bool) = true := by kernel_rfl
theorem k31 : ((Rows.fnCheckerAddRecordsEveryProblemInOrderRow.veiled == (Try.f5.params.toList ++ Rows.fnCheckerAddRecordsEveryProblemInOrderSpec.plain.varTypes Try.prog ++ Try.f5.resultTypes.toList).any (Try.prog.veiledRec ·)) : Bool) = true := by kernel_rfl
theorem k32 : (Rows.fnCheckerAddRecordsEveryProblemInOrderRow.veiledFits Try.prog Try.f5.params.toList (Try.f5.params.toList ++ Rows.fnCheckerAddRecordsEveryProblemInOrderSpec.plain.varTypes Try.prog ++ Try.f5.resultTypes.toList) : Bool) = true := by kernel_rfl
set_option maxRecDepth 100000 in
theorem closed : joinedFacts Try.prog 5 Try.f5 Rows.fnCheckerAddRecordsEveryProblemInOrderSpec Rows.fnCheckerAddRecordsEveryProblemInOrderRow = true := by
  unfold joinedFacts
  exact (and_mk (and_mk (and_mk (and_mk (and_mk (and_mk (and_mk (and_mk (and_mk (and_mk (and_mk (and_mk (and_mk (and_mk (and_mk (and_mk (and_mk (and_mk (and_mk (and_mk (and_mk (and_mk (and_mk (and_mk (and_mk (and_mk (and_mk (and_mk (and_mk (and_mk (and_mk k1 k2) k3) k4) k5) k6) k7) k8) k9) k10) k11) k12) k13) k14) k15) k16) k17) k18) k19) k20) k21) k22) k23) k24) k25) k26) k27) k28) k29) k30) k31) k32)
end Go.Proofs.Qxb6613596a.fnCheckerAddRecordsEveryProblemInOrder
