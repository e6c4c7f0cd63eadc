/-
  The closed facts of one row, each a theorem of its own (tools/facts.py).
-/
import Derived.Test.Qxb6608868aHead
import Derived.JoinedOf
import Derived.KernelRfl
namespace Go.Proofs.Qxb6608868a.fnWindowSumModel
open Go
theorem and_mk {a b : Bool} (h : a = true) (k : b = true) : (a && b) = true := by rw [h, k]; rfl
theorem k1 : (Rows.fnWindowSumModelRow.wf (OpenSpec.ofChange Rows.fnWindowSumModelSpec) : Bool) = true := by kernel_rfl
theorem k2 : (laidOutB Try.prog : Bool) = true := by kernel_rfl
theorem k3 : (mapsRowed Try.prog : Bool) = true := by kernel_rfl
theorem k4 : (Try.f5.params.all (Try.prog.readableRec ·) : Bool) = true := by kernel_rfl
theorem k5 : (namedTie Try.prog Rows.fnWindowSumModelRow.named Rows.fnWindowSumModelSpec.vars : Bool) = true := by kernel_rfl
theorem k6 : ((Rows.fnWindowSumModelRow.stops == []) : Bool) = true := by kernel_rfl
theorem k7 : ((Try.prog.stops == []) : Bool) = true := by kernel_rfl
theorem k8 : ((Rows.fnWindowSumModelRow.knobs == []) : Bool) = true := by kernel_rfl
theorem k9 : ((Try.prog.stopKnobs == []) : Bool) = true := by kernel_rfl
theorem k10 : ((Rows.fnWindowSumModelRow.inPlace == Try.prog.inPlace 5) : Bool) = true := by kernel_rfl
theorem k11 : ((Rows.fnWindowSumModelRow.unfollowed == Try.prog.unfollowed 5) : Bool) = true := by kernel_rfl
theorem k12 : ((Rows.fnWindowSumModelRow.recurses == Try.prog.recurses 5) : Bool) = true := by kernel_rfl
theorem k13 : ((Rows.fnWindowSumModelRow.named == Try.prog.varsNamed 5) : Bool) = true := by kernel_rfl
theorem k14 : ((Rows.fnWindowSumModelRow.maps == (Try.f5.params.toList ++ Rows.fnWindowSumModelSpec.plain.varTypes Try.prog).any (Try.prog.mapsRec ·)) : Bool) = true := by kernel_rfl
theorem k15 : ((Rows.fnWindowSumModelRow.ifaces == (Try.f5.params.toList ++ Rows.fnWindowSumModelSpec.plain.varTypes Try.prog).any (Try.prog.ifacesRec ·)) : Bool) = true := by kernel_rfl
theorem k16 : ((Rows.fnWindowSumModelRow.mapsOut == Try.prog.mapsAmong Try.f5.resultTypes.toList) : Bool) = true := by kernel_rfl
theorem k17 : ((Rows.fnWindowSumModelRow.loops == (Try.f5.params.toList ++ Rows.fnWindowSumModelSpec.plain.varTypes Try.prog).any (Try.prog.loopsFrom ·)) : Bool) = true := by kernel_rfl
theorem k18 : ((Rows.fnWindowSumModelRow.wideKeys == (Try.f5.params.toList ++ Rows.fnWindowSumModelSpec.plain.varTypes Try.prog ++ Try.f5.resultTypes.toList).any (Try.prog.wideKeysFrom ·)) : Bool) = true := by kernel_rfl
theorem k19 : (Rows.fnWindowSumModelSpec.vars.all (Try.prog.varReadable ·) : Bool) = true := by kernel_rfl
theorem k20 : (Try.f5.resultTypes.all (fun t => Try.prog.readableRec t && decide (t < Try.prog.types.size)) : Bool) = true := by kernel_rfl
theorem k21 : ((Rows.fnWindowSumModelRow.ifacesOut == Try.f5.resultTypes.toList.any (Try.prog.ifacesRec ·)) : Bool) = true := by kernel_rfl
theorem k22 : ((Rows.fnWindowSumModelRow.loopsOut == Try.f5.resultTypes.toList.any (Try.prog.loopsFrom ·)) : Bool) = true := by kernel_rfl
theorem k23 : ((Rows.fnWindowSumModelRow.plainKeys == Try.prog.plainKeys) : Bool) = true := by kernel_rfl
theorem k24 : (Rows.fnWindowSumModelRow.shortTexts.isNone : Bool) = true := by kernel_rfl
theorem k25 : (Try.prog.stopsHeard : Bool) = true := by kernel_rfl
theorem k26 : (Try.prog.mayEnter : Bool) = true := head.mayEnter
theorem k27 : ((Rows.fnWindowSumModelRow.lifted == Try.prog.liftsFinal) : Bool) = true := by rw [head.liftsFinal]; rfl
theorem k28 : ((Try.prog.make == some Rows.fnWindowSumModelRow.make) : Bool) = true := by rw [head.make]; rfl
theorem k29 : ((Rows.fnWindowSumModelRow.kinds == (if Rows.fnWindowSumModelRow.domain.isEmpty then [] else Try.f5.params.toList.map fun t => match Try.prog.underlying t with | some (.int k) => some k | _ => none)) : Bool) = true := by kernel_rfl
theorem k30 : ((Rows.fnWindowSumModelRow.pinned == Rows.fnWindowSumModelRow.pinnedBy) : Bool) = true := by kernel_rfl
theorem k31 : ((Rows.fnWindowSumModelRow.veiled == (Try.f5.params.toList ++ Rows.fnWindowSumModelSpec.plain.varTypes Try.prog ++ Try.f5.resultTypes.toList).any (Try.prog.veiledRec ·)) : Bool) = true := by kernel_rfl
theorem k32 : (Rows.fnWindowSumModelRow.veiledFits Try.prog Try.f5.params.toList (Try.f5.params.toList ++ Rows.fnWindowSumModelSpec.plain.varTypes Try.prog ++ Try.f5.resultTypes.toList) : Bool) = true := by kernel_rfl
set_option maxRecDepth 100000 in
theorem closed : joinedFacts Try.prog 5 Try.f5 Rows.fnWindowSumModelSpec Rows.fnWindowSumModelRow = true := by
  unfold joinedFacts
  exact (and_mk (and_mk (and_mk (and_mk (and_mk (and_mk (and_mk (and_mk (and_mk (and_mk (and_mk (and_mk (and_mk (and_mk (and_mk (and_mk (and_mk (and_mk (and_mk (and_mk (and_mk (and_mk (and_mk (and_mk (and_mk (and_mk (and_mk (and_mk (and_mk (and_mk (and_mk k1 k2) k3) k4) k5) k6) k7) k8) k9) k10) k11) k12) k13) k14) k15) k16) k17) k18) k19) k20) k21) k22) k23) k24) k25) k26) k27) k28) k29) k30) k31) k32)
end Go.Proofs.Qxb6608868a.fnWindowSumModel
