/-
  The closed facts of one row, each a theorem of its own (tools/facts.py).
-/
import Derived.Test.Qxb6613596aHead
import Derived.JoinedOf
import Derived.KernelRfl
namespace Go.Proofs.Qxb6613596a.fnCheckerAddKeepsCheckersApart
open Go
theorem and_mk {a b : Bool} (h : a = true) (k : b = true) : (a && b) = true := by rw [h, k]; rfl
theorem k1 : (Rows.fnCheckerAddKeepsCheckersApartRow.wf (OpenSpec.ofChange Rows.fnCheckerAddKeepsCheckersApartSpec) : Bool) = true := by kernel_rfl
theorem k2 : (laidOutB Try.prog : Bool) = true := by kernel_rfl
theorem k3 : (mapsRowed Try.prog : Bool) = true := by kernel_rfl
theorem k4 : (Try.f6.params.all (Try.prog.readableRec ·) : Bool) = true := by kernel_rfl
theorem k5 : (namedTie Try.prog Rows.fnCheckerAddKeepsCheckersApartRow.named Rows.fnCheckerAddKeepsCheckersApartSpec.vars : Bool) = true := by kernel_rfl
theorem k6 : ((Rows.fnCheckerAddKeepsCheckersApartRow.stops == []) : Bool) = true := by kernel_rfl
theorem k7 : ((Try.prog.stops == []) : Bool) = true := by kernel_rfl
theorem k8 : ((Rows.fnCheckerAddKeepsCheckersApartRow.knobs == []) : Bool) = true := by kernel_rfl
theorem k9 : ((Try.prog.stopKnobs == []) : Bool) = true := by kernel_rfl
theorem k10 : ((Rows.fnCheckerAddKeepsCheckersApartRow.inPlace == Try.prog.inPlace 6) : Bool) = true := by kernel_rfl
theorem k11 : ((Rows.fnCheckerAddKeepsCheckersApartRow.unfollowed == Try.prog.unfollowed 6) : Bool) = true := by kernel_rfl
theorem k12 : ((Rows.fnCheckerAddKeepsCheckersApartRow.recurses == Try.prog.recurses 6) : Bool) = true := by kernel_rfl
theorem k13 : ((Rows.fnCheckerAddKeepsCheckersApartRow.named == Try.prog.varsNamed 6) : Bool) = true := by kernel_rfl
theorem k14 : ((Rows.fnCheckerAddKeepsCheckersApartRow.maps == (Try.f6.params.toList ++ Rows.fnCheckerAddKeepsCheckersApartSpec.plain.varTypes Try.prog).any (Try.prog.mapsRec ·)) : Bool) = true := by kernel_rfl
theorem k15 : ((Rows.fnCheckerAddKeepsCheckersApartRow.ifaces == (Try.f6.params.toList ++ Rows.fnCheckerAddKeepsCheckersApartSpec.plain.varTypes Try.prog).any (Try.prog.ifacesRec ·)) : Bool) = true := by kernel_rfl
theorem k16 : ((Rows.fnCheckerAddKeepsCheckersApartRow.mapsOut == Try.prog.mapsAmong Try.f6.resultTypes.toList) : Bool) = true := by kernel_rfl
theorem k17 : ((Rows.fnCheckerAddKeepsCheckersApartRow.loops == (Try.f6.params.toList ++ Rows.fnCheckerAddKeepsCheckersApartSpec.plain.varTypes Try.prog).any (Try.prog.loopsFrom ·)) : Bool) = true := by kernel_rfl
theorem k18 : ((Rows.fnCheckerAddKeepsCheckersApartRow.wideKeys == (Try.f6.params.toList ++ Rows.fnCheckerAddKeepsCheckersApartSpec.plain.varTypes Try.prog ++ Try.f6.resultTypes.toList).any (Try.prog.wideKeysFrom ·)) : Bool) = true := by kernel_rfl
theorem k19 : (Rows.fnCheckerAddKeepsCheckersApartSpec.vars.all (Try.prog.varReadable ·) : Bool) = true := by kernel_rfl
theorem k20 : (Try.f6.resultTypes.all (fun t => Try.prog.readableRec t && decide (t < Try.prog.types.size)) : Bool) = true := by kernel_rfl
theorem k21 : ((Rows.fnCheckerAddKeepsCheckersApartRow.ifacesOut == Try.f6.resultTypes.toList.any (Try.prog.ifacesRec ·)) : Bool) = true := by kernel_rfl
theorem k22 : ((Rows.fnCheckerAddKeepsCheckersApartRow.loopsOut == Try.f6.resultTypes.toList.any (Try.prog.loopsFrom ·)) : Bool) = true := by kernel_rfl
theorem k23 : ((Rows.fnCheckerAddKeepsCheckersApartRow.plainKeys == Try.prog.plainKeys) : Bool) = true := by kernel_rfl
theorem k24 : (Rows.fnCheckerAddKeepsCheckersApartRow.shortTexts.isNone : Bool) = true := by kernel_rfl
theorem k25 : (Try.prog.stopsHeard : Bool) = true := by kernel_rfl
theorem k26 : (Try.prog.mayEnter : Bool) = true := head.mayEnter
theorem k27 : ((Rows.fnCheckerAddKeepsCheckersApartRow.lifted == Try.prog.liftsFinal) : Bool) = true := by rw [head.liftsFinal]; rfl
theorem k28 : ((Try.prog.make == some Rows.fnCheckerAddKeepsCheckersApartRow.make) : Bool) = true := by rw [head.make]; rfl
theorem k29 : ((Rows.fnCheckerAddKeepsCheckersApartRow.kinds == (if Rows.fnCheckerAddKeepsCheckersApartRow.domain.isEmpty then [] else Try.f6.params.toList.map fun t => match Try.prog.underlying t with | some (.int k) => some k | _ => none)) : Bool) = true := by kernel_rfl
theorem k30 : ((Rows.fnCheckerAddKeepsCheckersApartRow.pinned == Rows.fnCheckerAddKeepsCheckersApartRow.pinnedBy) : Bool) = true := by kernel_rfl
theorem k31 : ((Rows.fnCheckerAddKeepsCheckersApartRow.veiled == (Try.f6.params.toList ++ Rows.fnCheckerAddKeepsCheckersApartSpec.plain.varTypes Try.prog ++ Try.f6.resultTypes.toList).any (Try.prog.veiledRec ·)) : Bool) = true := by kernel_rfl
theorem k32 : (Rows.fnCheckerAddKeepsCheckersApartRow.veiledFits Try.prog Try.f6.params.toList (Try.f6.params.toList ++ Rows.fnCheckerAddKeepsCheckersApartSpec.plain.varTypes Try.prog ++ Try.f6.resultTypes.toList) : Bool) = true := by kernel_rfl
set_option maxRecDepth 100000 in
theorem closed : joinedFacts Try.prog 6 Try.f6 Rows.fnCheckerAddKeepsCheckersApartSpec Rows.fnCheckerAddKeepsCheckersApartRow = true := by
  unfold joinedFacts
  exact (and_mk (and_mk (and_mk (and_mk (and_mk (and_mk (and_mk (and_mk (and_mk (and_mk (and_mk (and_mk (and_mk (and_mk (and_mk (and_mk (and_mk (and_mk (and_mk (and_mk (and_mk (and_mk (and_mk (and_mk (and_mk (and_mk (and_mk (and_mk (and_mk (and_mk (and_mk k1 k2) k3) k4) k5) k6) k7) k8) k9) k10) k11) k12) k13) k14) k15) k16) k17) k18) k19) k20) k21) k22) k23) k24) k25) k26) k27) k28) k29) k30) k31) k32)
end Go.Proofs.Qxb6613596a.fnCheckerAddKeepsCheckersApart
