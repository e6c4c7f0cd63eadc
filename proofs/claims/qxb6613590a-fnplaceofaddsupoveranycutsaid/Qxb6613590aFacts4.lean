/-
  The closed facts of one row, each a theorem of its own (tools/facts.py).
-/
import Derived.Test.Qxb6613590aHead
import Derived.JoinedOf
import Derived.KernelRfl
namespace Go.Proofs.Qxb6613590a.fnPlaceOfAddsUpOverAnyCut
open Go
theorem and_mk {a b : Bool} (h : a = true) (k : b = true) : (a && b) = true := by rw [h, k]; rfl
theorem k1 : (Rows.fnPlaceOfAddsUpOverAnyCutRow.wf (OpenSpec.ofChange Rows.fnPlaceOfAddsUpOverAnyCutSpec) : Bool) = true := by kernel_rfl
theorem k2 : (laidOutB Try.prog : Bool) = true := by kernel_rfl
theorem k3 : (mapsRowed Try.prog : Bool) = true := by kernel_rfl
theorem k4 : (Try.f4.params.all (Try.prog.readableRec ·) : Bool) = true := by kernel_rfl
theorem k5 : (namedTie Try.prog Rows.fnPlaceOfAddsUpOverAnyCutRow.named Rows.fnPlaceOfAddsUpOverAnyCutSpec.vars : Bool) = true := by kernel_rfl
theorem k6 : ((Rows.fnPlaceOfAddsUpOverAnyCutRow.stops == []) : Bool) = true := by kernel_rfl
theorem k7 : ((Try.prog.stops == []) : Bool) = true := by kernel_rfl
theorem k8 : ((Rows.fnPlaceOfAddsUpOverAnyCutRow.knobs == []) : Bool) = true := by kernel_rfl
theorem k9 : ((Try.prog.stopKnobs == []) : Bool) = true := by kernel_rfl
theorem k10 : ((Rows.fnPlaceOfAddsUpOverAnyCutRow.inPlace == Try.prog.inPlace 4) : Bool) = true := by kernel_rfl
theorem k11 : ((Rows.fnPlaceOfAddsUpOverAnyCutRow.unfollowed == Try.prog.unfollowed 4) : Bool) = true := by kernel_rfl
theorem k12 : ((Rows.fnPlaceOfAddsUpOverAnyCutRow.recurses == Try.prog.recurses 4) : Bool) = true := by kernel_rfl
theorem k13 : ((Rows.fnPlaceOfAddsUpOverAnyCutRow.named == Try.prog.varsNamed 4) : Bool) = true := by kernel_rfl
theorem k14 : ((Rows.fnPlaceOfAddsUpOverAnyCutRow.maps == (Try.f4.params.toList ++ Rows.fnPlaceOfAddsUpOverAnyCutSpec.plain.varTypes Try.prog).any (Try.prog.mapsRec ·)) : Bool) = true := by kernel_rfl
theorem k15 : ((Rows.fnPlaceOfAddsUpOverAnyCutRow.ifaces == (Try.f4.params.toList ++ Rows.fnPlaceOfAddsUpOverAnyCutSpec.plain.varTypes Try.prog).any (Try.prog.ifacesRec ·)) : Bool) = true := by kernel_rfl
theorem k16 : ((Rows.fnPlaceOfAddsUpOverAnyCutRow.mapsOut == Try.prog.mapsAmong Try.f4.resultTypes.toList) : Bool) = true := by kernel_rfl
theorem k17 : ((Rows.fnPlaceOfAddsUpOverAnyCutRow.loops == (Try.f4.params.toList ++ Rows.fnPlaceOfAddsUpOverAnyCutSpec.plain.varTypes Try.prog).any (Try.prog.loopsFrom ·)) : Bool) = true := by kernel_rfl
theorem k18 : ((Rows.fnPlaceOfAddsUpOverAnyCutRow.wideKeys == (Try.f4.params.toList ++ Rows.fnPlaceOfAddsUpOverAnyCutSpec.plain.varTypes Try.prog ++ Try.f4.resultTypes.toList).any (Try.prog.wideKeysFrom ·)) : Bool) = true := by kernel_rfl
theorem k19 : (Rows.fnPlaceOfAddsUpOverAnyCutSpec.vars.all (Try.prog.varReadable ·) : Bool) = true := by kernel_rfl
theorem k20 : (Try.f4.resultTypes.all (fun t => Try.prog.readableRec t && decide (t < Try.prog.types.size)) : Bool) = true := by kernel_rfl
theorem k21 : ((Rows.fnPlaceOfAddsUpOverAnyCutRow.ifacesOut == Try.f4.resultTypes.toList.any (Try.prog.ifacesRec ·)) : Bool) = true := by kernel_rfl
theorem k22 : ((Rows.fnPlaceOfAddsUpOverAnyCutRow.loopsOut == Try.f4.resultTypes.toList.any (Try.prog.loopsFrom ·)) : Bool) = true := by kernel_rfl
theorem k23 : ((Rows.fnPlaceOfAddsUpOverAnyCutRow.plainKeys == Try.prog.plainKeys) : Bool) = true := by kernel_rfl
theorem k24 : (Rows.fnPlaceOfAddsUpOverAnyCutRow.shortTexts.isNone : Bool) = true := by kernel_rfl
theorem k25 : (Try.prog.stopsHeard : Bool) = true := by kernel_rfl
theorem k26 : (Try.prog.mayEnter : Bool) = true := head.mayEnter
theorem k27 : ((Rows.fnPlaceOfAddsUpOverAnyCutRow.lifted == Try.prog.liftsFinal) : Bool) = true := by rw [head.liftsFinal]; rfl
theorem k28 : ((Try.prog.make == some Rows.fnPlaceOfAddsUpOverAnyCutRow.make) : Bool) = true := by rw [head.make]; rfl
theorem k29 : ((Rows.fnPlaceOfAddsUpOverAnyCutRow.kinds == (if Rows.fnPlaceOfAddsUpOverAnyCutRow.domain.isEmpty then [] else Try.f4.params.toList.map fun t => match Try.prog.underlying t with | some (.int k) => some k | _ => none)) : Bool) = true := by kernel_rfl
theorem k30 : ((Rows.fnPlaceOfAddsUpOverAnyCutRow.pinned == Rows.fnPlaceOfAddsUpOverAnyCutRow.pinnedBy) : Bool) = true := by kernel_rfl
theorem k31 : ((Rows.fnPlaceOfAddsUpOverAnyCutRow.veiled == (Try.f4.params.toList ++ Rows.fnPlaceOfAddsUpOverAnyCutSpec.plain.varTypes Try.prog ++ Try.f4.resultTypes.toList).any (Try.prog.veiledRec ·)) : Bool) = true := by kernel_rfl
theorem k32 : (Rows.fnPlaceOfAddsUpOverAnyCutRow.veiledFits Try.prog Try.f4.params.toList (Try.f4.params.toList ++ Rows.fnPlaceOfAddsUpOverAnyCutSpec.plain.varTypes Try.prog ++ Try.f4.resultTypes.toList) : Bool) = true := by kernel_rfl
set_option maxRecDepth 100000 in
theorem closed : joinedFacts Try.prog 4 Try.f4 Rows.fnPlaceOfAddsUpOverAnyCutSpec Rows.fnPlaceOfAddsUpOverAnyCutRow = true := by
  unfold joinedFacts
  exact (and_mk (and_mk (and_mk (and_mk (and_mk (and_mk (and_mk (and_mk (and_mk (and_mk (and_mk (and_mk (and_mk (and_mk (and_mk (and_mk (and_mk (and_mk (and_mk (and_mk (and_mk (and_mk (and_mk (and_mk (and_mk (and_mk (and_mk (and_mk (and_mk (and_mk (and_mk k1 k2) k3) k4) k5) k6) k7) k8) k9) k10) k11) k12) k13) k14) k15) k16) k17) k18) k19) k20) k21) k22) k23) k24) k25) k26) k27) k28) k29) k30) k31) k32)
end Go.Proofs.Qxb6613590a.fnPlaceOfAddsUpOverAnyCut
