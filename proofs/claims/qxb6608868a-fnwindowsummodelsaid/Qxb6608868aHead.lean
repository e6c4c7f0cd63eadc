/-
  What the dump's head says, read without decoding the whole of it: the words behind the harness's sum open with 'cut'.
  (Three of a row's closed facts ask it; each by itself wants some 9 GB of the kernel: the literal's characters are taken by 'String.toList_ofList' here.)
-/
import Derived.Test.Qxb6608868aRows
import Derived.JoinedOf
import Derived.KernelRfl
namespace Go.Proofs.Qxb6608868a.head
open Go

set_option maxRecDepth 100000 in
theorem chars : ∃ L, Try.prog.initOrder = String.ofList L ∧ (behindMainWord (wordsSigns L)).head? = some "cut".toList := by
  refine ⟨_, (rfl : Try.prog.initOrder = String.ofList _), ?_⟩
  kernel_rfl
theorem cut : ∃ r, behindMainWord (wordsSigns Try.prog.initOrder.toList) = "cut".toList :: r := by
  obtain ⟨L, h, hr⟩ := chars
  rw [h, String.toList_ofList]
  cases hw : behindMainWord (wordsSigns L) with
  | nil => rw [hw] at hr; cases hr
  | cons c r => rw [hw] at hr; simp only [List.head?_cons, Option.some.injEq] at hr; exact ⟨r, by rw [hr]⟩

theorem gc_ne : ("cut".toList == "gc".toList) = false := by kernel_rfl
theorem spec_ne : ("cut".toList == "spec".toList) = false := by kernel_rfl
theorem carried_ne : ("cut".toList == "carried".toList) = false := by kernel_rfl
theorem lifts (r : List (List Char)) : stripLifts liftWords ("cut".toList :: r) = ([], "cut".toList :: r) := by kernel_rfl
theorem mayEnter_of (P : Program) (r : List (List Char)) (hr : behindMainWord (wordsSigns P.initOrder.toList) = "cut".toList :: r) (h1 : P.laysLater = false) (h2 : P.bearsReflect = false) (h3 : P.doorFits [] = true) : P.mayEnter = true := by
  unfold Program.mayEnter
  rw [hr]
  simp only [lifts, h1, h2, h3]
  simp
theorem liftsFinal_of (P : Program) (r : List (List Char)) (hr : behindMainWord (wordsSigns P.initOrder.toList) = "cut".toList :: r) : P.liftsFinal = false := by
  unfold Program.liftsFinal Program.headLifts
  rw [hr]
  simp only [lifts]
  simp
theorem make_of (P : Program) (r : List (List Char)) (hr : behindMainWord (wordsSigns P.initOrder.toList) = "cut".toList :: r) : P.make = some .cut := by
  unfold Program.make
  rw [hr]
  simp only [gc_ne, spec_ne]
  simp
theorem lays : Try.prog.laysLater = false := by kernel_rfl
theorem reflects : Try.prog.bearsReflect = false := by kernel_rfl
theorem doors : Try.prog.doorFits [] = true := by kernel_rfl
theorem mayEnter : Try.prog.mayEnter = true := by
  obtain ⟨r, hr⟩ := cut
  exact mayEnter_of _ r hr lays reflects doors
theorem liftsFinal : Try.prog.liftsFinal = false := by
  obtain ⟨r, hr⟩ := cut
  exact liftsFinal_of _ r hr
theorem make : Try.prog.make = some .cut := by
  obtain ⟨r, hr⟩ := cut
  exact make_of _ r hr
end Go.Proofs.Qxb6608868a.head
