/-
  FnWindowSumModel (5): the walk.
-/
import Derived.Test.Qxb6608868aTwo
import Derived.Deep.RegionHeld3
import Derived.Deep.DrawnRows
import Derived.WalkLawsBesides
namespace Go.Proofs.Qxb6608868a.st
open Go.RowKit
set_option maxRecDepth 1000000

/-- The arguments. -/
def Inp.args (I : Inp) (rot : Int) : Array Value := #[.int .i64 I.org, .int .i64 I.now, .agg (arr fun j => .int .i64 (I.sl j)), .agg (arr fun j => .int .i64 (I.rq j)), .agg (arr fun j => .int .i64 (I.er j)), .agg (arr fun j => .bool (I.has j)), .agg (arr fun j => .int .i64 (I.stt j)), .agg (arr fun j => .int .i64 (I.cnt j)), .int .i64 rot]

set_option maxHeartbeats 1000000 in
theorem early1 (I : Inp) (rot : Int) (w : World) (h : I.org < 0) : Calls Try.prog 5 (I.args rot) w fun e w' => e = .returned (.bool true) ∧ Below w.heap.size w w' := by
  have BE : Hid (Below w.heap.size w (boxed w I)) := boxed_below w I
  unfold Inp.args
  have h' : decide (I.org < 0) = true := by simpa using h
  go_enter Try.func5, Try.ntmps5
  go_wp2
  go_ret
  exact ⟨rfl, BE.out⟩
set_option maxHeartbeats 1000000 in
theorem early2 (I : Inp) (rot : Int) (w : World) (h0 : ¬ I.org < 0) (h : I.now < I.org) : Calls Try.prog 5 (I.args rot) w fun e w' => e = .returned (.bool true) ∧ Below w.heap.size w w' := by
  have BE : Hid (Below w.heap.size w (boxed w I)) := boxed_below w I
  unfold Inp.args
  have h' : decide (I.org < 0) = false := by simpa using h0
  go_enter Try.func5, Try.ntmps5
  go_wp2
  go_ret
  exact ⟨rfl, BE.out⟩
set_option maxHeartbeats 1000000 in
theorem early3 (I : Inp) (rot : Int) (w : World) (h0 : ¬ I.org < 0) (h1 : ¬ I.now < I.org) (h : rot < 0) : Calls Try.prog 5 (I.args rot) w fun e w' => e = .returned (.bool true) ∧ Below w.heap.size w w' := by
  have BE : Hid (Below w.heap.size w (boxed w I)) := boxed_below w I
  unfold Inp.args
  have h' : decide (I.org < 0) = false := by simpa using h0
  have h2 : decide (rot < 0) = true := by simpa using h
  go_enter Try.func5, Try.ntmps5
  go_wp2
  go_ret
  exact ⟨rfl, BE.out⟩
set_option maxHeartbeats 1000000 in
theorem early4 (I : Inp) (rot : Int) (w : World) (h0 : ¬ I.org < 0) (h1 : ¬ I.now < I.org) (h2 : ¬ rot < 0) (h : 9 < rot) : Calls Try.prog 5 (I.args rot) w fun e w' => e = .returned (.bool true) ∧ Below w.heap.size w w' := by
  have BE : Hid (Below w.heap.size w (boxed w I)) := boxed_below w I
  unfold Inp.args
  have h' : decide (I.org < 0) = false := by simpa using h0
  have h2' : decide (rot < 0) = false := by simpa using h2
  go_enter Try.func5, Try.ntmps5
  go_wp2
  go_ret
  exact ⟨rfl, BE.out⟩
end Go.Proofs.Qxb6608868a.st
