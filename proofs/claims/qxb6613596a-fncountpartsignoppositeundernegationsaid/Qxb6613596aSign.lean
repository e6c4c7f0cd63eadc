/-
  zzSignOf (function 7), by the sign of its first argument.
-/
import Derived.Test.Qxb6613596aProg
import Derived.WalkKit
import Derived.Below
namespace Go.Proofs.Qxb6613596a.sign
open Go.RowKit

set_option maxHeartbeats 400000 in
theorem new15 (n d : Int) (w : World) :
    Calls Try.prog 15 #[.int .i64 n, .int .i64 d] w fun e w' => e = .returned (.agg #[.int .i64 n, .int .i64 d]) ∧ Grown w w' := by
  go_enter Try.func15, Try.ntmps15
  go_wp2
  exact bodyPost_ret (v := .agg #[.int .i64 n, .int .i64 d]) (by simp [results, Try.results15, go_sem]) rfl ⟨rfl, by repeat (first | exact Grown.refl _ | apply Grown.drew | apply Grown.alloc)⟩

set_option maxHeartbeats 400000 in
theorem sign14_neg (n d : Int) (w : World) (h : n < 0) :
    Calls Try.prog 14 #[.agg #[.int .i64 n, .int .i64 d]] w fun e w' => e = .returned (.int .i64 (-1)) ∧ Grown w w' := by
  go_enter Try.func14, Try.ntmps14
  go_wp2
  go_ret
  exact ⟨rfl, by repeat (first | exact Grown.refl _ | apply Grown.drew | apply Grown.alloc)⟩

set_option maxHeartbeats 400000 in
theorem sign14_pos (n d : Int) (w : World) (h : 0 < n) :
    Calls Try.prog 14 #[.agg #[.int .i64 n, .int .i64 d]] w fun e w' => e = .returned (.int .i64 1) ∧ Grown w w' := by
  go_enter Try.func14, Try.ntmps14
  go_wp2
  go_ret
  exact ⟨rfl, by repeat (first | exact Grown.refl _ | apply Grown.drew | apply Grown.alloc)⟩

set_option maxHeartbeats 400000 in
theorem sign14_zero (d : Int) (w : World) :
    Calls Try.prog 14 #[.agg #[.int .i64 0, .int .i64 d]] w fun e w' => e = .returned (.int .i64 0) ∧ Grown w w' := by
  go_enter Try.func14, Try.ntmps14
  go_wp2
  go_ret
  exact ⟨rfl, by repeat (first | exact Grown.refl _ | apply Grown.drew | apply Grown.alloc)⟩

theorem grown_trans {a b c : World} (h : Grown a b) (k : Grown b c) : Grown a c :=
  ⟨World.keptBut_trans h.1 k.1, fun x => (k.2.1 x).trans (h.2.1 x), Nat.le_trans h.2.2 k.2.2⟩

/-- The sign of a number. -/
def sg (n : Int) : Int := if n < 0 then -1 else if 0 < n then 1 else 0
theorem sg_neg {n : Int} (h : n < 0) : sg n = -1 := by unfold sg; rw [if_pos h]
theorem sg_pos {n : Int} (h : 0 < n) : sg n = 1 := by unfold sg; rw [if_neg (by omega), if_pos h]
theorem sg_zero : sg 0 = 0 := rfl

theorem sign14 (n d : Int) (w : World) :
    Calls Try.prog 14 #[.agg #[.int .i64 n, .int .i64 d]] w fun e w' => e = .returned (.int .i64 (sg n)) ∧ Grown w w' := by
  rcases Int.lt_trichotomy n 0 with h | h | h
  · rw [sg_neg h]; exact sign14_neg n d w h
  · subst h; exact sign14_zero d w
  · rw [sg_pos h]; exact sign14_pos n d w h

set_option maxHeartbeats 400000 in
theorem sign7 (n d : Int) (w : World) :
    Calls Try.prog 7 #[.int .i64 n, .int .i64 d] w fun e w' => e = .returned (.int .i64 (sg n)) ∧ Grown w w' := by
  go_enter Try.func7, Try.ntmps7
  go_wp2_with fail
  refine (new15 n d _).mono ?_
  rintro e w1 ⟨rfl, g1⟩
  go_wp2_with fail
  refine (sign14 n d _).mono ?_
  rintro e w2 ⟨rfl, g2⟩
  go_wp2_with fail
  go_ret
  exact ⟨rfl, grown_trans g1 g2⟩
end Go.Proofs.Qxb6613596a.sign
