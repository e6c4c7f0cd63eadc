/-
  zzIncreasing (function 11) and the two zzBytes (functions 10, 13): what they answer.
-/
import Derived.Test.Qxb6613590aProg
import Derived.WalkKit
import Derived.Deep.Draws
import Derived.Deep.QuietTactic
import Derived.BigQuiet
import Derived.Below
import Derived.Outline
namespace Go.Proofs.Qxb6613590a.place
open Go.RowKit

/-- The first n numbers rise strictly. -/
def Inc (zs : List Int) (n : Nat) : Prop := ∀ j, j + 1 < n → zs.getD j 0 < zs.getD (j + 1) 0

theorem inc_step {zs : List Int} {k : Nat} (h : Inc zs k) (hs : zs[k - 1]?.getD 0 < zs[k]?.getD 0) (_hk : 1 ≤ k) : Inc zs (k + 1) := by
  intro j hj
  by_cases e : j + 1 < k
  · exact h j e
  · obtain rfl : j = k - 1 := by omega
    rw [show k - 1 + 1 = k by omega]
    simpa [List.getD] using hs

set_option maxHeartbeats 400000 in
theorem inc_small (a : Option Addr) (n c : Nat) (w : World) (hn : n ≤ 1) :
    Calls Try.prog 11 #[.slice a n c] w fun e w' => e = .returned (.bool true) ∧ w' = w := by
  have h : ¬ (1 : Int) < (n : Int) := by omega
  go_enter Try.func11, Try.ntmps11
  go_wp2
  refine wp_loop_rounds 1 ?_
  rw [rounds_succ]
  go_wp2
  go_ret
  exact ⟨rfl, rfl⟩

set_option maxHeartbeats 1000000 in
theorem inc_any (b off n c : Nat) (zs : List Int) (w : World) (hn : n ≤ 65536)
    (hc : ∀ j, j < n → w.cell? ⟨b, off + j, none⟩ = some (.int .i64 (zs.getD j 0))) :
    Calls Try.prog 11 #[.slice (some ⟨b, off, none⟩) n c] w fun e w' => ∃ r : Bool, e = .returned (.bool r) ∧ (r = true → Inc zs n) ∧ ∃ q, w' = w.drewN q := by
  go_enter Try.func11, Try.ntmps11
  go_wp2
  go_loopw [3] (fun i wr => ∃ k q : Nat, i = .int .i64 k ∧ 1 ≤ k ∧ k ≤ n + 1 ∧ Inc zs k ∧ wr = w.drewN q) (fun i _ => n + 1 - (intOf i).toNat)
  case atStart => exact ⟨1, 0, rfl, Nat.le_refl _, by omega, fun j hj => by omega, rfl⟩
  case round =>
    obtain ⟨k, q, rfl, hk1, hkn, hinc, rfl⟩ := hrel
    have HI : Hid (Inc zs k) := hinc
    clear hinc
    by_cases hlt : k < n
    · have c1 := hc (k - 1) (by omega)
      have c2 := hc k hlt
      clear hc
      have i1 : (0 : Int) ≤ (k : Int) - 1 := by omega
      have i2 : (k : Int) - 1 < (n : Int) := by omega
      have i3 : (k : Int) < (n : Int) := by omega
      go_wp2
      go_quiet (fail)
      go_wp2
      · go_ret
        exact ⟨false, rfl, fun h => by simp at h, _, World.drewN_drewN _ _ _⟩
      · have hs : zs[k - 1]?.getD 0 < zs[k]?.getD 0 := by assumption
        go_roundw
        case rel => exact ⟨k + 1, _, by go_num, by omega, by omega, inc_step HI.out hs hk1, rfl⟩
        case measure => simp [intOf]; omega
    · go_wp2
      go_ret
      exact ⟨true, rfl, fun _ j hj => HI.out j (by omega), q, rfl⟩

theorem bytes10 (a : Option Addr) (n c : Nat) (w : World) (hn : n ≤ 1048576) :
    Calls Try.prog 10 #[.slice a n c] w fun e w' => e = .returned (.bool true) ∧ w' = w := by
  go_enter Try.func10, Try.ntmps10
  go_wp2
  go_ret
  exact ⟨rfl, rfl⟩
theorem bytes10_no (a : Option Addr) (n c : Nat) (w : World) (hn : ¬ n ≤ 1048576) :
    Calls Try.prog 10 #[.slice a n c] w fun e w' => e = .returned (.bool false) ∧ w' = w := by
  go_enter Try.func10, Try.ntmps10
  go_wp2
  go_ret
  exact ⟨rfl, rfl⟩
theorem bytes13 (a : Option Addr) (n c : Nat) (k u : Int) (w : World) (hn : n ≤ 1048576) :
    Calls Try.prog 13 #[.slice a n c, .int .i64 k, .int .i64 u] w fun e w' => e = .returned (.bool true) ∧ w' = w := by
  go_enter Try.func13, Try.ntmps13
  go_wp2
  go_ret
  exact ⟨rfl, rfl⟩
theorem bytes13_no (a : Option Addr) (n c : Nat) (k u : Int) (w : World) (hn : ¬ n ≤ 1048576) :
    Calls Try.prog 13 #[.slice a n c, .int .i64 k, .int .i64 u] w fun e w' => e = .returned (.bool false) ∧ w' = w := by
  go_enter Try.func13, Try.ntmps13
  go_wp2
  go_ret
  exact ⟨rfl, rfl⟩
end Go.Proofs.Qxb6613590a.place
