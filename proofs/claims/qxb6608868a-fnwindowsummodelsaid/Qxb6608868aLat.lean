/-
  latencies.merge (29) from latencies without a group: nothing turns.
-/
import Derived.Test.Qxb6608868aProg
import Derived.WalkKit
import Derived.WalkSpells
import Derived.Below
import Derived.Deep.MidRow
namespace Go.Proofs.Qxb6608868a.st
open Go.RowKit
set_option maxRecDepth 100000

/-- 58 nil pointers. A definition of its own, so that the walk leaves it standing. -/
def nils : List Value := List.replicate 58 (.pointer none)
theorem nils_at (k : Nat) (h : k < 58) : nils[k]? = some (.pointer none) := by
  unfold nils; rw [List.getElem?_replicate, if_pos h]
theorem info51 : (Try.prog.info? 51).map (·.size) = some nils.length := by kernel_rfl

theorem index51 (k : Nat) (h : k < 58) (w : World) : (Instr.index 51 (.agg nils.toArray) (.int .i64 k)).run Try.prog w = .ok (.pointer none) w := by
  have hs : (sizeOf 50).run Try.prog w = .ok 1 w := Try.sizeOf50 w
  simp [Instr.index, asIntOf, run_underlying Try.underlying51, hs, part, nils_at k h, h]

set_option maxHeartbeats 1000000 in
theorem lat29 (l : Option Addr) (p o : Nat) (w : World) (hr : w.rangeAt p (o + 1) nils) :
    Calls Try.prog 29 #[.pointer l, .pointer (some ⟨p, o, none⟩)] w fun e w' => e = .returned (.tuple #[]) ∧ w' = w := by
  have HR : Hid (w.rangeAt p (o + 1) nils) := hr
  clear hr
  go_enter Try.func29, Try.ntmps29
  go_wp2_with (refine wpList_load_mid (by rfl) 51 (.tmp 10) (by rfl) p (o + 1) (by rfl) nils _ HR.out Try.underlying51 rfl info51 ?_)
  go_loop [12] (fun i => ∃ k : Nat, i = .int .i64 k ∧ k ≤ 58) (fun i => 58 - (intOf i).toNat)
  case atStart => exact ⟨0, rfl, by omega⟩
  case round =>
    obtain ⟨k, rfl, hk⟩ := hrel
    by_cases hlt : k < 58
    · have ix := index51 k hlt
      go_wp2
      go_round
      case rel => exact ⟨k + 1, by go_num, by omega⟩
      case measure => simp [intOf]; omega
    · go_wp2
      go_end0
      exact ⟨rfl, rfl⟩
end Go.Proofs.Qxb6608868a.st
