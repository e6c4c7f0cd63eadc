/-
  The callees of FnMsqlLiteralPrefixAgreesWithWordKey.
-/
import Derived.Test.Qxb6613674aProg
import Derived.WalkKit
import Derived.WalkSpells
import Derived.Below
namespace Go.Proofs.Qxb6613674a.key
open Go.RowKit

set_option maxHeartbeats 400000 in
theorem bytes10 (s : ByteArray) (q : Int) (w : World) (h : s.size ≤ 1048576) :
    Calls Try.prog 10 #[.string s, .int .u8 q] w fun e w' => e = .returned (.bool true) ∧ w' = w := by
  go_enter Try.func10, Try.ntmps10
  go_wp2
  go_ret
  exact ⟨rfl, rfl⟩
set_option maxHeartbeats 400000 in
theorem bytes10_no (s : ByteArray) (q : Int) (w : World) (h : ¬ s.size ≤ 1048576) :
    Calls Try.prog 10 #[.string s, .int .u8 q] w fun e w' => e = .returned (.bool false) ∧ w' = w := by
  go_enter Try.func10, Try.ntmps10
  go_wp2
  go_ret
  exact ⟨rfl, rfl⟩

set_option maxHeartbeats 400000 in
theorem prefix_q (s : ByteArray) (q : Int) (w : World) (h : (q == 39) = false) :
    Calls Try.prog 11 #[.string s, .int .u8 q] w fun e w' => e = .returned (.bool false) ∧ w' = w := by
  go_enter Try.func11, Try.ntmps11
  go_wp2
  go_ret
  exact ⟨rfl, rfl⟩

set_option maxHeartbeats 400000 in
theorem prefix_len (s : ByteArray) (w : World) (h : ((s.size : Int) == 1) = false) :
    Calls Try.prog 11 #[.string s, .int .u8 39] w fun e w' => e = .returned (.bool false) ∧ w' = w := by
  go_enter Try.func11, Try.ntmps11
  go_wp2
  go_ret
  exact ⟨rfl, rfl⟩

set_option maxHeartbeats 400000 in
theorem prefix_one (c : UInt8) (w : World) :
    Calls Try.prog 11 #[.string ⟨#[c]⟩, .int .u8 39] w fun e w' => e = .returned (.bool (bits BinOp.or IntKind.u8 (c.toNat : Int) 32 == 120)) ∧ w' = w := by
  go_enter Try.func11, Try.ntmps11
  go_wp2
  go_ret
  exact ⟨rfl, rfl⟩

/-- The key of a word of one byte, as the walk spells it. -/
def kb (c : UInt8) : Int := bits BinOp.or IntKind.u64 0 (IntKind.u64.wrap (bits BinOp.or IntKind.u8 (c.toNat : Int) 32))

set_option maxHeartbeats 400000 in
theorem key_one (c : UInt8) (w : World) :
    Calls Try.prog 12 #[.string ⟨#[c]⟩] w fun e w' => e = .returned (.int .u64 (kb c)) ∧ w' = w := by
  go_enter Try.func12, Try.ntmps12
  go_wp2
  refine wp_loop_rounds 2 ?_
  rw [rounds_succ]
  go_wp2
  rw [rounds_succ]
  go_wp2
  go_ret
  exact ⟨rfl, rfl⟩

theorem all_bytes {p : UInt8 → Bool} (h : (List.range 256).all (fun n => p (UInt8.ofNat n)) = true) (c : UInt8) : p c = true := by
  have := List.all_eq_true.1 h c.toNat (by simpa using c.toNat_lt)
  simpa using this
theorem two_ways (c : UInt8) : (bits BinOp.or IntKind.u8 (c.toNat : Int) 32 == 120) = (kb c == kb 88) := by
  have := all_bytes (p := fun c => (bits BinOp.or IntKind.u8 (c.toNat : Int) 32 == 120) == (kb c == kb 88)) (by decide +kernel) c
  simpa using this
theorem which (c : UInt8) (h : (bits BinOp.or IntKind.u8 (c.toNat : Int) 32 == 120) = true) : c = 88 ∨ c = 120 := by
  have := all_bytes (p := fun c => !(bits BinOp.or IntKind.u8 (c.toNat : Int) 32 == 120) || (c == 88 || c == 120)) (by decide +kernel) c
  rw [h] at this
  simpa using this
end Go.Proofs.Qxb6613674a.key
