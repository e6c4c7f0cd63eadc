/-
  The walk of FnMsqlLiteralPrefixAgreesWithWordKey (function 3).
-/
import Derived.Test.Qxb6613674aKey
import Derived.WalkLawsBesides
namespace Go.Proofs.Qxb6613674a.key
open Go.RowKit

set_option maxHeartbeats 400000 in
theorem main_big (s : ByteArray) (q : Int) (w : World) (h : ¬ s.size ≤ 1048576) :
    Calls Try.prog 3 #[.string s, .int .u8 q] w fun e w' => e = .returned (.bool true) ∧ Grown w w' := by
  go_enter Try.func3, Try.ntmps3
  go_wp2_with (go_at_call 10; refine (bytes10_no _ _ _ h).mono ?_; rintro e w' ⟨rfl, rfl⟩)
  go_ret
  exact ⟨rfl, Grown.refl _⟩

set_option maxHeartbeats 400000 in
theorem main_q (s : ByteArray) (q : Int) (w : World) (h : s.size ≤ 1048576) (hq : (q == 39) = false) :
    Calls Try.prog 3 #[.string s, .int .u8 q] w fun e w' => e = .returned (.bool true) ∧ Grown w w' := by
  go_enter Try.func3, Try.ntmps3
  go_wp2_with (first | (go_at_call 10; refine (bytes10 _ _ _ h).mono ?_; rintro e w' ⟨rfl, rfl⟩) | (go_at_call 11; refine (prefix_q _ _ _ hq).mono ?_; rintro e w' ⟨rfl, rfl⟩))
  go_ret
  exact ⟨rfl, Grown.refl _⟩

set_option maxHeartbeats 400000 in
theorem main_len (s : ByteArray) (w : World) (h : s.size ≤ 1048576) (hs : ((s.size : Int) == 1) = false) :
    Calls Try.prog 3 #[.string s, .int .u8 39] w fun e w' => e = .returned (.bool true) ∧ Grown w w' := by
  go_enter Try.func3, Try.ntmps3
  go_wp2_with (first | (go_at_call 10; refine (bytes10 _ _ _ h).mono ?_; rintro e w' ⟨rfl, rfl⟩) | (go_at_call 11; refine (prefix_len _ _ hs).mono ?_; rintro e w' ⟨rfl, rfl⟩))
  go_ret
  exact ⟨rfl, Grown.refl _⟩

set_option maxHeartbeats 400000 in
theorem main_no (c : UInt8) (w : World) (hc : (bits BinOp.or IntKind.u8 (c.toNat : Int) 32 == 120) = false) :
    Calls Try.prog 3 #[.string ⟨#[c]⟩, .int .u8 39] w fun e w' => e = .returned (.bool true) ∧ Grown w w' := by
  have hk : (kb c == kb 88) = false := by rw [← two_ways]; exact hc
  have HC : Hid ((bits BinOp.or IntKind.u8 (c.toNat : Int) 32 == 120) = false) := hc
  clear hc
  go_enter Try.func3, Try.ntmps3
  go_wp2_with fail
  refine (bytes10 _ _ _ (Nat.le_of_ble_eq_true rfl)).mono ?_
  rintro e w ⟨rfl, rfl⟩
  go_wp2_with fail
  refine (prefix_one _ _).mono ?_
  rintro e w ⟨rfl, rfl⟩
  rw [HC.out]
  go_wp2_with fail
  refine (key_one _ _).mono ?_
  rintro e w ⟨rfl, rfl⟩
  go_wp2_with fail
  refine (key_one _ _).mono ?_
  rintro e w ⟨rfl, rfl⟩
  go_wp2_with fail
  go_ret
  exact ⟨rfl, Grown.refl _⟩

theorem conv (w : World) (O : Obj) (t : TypeId) :
    Sem.run Try.prog (convert 28 9 (.slice (some ⟨w.heap.size + 1, 0, none⟩) 1 1)) ((w.alloc O).alloc (.cells #[.int .u8 39] t)) = .ok (.string ⟨#[39]⟩) ((w.alloc O).alloc (.cells #[.int .u8 39] t)) := by
  have h := run_convert_bytes_back (P := Try.prog) ((w.alloc O).alloc (.cells #[.int .u8 39] t)) 28 9 5 ⟨w.heap.size + 1, 0, none⟩ 1 [39] Try.underlying28 Try.underlying5 Try.underlying9 (fun j hj => by
    obtain rfl : j = 0 := by simpa using hj
    have hs : (w.alloc O).heap.size = w.heap.size + 1 := by simp
    have hh := heap_alloc_new (w.alloc O) (.cells #[.int .u8 39] t)
    rw [hs] at hh
    generalize (w.alloc O).alloc (.cells #[.int .u8 39] t) = X at hh ⊢
    simp [Addr.add, World.cell?, hh])
  exact h

set_option maxHeartbeats 400000 in
theorem main_yes (c : UInt8) (w : World) (hc : (bits BinOp.or IntKind.u8 (c.toNat : Int) 32 == 120) = true) (h95 : ((c.toNat : Int) == 95) = false) :
    Calls Try.prog 3 #[.string ⟨#[c]⟩, .int .u8 39] w fun e w' => e = .returned (.bool true) ∧ Grown w w' := by
  have hk : (kb c == kb 88) = true := by rw [← two_ways]; exact hc
  have HC : Hid ((bits BinOp.or IntKind.u8 (c.toNat : Int) 32 == 120) = true) := hc
  clear hc
  go_enter Try.func3, Try.ntmps3
  go_wp2_with fail
  refine (bytes10 _ _ _ (Nat.le_of_ble_eq_true rfl)).mono ?_
  rintro e w ⟨rfl, rfl⟩
  go_wp2_with fail
  refine (prefix_one _ _).mono ?_
  rintro e w ⟨rfl, rfl⟩
  rw [HC.out]
  go_wp2_with fail
  refine (key_one _ _).mono ?_
  rintro e w ⟨rfl, rfl⟩
  go_wp2_with fail
  refine (key_one _ _).mono ?_
  rintro e w ⟨rfl, rfl⟩
  have hcv := fun O t => conv w O t
  have e1 : ∀ h, (((⟨#[c]⟩ : ByteArray) ++ ⟨#[39]⟩)[1]'h).toNat = 39 := fun _ => rfl
  have e0 : ∀ h, ((⟨#[c]⟩ : ByteArray)[0]'h) = c := fun _ => rfl
  go_wp2
  go_ret
  exact ⟨rfl, by repeat (first | exact Grown.refl _ | apply Grown.drew | apply Grown.alloc)⟩
end Go.Proofs.Qxb6613674a.key
