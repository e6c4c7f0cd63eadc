/-
  The small callees: zzValsOK (16), zzCounts (21), the tally's readers (22, 23, 24).
-/
import Derived.Test.Qxb6608868aSum
namespace Go.Proofs.Qxb6608868a.st
open Go.RowKit
set_option maxRecDepth 100000

/-- An array of ten. -/
def arr (f : Nat → Value) : Array Value := ((List.range 10).map f).toArray
theorem arr_size (f : Nat → Value) : (arr f).size = 10 := by simp [arr]
theorem arr_at (f : Nat → Value) (j : Nat) (h : j < 10) : (arr f)[j]? = some (f j) := by simp [arr, h]

/-- A truth value is returned, and true only where P holds. -/
def RetIf (e : Ending) (P : Prop) : Prop := ∃ r : Bool, e = .returned (.bool r) ∧ (r = true → P)

def VOK (f : Nat → Int) (k : Nat) : Prop := ∀ j, j < k → 0 ≤ f j ∧ f j ≤ 1099511627776

set_option maxHeartbeats 1000000 in
theorem vals16 (f : Nat → Int) (w : World) :
    Calls Try.prog 16 #[.agg (arr fun j => .int .i64 (f j))] w fun e w' => RetIf e (VOK f 10) ∧ Below w.heap.size w w' := by
  go_enter Try.func16, Try.ntmps16
  have HH : Hid (∀ j, j < 10 → (w.alloc (.cells (arr fun j => .int .i64 (f j)) 33)).cell? ⟨w.heap.size, j, none⟩ = some (.int .i64 (f j))) := fun j hj => by
    rw [cell_of_row _ w.heap.size j _ 33 (0, 0) (heap_alloc_new w _)]; exact arr_at _ j hj
  have BE : Hid (Below w.heap.size w (w.alloc (.cells (arr fun j => .int .i64 (f j)) 33))) := (Below.refl _ _).alloc (Nat.le_refl _) _
  go_wp2
  generalize w.alloc (.cells (arr fun j => .int .i64 (f j)) 33) = W at HH BE ⊢
  go_loop [3] (fun i => ∃ k : Nat, i = .int .i64 k ∧ k ≤ 10 ∧ VOK f k) (fun i => 10 - (intOf i).toNat)
  case atStart => exact ⟨0, rfl, by omega, fun j hj => by omega⟩
  case round =>
    obtain ⟨k, rfl, hk, hv⟩ := hrel
    have VV : Hid (VOK f k) := hv
    clear hv
    by_cases hlt : k < 10
    · have c := HH.out k hlt
      obtain ⟨y, hy⟩ : ∃ y, y = f k := ⟨_, rfl⟩
      rw [← hy] at c
      have HY : Hid (y = f k) := hy
      clear hy
      have j1 : (0 : Int) ≤ (k : Int) := by omega
      have j2 : (k : Int) < 10 := by omega
      by_cases t1 : y < 0
      · have t1' : decide (y < 0) = true := by simpa using t1
        go_wp2
        go_ret
        exact ⟨⟨false, rfl, fun h => by simp at h⟩, BE.out⟩
      · have t1' : decide (y < 0) = false := by simpa using t1
        by_cases t2 : 1099511627776 < y
        · go_wp2
          go_ret
          exact ⟨⟨false, rfl, fun h => by simp at h⟩, BE.out⟩
        · go_wp2
          go_round
          case rel => exact ⟨k + 1, by go_num, by omega, fun j hj => by
            rcases Nat.lt_or_ge j k with h | h
            · exact VV.out j h
            · obtain rfl : j = k := by omega
              rw [← HY.out]; exact ⟨by omega, by omega⟩⟩
          case measure => simp [intOf]; omega
    · obtain rfl : k = 10 := by omega
      go_wp2
      go_ret
      exact ⟨⟨true, rfl, fun _ => VV.out⟩, BE.out⟩

/-- Is the bucket of slot k counted, d nanoseconds behind the origin? -/
def cB (k d : Int) : Bool := decide (d / 1000000000 - 10 < k ∧ k ≤ d / 1000000000)
theorem cB_no {k d : Int} (h : ¬ (d / 1000000000 - 10 < k ∧ k ≤ d / 1000000000)) : cB k d = false := by unfold cB; simpa using h
theorem cB_yes {k d : Int} (h : d / 1000000000 - 10 < k ∧ k ≤ d / 1000000000) : cB k d = true := by unfold cB; simpa using h

set_option maxHeartbeats 1000000 in
theorem counts21 (k d : Int) (w : World) (h0 : 0 ≤ d) (h1 : d ≤ 9223372036854775807) (k0 : -9223372036854775808 ≤ k) (k1 : k ≤ 9223372036854775807) :
    Calls Try.prog 21 #[.int .i64 k, .int .i64 d] w fun e w' => e = .returned (.bool (cB k d)) ∧ w' = w := by
  by_cases t1 : k ≤ -10
  · rw [cB_no (by omega)]
    go_enter Try.func21, Try.ntmps21
    go_wp2
    go_ret
    exact ⟨rfl, rfl⟩
  by_cases t2 : 9223372036 < k
  · rw [cB_no (by omega)]
    go_enter Try.func21, Try.ntmps21
    go_wp2
    go_ret
    exact ⟨rfl, rfl⟩
  by_cases t3 : 0 < k
  · by_cases t4 : d < k * 1000000000
    · rw [cB_no (by omega)]
      go_enter Try.func21, Try.ntmps21
      go_wp2
      go_ret
      exact ⟨rfl, rfl⟩
    · by_cases t5 : 9223372027 ≤ k
      · rw [cB_yes (by omega)]
        go_enter Try.func21, Try.ntmps21
        go_wp2
        go_ret
        exact ⟨rfl, rfl⟩
      · by_cases t6 : d < (k + 10) * 1000000000
        · rw [cB_yes (by omega)]
          go_enter Try.func21, Try.ntmps21
          go_wp2
          go_ret
          exact ⟨by simp, rfl⟩
        · rw [cB_no (by omega)]
          go_enter Try.func21, Try.ntmps21
          go_wp2
          go_ret
          exact ⟨by simp, rfl⟩
  · have t3' : decide (0 < k) = false := by simpa using t3
    by_cases t6 : d < (k + 10) * 1000000000
    · rw [cB_yes (by omega)]
      go_enter Try.func21, Try.ntmps21
      go_wp2
      go_ret
      exact ⟨by simp, rfl⟩
    · rw [cB_no (by omega)]
      go_enter Try.func21, Try.ntmps21
      go_wp2
      go_ret
      exact ⟨by simp, rfl⟩

/-! ### the readers of a tally -/
set_option maxHeartbeats 1000000 in
theorem counts22 (w : World) (base q : Nat) (r e : Int) (v : Value) (zs : SL) (h : TalT w base q r e v zs) :
    Calls Try.prog 22 #[.pointer (some ⟨q, 0, none⟩)] w fun en w' => en = .returned (.tuple #[.int .i64 r, .int .i64 e]) ∧ ∃ n, w' = w.drewN n := by
  have c0 : w.cell? ⟨q, 0, none⟩ = some (.int .i64 r) := by rw [cell_of_row w q 0 _ 63 (0, 0) h.blk]; rfl
  have c1 : w.cell? ⟨q, 1, none⟩ = some (.int .i64 e) := by rw [cell_of_row w q 1 _ 63 (0, 0) h.blk]; rfl
  clear h
  go_enter Try.func22, Try.ntmps22
  go_wp2
  go_quiet (fail)
  go_wp2
  go_ret2
  exact ⟨rfl, _, rfl⟩

set_option maxHeartbeats 1000000 in
theorem len23 (w : World) (base q : Nat) (r e : Int) (v : Value) (zs : SL) (h : TalT w base q r e v zs) :
    Calls Try.prog 23 #[.pointer (some ⟨q, 0, none⟩)] w fun en w' => en = .returned (.int .i64 zs.length) ∧ w' = w := by
  have c2 : w.cell? ⟨q, 2, none⟩ = some v := by rw [cell_of_row w q 2 _ 63 (0, 0) h.blk]; rfl
  rcases h.own.2 with ⟨hv, h0⟩ | ⟨g, cap, c, hv, _⟩
  · rw [hv] at c2
    rw [h0]
    clear h hv h0
    go_enter Try.func23, Try.ntmps23
    go_wp2
    go_ret
    exact ⟨rfl, rfl⟩
  · rw [hv] at c2
    clear h hv
    go_enter Try.func23, Try.ntmps23
    go_wp2
    go_ret
    exact ⟨rfl, rfl⟩

set_option maxHeartbeats 1000000 in
theorem at24 (w : World) (base q : Nat) (r e : Int) (v : Value) (zs : SL) (i : Nat) (hi : i < zs.length) (h : TalT w base q r e v zs) :
    Calls Try.prog 24 #[.pointer (some ⟨q, 0, none⟩), .int .i64 i] w fun en w' => en = .returned (.tuple #[.int .i64 (zs[i].1), .int .i64 (zs[i].2)]) ∧ ∃ n, w' = w.drewN n := by
  have c2 : w.cell? ⟨q, 2, none⟩ = some v := by rw [cell_of_row w q 2 _ 63 (0, 0) h.blk]; rfl
  obtain ⟨g, cap, rfl, hb, hlt⟩ := h.own.form (by omega)
  have k0 : w.cell? ⟨g, i * 2, none⟩ = some (.int .i64 (zs[i].1)) := by rw [h.own.cellAt (i * 2) (by omega)]; exact (cellsOf_at zs i hi).1
  have k1 : w.cell? ⟨g, i * 2 + 1, none⟩ = some (.int .i64 (zs[i].2)) := by rw [h.own.cellAt (i * 2 + 1) (by omega)]; exact (cellsOf_at zs i hi).2
  generalize zs[i].1 = a at k0 ⊢
  generalize zs[i].2 = b at k1 ⊢
  clear h
  generalize zs.length = n at *
  have i1 : (0 : Int) ≤ (i : Int) := by omega
  have i2 : (i : Int) < (n : Int) := by omega
  go_enter Try.func24, Try.ntmps24
  go_wp2
  go_quiet (fail)
  go_wp2
  go_ret2
  exact ⟨rfl, _, rfl⟩
end Go.Proofs.Qxb6608868a.st
