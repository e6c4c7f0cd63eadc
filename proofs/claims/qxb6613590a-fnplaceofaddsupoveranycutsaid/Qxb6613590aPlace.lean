/-
  ZZplaceOf (function 12): of a sorted slice it gives how many elements are less than u. slices.BinarySearch comes off the shelf.
-/
import Derived.Test.Qxb6613590aProg
import Derived.Ground.Names2Prog
import Derived.Shelf.Lay
import Derived.Shelf.Slices.SearchI
import Derived.Shelf.Slices.Empties
import Derived.Test.Qxb6613590aInc
import Derived.WalkKit
import Derived.Below
namespace Go.Proofs.Qxb6613590a.place
open Go.RowKit

shelf_lay Lays2.n25 Nm2 25 at Try as lays25

theorem bdrew {B : Nat} {a w : World} (h : Below B a w) (n : Nat) : Below B a (w.drewN n) := h.trans ⟨rfl, rfl, rfl, Nat.le_refl _, fun _ _ => rfl⟩

/-- The elements of a slice value: there are none; or they lie at its address, one behind the other. -/
def Elems (w : World) (a : Option Addr) (zs : List Int) : Prop :=
  zs = [] ∨ ∃ b off, a = some ⟨b, off, none⟩ ∧ b < w.heap.size ∧ ∀ j, j < zs.length → w.cell? ⟨b, off + j, none⟩ = some (.int .i64 (zs.getD j 0))

theorem lt_of_cell {w : World} {b o : Nat} {v : Value} (h : w.cell? ⟨b, o, none⟩ = some v) : b < w.heap.size := by
  rcases Nat.lt_or_ge b w.heap.size with h1 | h1
  · exact h1
  · simp [World.cell?, Array.getElem?_eq_none h1] at h

theorem Elems.below {w w' : World} {a : Option Addr} {zs : List Int} (h : Elems w a zs) (hb : Below w.heap.size w w') : Elems w' a zs := by
  rcases h with h | ⟨b, off, ha, hlt, hc⟩
  · exact .inl h
  · exact .inr ⟨b, off, ha, Nat.lt_of_lt_of_le hlt hb.size, fun j hj => by rw [hb.cell hlt]; exact hc j hj⟩

theorem search42 (a : Option Addr) (c : Nat) (zs : List Int) (x : Int) (w : World) (hbig : zs.length ≤ 65536) (he : Elems w a zs) (hs : zs.Pairwise (· ≤ ·)) :
    Calls Try.prog 42 #[.slice a zs.length c, .int .i64 x] w fun e w' => ∃ f : Bool, e = .returned (.tuple #[.int .i64 (zs.countP (· < x) : Nat), .bool f]) ∧ ∃ q, w' = w.drewN q := by
  rcases he with rfl | ⟨b, off, rfl, _, hc⟩
  · have h := Any.slices_BinarySearch_int_empty lays25 a c x w
    change Calls Try.prog 42 _ _ _ at h
    refine h.mono ?_
    rintro e w' ⟨rfl, rfl⟩
    exact ⟨false, rfl, 0, rfl⟩
  · have h := Any.slices_BinarySearch_int lays25 b off zs.length c zs x w (Nat.le_refl _) (by omega) hc (by rw [List.take_length]; exact hs)
    change Calls Try.prog 42 _ _ _ at h
    rw [List.take_length] at h
    refine h.mono ?_
    rintro e w' ⟨rfl, hq⟩
    exact ⟨_, rfl, hq⟩

set_option maxHeartbeats 400000 in
/-- ZZplaceOf: of a sorted slice, how many elements are less than u; nothing that was there has turned. -/
theorem place12 (a : Option Addr) (c : Nat) (zs : List Int) (x : Int) (w : World) (hbig : zs.length ≤ 65536) (he : Elems w a zs) (hs : zs.Pairwise (· ≤ ·)) :
    Calls Try.prog 12 #[.slice a zs.length c, .int .i64 x] w fun e w' => e = .returned (.int .i64 (zs.countP (· < x) : Nat)) ∧ Below w.heap.size w w' := by
  have key : ∀ o, Calls Try.prog 42 #[.slice a zs.length c, .int .i64 x] (w.alloc o) fun e w' => ∃ f : Bool, e = .returned (.tuple #[.int .i64 (zs.countP (· < x) : Nat), .bool f]) ∧ ∃ q, w' = (w.alloc o).drewN q :=
    fun o => search42 a c zs x (w.alloc o) hbig (he.below ((Below.refl _ _).alloc (Nat.le_refl _) _)) hs
  generalize zs.countP (· < x) = N at key ⊢
  generalize zs.length = n at key hbig ⊢
  have K : Hid (∀ o, Calls Try.prog 42 #[.slice a n c, .int .i64 x] (w.alloc o) fun e w' => ∃ f : Bool, e = .returned (.tuple #[.int .i64 (N : Nat), .bool f]) ∧ ∃ q, w' = (w.alloc o).drewN q) := key
  clear key he hs hbig
  go_enter Try.func12, Try.ntmps12
  go_wp2_with (first | (go_at_call 42; refine (K.out _).mono ?_; rintro e w' ⟨f, rfl, q, rfl⟩) | go_in)
  go_ret
  exact ⟨rfl, bdrew ((Below.refl _ _).alloc (Nat.le_refl _) _) _⟩

theorem inc11 (a : Option Addr) (c : Nat) (zs : List Int) (w : World) (hbig : zs.length ≤ 65536) (he : Elems w a zs) :
    Calls Try.prog 11 #[.slice a zs.length c] w fun e w' => ∃ r : Bool, e = .returned (.bool r) ∧ (r = true → Inc zs zs.length) ∧ ∃ q, w' = w.drewN q := by
  rcases he with rfl | ⟨b, off, rfl, _, hc⟩
  · refine (inc_small a 0 c w (by omega)).mono ?_
    rintro e w' ⟨rfl, rfl⟩
    exact ⟨true, rfl, fun _ j hj => by simp at hj, 0, rfl⟩
  · exact inc_any b off zs.length c zs w hbig hc

/-! ### plain facts on rising rows -/
theorem Inc.lt {zs : List Int} {n : Nat} (h : Inc zs n) : ∀ d a, a + d + 1 < n → zs.getD a 0 < zs.getD (a + d + 1) 0
  | 0, a, ha => h a ha
  | d + 1, a, ha => Int.lt_trans (Inc.lt h d a (by omega)) (h (a + d + 1) ha)
theorem Inc.lt' {zs : List Int} {n : Nat} (h : Inc zs n) {a b : Nat} (hab : a < b) (hb : b < n) : zs.getD a 0 < zs.getD b 0 := by
  have := Inc.lt h (b - a - 1) a (by omega)
  rwa [show a + (b - a - 1) + 1 = b by omega] at this
theorem Inc.sorted {zs : List Int} (h : Inc zs zs.length) : zs.Pairwise (· ≤ ·) := by
  rw [List.pairwise_iff_getElem]
  intro i j hi hj hij
  have := h.lt' hij hj
  rw [Lib.getD_lt _ _ hi, Lib.getD_lt _ _ hj] at this
  omega
theorem Inc.count {zs : List Int} (h : Inc zs zs.length) {k : Nat} (hk : k < zs.length) : zs.countP (· < zs.getD k 0) = k := by
  refine Lib.countP_split _ zs k (by omega) (fun j hj => ?_) (fun j hkj hj => ?_)
  · simpa using h.lt' hj hk
  · rcases Nat.eq_or_lt_of_le hkj with rfl | hlt
    · simp
    · have := h.lt' hlt hj
      simpa using (by omega : zs.getD k 0 ≤ zs.getD j 0)
end Go.Proofs.Qxb6613590a.place
