/-
  The walk of FnPlaceOfAddsUpOverAnyCut (function 4).
-/
import Derived.Test.Qxb6613590aMain3
namespace Go.Proofs.Qxb6613590a.place
open Go.RowKit

set_option maxHeartbeats 400000 in
theorem main4_big (a : Option Addr) (n c : Nat) (k u : Int) (w : World) (hn : ¬ n ≤ 65536) :
    Calls Try.prog 4 #[.slice a n c, .int .i64 k, .int .i64 u] w fun e w' => e = .returned (.bool true) ∧ Below w.heap.size w w' := by
  by_cases h : n ≤ 1048576
  · go_enter Try.func4, Try.ntmps4
    go_wp2_with (go_at_call 13; refine (bytes13 _ _ _ _ _ _ h).mono ?_; rintro e w' ⟨rfl, rfl⟩)
    go_ret
    exact ⟨rfl, Below.refl _ _⟩
  · go_enter Try.func4, Try.ntmps4
    go_wp2_with (go_at_call 13; refine (bytes13_no _ _ _ _ _ _ h).mono ?_; rintro e w' ⟨rfl, rfl⟩)
    go_ret
    exact ⟨rfl, Below.refl _ _⟩

set_option maxHeartbeats 400000 in
theorem main4_out (a : Option Addr) (n c : Nat) (k u : Int) (w : World) (hn : n ≤ 65536) (hk : k < 0 ∨ (n : Int) < k) :
    Calls Try.prog 4 #[.slice a n c, .int .i64 k, .int .i64 u] w fun e w' => e = .returned (.bool true) ∧ Below w.heap.size w w' := by
  rcases hk with hk | hk
  · go_enter Try.func4, Try.ntmps4
    go_wp2_with (go_at_call 13; refine (bytes13 _ _ _ _ _ _ (by omega)).mono ?_; rintro e w' ⟨rfl, rfl⟩)
    go_ret
    exact ⟨rfl, Below.refl _ _⟩
  · have hk0 : ¬ k < 0 := by omega
    go_enter Try.func4, Try.ntmps4
    go_wp2_with (go_at_call 13; refine (bytes13 _ _ _ _ _ _ (by omega)).mono ?_; rintro e w' ⟨rfl, rfl⟩)
    go_ret
    exact ⟨rfl, Below.refl _ _⟩

/-! ### plain facts -/
theorem count_cut (zs : List Int) (k : Nat) (u : Int) : zs.countP (· < u) = (zs.take k).countP (· < u) + (zs.drop k).countP (· < u) := by
  rw [← List.countP_append, List.take_append_drop]
theorem count_le (zs : List Int) (u : Int) : zs.countP (· < u) ≤ zs.length := List.countP_le_length
theorem count_all {zs : List Int} (h : Inc zs zs.length) {k : Nat} (hk : k ≤ zs.length) {u : Int} (hu : 0 < k → zs.getD (k - 1) 0 < u) : (zs.take k).countP (· < u) = k := by
  have hl : (zs.take k).length = k := by simp; omega
  refine Lib.countP_split _ _ k (by omega) (fun j hj => ?_) (fun j h1 h2 => by omega)
  rw [Lib.getD_take _ _ _ hj]
  have h1 := hu (by omega)
  rcases Nat.eq_or_lt_of_le (show j ≤ k - 1 by omega) with rfl | h2
  · simpa using h1
  · have := h.lt' h2 (by omega)
    simpa using (by omega : zs.getD j 0 < u)
theorem count_none {zs : List Int} (h : Inc zs zs.length) {k : Nat} (hk : k < zs.length) {u : Int} (hu : u ≤ zs.getD k 0) : (zs.drop k).countP (· < u) = 0 := by
  rw [List.countP_eq_zero]
  intro x hx
  obtain ⟨j, hj, rfl⟩ := List.mem_iff_getElem.1 hx
  rw [List.length_drop] at hj
  rw [List.getElem_drop]
  have e : zs.getD (k + j) 0 = zs[k + j] := Lib.getD_lt _ _ (by omega)
  rcases Nat.eq_zero_or_pos j with rfl | hp
  · rw [← e]; simpa using hu
  · have := h.lt' (show k < k + j by omega) (by omega)
    rw [e] at this
    simpa using (by omega : u ≤ zs[k + j])
theorem sorted_take {zs : List Int} (h : zs.Pairwise (· ≤ ·)) (k : Nat) : (zs.take k).Pairwise (· ≤ ·) := h.sublist (List.take_sublist _ _)
theorem sorted_drop {zs : List Int} (h : zs.Pairwise (· ≤ ·)) (k : Nat) : (zs.drop k).Pairwise (· ≤ ·) := h.sublist (List.drop_sublist _ _)

theorem place12' (a : Option Addr) (n c : Nat) (zs : List Int) (x : Int) (N : Nat) (w : World) (hl : zs.length = n) (hN : zs.countP (· < x) = N) (hbig : n ≤ 65536) (he : Elems w a zs) (hs : zs.Pairwise (· ≤ ·)) :
    Calls Try.prog 12 #[.slice a n c, .int .i64 x] w fun e w' => e = .returned (.int .i64 N) ∧ Below w.heap.size w w' := by
  subst hl; subst hN; exact place12 a c zs x w hbig he hs

theorem Elems.take {w : World} {a : Option Addr} {zs : List Int} (h : Elems w a zs) (k : Nat) : Elems w a (zs.take k) := by
  rcases h with rfl | ⟨b, off, ha, hlt, hc⟩
  · exact .inl (by simp)
  · refine .inr ⟨b, off, ha, hlt, fun j hj => ?_⟩
    have hj' : j < k ∧ j < zs.length := by simpa [Nat.lt_min] using hj
    rw [hc j hj'.2, Lib.getD_take _ _ _ hj'.1]
theorem Elems.drop {w : World} {b off : Nat} {zs : List Int} (h : Elems w (some ⟨b, off, none⟩) zs) (k : Nat) : Elems w (some ⟨b, off + k, none⟩) (zs.drop k) := by
  rcases h with rfl | ⟨b', off', ha, hlt, hc⟩
  · exact .inl (by simp)
  · simp at ha
    obtain ⟨rfl, rfl⟩ := ha
    refine .inr ⟨b, off + k, rfl, hlt, fun j hj => ?_⟩
    rw [List.length_drop] at hj
    rw [show off + k + j = off + (k + j) by omega, hc (k + j) (by omega)]
    simp [List.getD]

set_option maxHeartbeats 2000000 in
set_option maxRecDepth 100000 in
theorem main4 (a : Option Addr) (c : Nat) (zs : List Int) (K : Nat) (u : Int) (w : World) (hn : zs.length ≤ 65536) (hK : K ≤ zs.length) (he : Elems w a zs) (hnil : a = none → zs = []) :
    Calls Try.prog 4 #[.slice a zs.length c, .int .i64 K, .int .i64 u] w fun e w' => e = .returned (.bool true) ∧ Below w.heap.size w w' := by
  have hne := fun wx n' => run_neq_slice_nil_any (P := Try.prog) wx 22 3 a n' c 0 0 Try.underlying22
  have hmk := run_make_row' (P := Try.prog) 22 3 (.int .i64 0) 8 Try.underlying22 info3 rfl .i64 .i64 zs.length (by omega) (by omega)
  go_enter Try.func4, Try.ntmps4
  go_wp2_with fail
  refine (bytes13 _ _ _ _ _ _ (by omega)).mono ?_
  rintro e w ⟨rfl, rfl⟩
  go_wp2_with fail
  refine (inc11 a c zs _ hn he).mono ?_
  rintro e w1 ⟨r, rfl, hr, q, rfl⟩
  have HR : Hid (r = true → Inc zs zs.length) := hr
  clear hr
  cases r
  · go_wp2_with fail
    go_ret
    exact ⟨rfl, bdrew (Below.refl _ _) _⟩
  have HI : Hid (Inc zs zs.length) := HR.out rfl
  clear HR
  cases a with
  | none =>
    have h0 := hnil rfl
    subst h0
    obtain rfl : K = 0 := by simpa using hK
    clear he hnil hmk hK hn
    go_wp2_with fail
    refine (place12' none 0 _ [] u 0 _ rfl rfl (by omega) (.inl rfl) List.Pairwise.nil).mono ?_
    rintro e w1 ⟨rfl, hb1⟩
    go_wp2_with fail
    refine (place12' none 0 _ [] u 0 _ rfl rfl (by omega) (.inl rfl) List.Pairwise.nil).mono ?_
    rintro e w2 ⟨rfl, hb2⟩
    go_wp2_with fail
    refine (place12' none 0 _ [] u 0 _ rfl rfl (by omega) (.inl rfl) List.Pairwise.nil).mono ?_
    rintro e w3 ⟨rfl, hb3⟩
    go_wp2
    go_ret
    have e1 : Below w.heap.size w w1 := (bdrew (Below.refl w.heap.size w) q).trans hb1
    exact ⟨rfl, (e1.trans (hb2.mono e1.size)).trans (hb3.mono (Nat.le_trans e1.size hb2.size))⟩
  | some ad =>
    obtain ⟨W2, hcp, hb2, hs2, he2⟩ := copy_made (w.drewN q) ad c zs (he.below (bdrew (Below.refl _ _) _))
    have HE : Hid (Elems W2 (some ⟨w.heap.size, 0, none⟩) zs) := he2
    have hbw : Below w.heap.size w W2 := (bdrew (Below.refl w.heap.size w) q).trans hb2
    clear he hnil he2 hb2
    change Sem.run _ _ ((w.drewN q).alloc _) = _ at hcp
    simp only [World.heap_drewN] at hcp hs2
    obtain ⟨N, hN⟩ : ∃ N, zs.countP (· < u) = N := ⟨_, rfl⟩
    obtain ⟨A, hA⟩ : ∃ A, (zs.take K).countP (· < u) = A := ⟨_, rfl⟩
    obtain ⟨B, hB⟩ : ∃ B, (zs.drop K).countP (· < u) = B := ⟨_, rfl⟩
    have HN : Hid (zs.countP (· < u) = N) := hN
    have HA : Hid ((zs.take K).countP (· < u) = A) := hA
    have HB : Hid ((zs.drop K).countP (· < u) = B) := hB
    have hsum : N = A + B := by rw [← hN, ← hA, ← hB]; exact count_cut zs K u
    have hAl : A ≤ 65536 := by rw [← hA]; exact Nat.le_trans (count_le _ _) (by simp; omega)
    have hBl : B ≤ 65536 := by rw [← hB]; exact Nat.le_trans (count_le _ _) (by simp; omega)
    subst hsum
    clear hN hA hB
    go_wp2_with fail
    refine (place12' (some ⟨w.heap.size, 0, none⟩) zs.length _ zs u _ W2 rfl HN.out hn HE.out HI.out.sorted).mono ?_
    rintro e w1 ⟨rfl, hb1⟩
    clear hne hmk hcp
    go_wp2_with fail
    refine (place12' (some ⟨w.heap.size, 0, none⟩) K _ (zs.take K) u A w1 (by simp; omega) HA.out (by omega) ((HE.out.below hb1).take K) (sorted_take HI.out.sorted K)).mono ?_
    rintro e w2 ⟨rfl, hb2⟩
    have hb12 : Below W2.heap.size W2 w2 := hb1.trans (hb2.mono hb1.size)
    have hcell : ∀ j, j < zs.length → w2.cell? ⟨w.heap.size, j, none⟩ = some (.int .i64 (zs.getD j 0)) := by
      intro j hj
      rcases HE.out.below hb12 with h | ⟨b, off, ha, _, hc⟩
      · subst h; simp at hj
      · simp at ha
        obtain ⟨rfl, rfl⟩ := ha
        simpa using hc j hj
    have HC : Hid (∀ j, j < zs.length → w2.cell? ⟨w.heap.size, j, none⟩ = some (.int .i64 (zs.getD j 0))) := hcell
    clear hcell
    by_cases hKn : K < zs.length
    · obtain ⟨y2, hy2⟩ : ∃ y2, y2 = zs.getD K 0 := ⟨_, rfl⟩
      obtain ⟨y1, hy1⟩ : ∃ y1, y1 = zs.getD (K - 1) 0 := ⟨_, rfl⟩
      have F2 : Hid (u ≤ y2 → B = 0) := fun h => by rw [← HB.out]; exact count_none HI.out hKn (by rw [← hy2]; exact h)
      have F1 : Hid (y1 < u → A = K) := fun h => by rw [← HA.out]; exact count_all HI.out (by omega) (fun _ => by rw [← hy1]; exact h)
      have C2 : Hid (∀ wx, Below w2.heap.size w2 wx → wx.cell? ⟨w.heap.size, K, none⟩ = some (.int .i64 y2)) := fun wx hx => by
        rw [hx.cell (lt_of_cell (HC.out K hKn)), HC.out K hKn, hy2]
      have C1 : Hid (∀ wx, Below w2.heap.size w2 wx → wx.cell? ⟨w.heap.size, K - 1, none⟩ = some (.int .i64 y1)) := fun wx hx => by
        rw [hx.cell (lt_of_cell (HC.out (K - 1) (by omega))), HC.out (K - 1) (by omega), hy1]
      clear hy1 hy2
      go_wp2_with fail
      refine (place12' (some ⟨w.heap.size, K, none⟩) (zs.length - K) _ (zs.drop K) u B w2 (by simp) HB.out (by omega) (by simpa using (HE.out.below hb12).drop K) (sorted_drop HI.out.sorted K)).mono ?_
      rintro e w3 ⟨rfl, hb3⟩
      have c1 := C1.out w3 hb3
      have c2 := C2.out w3 hb3
      have fin : Below w.heap.size w w3 := (hbw.trans (hb12.mono (by omega))).trans (hb3.mono (Nat.le_trans hbw.size hb12.size))
      have FIN : Hid (Below w.heap.size w w3) := fin
      clear fin hb1 hb2 hb12 hb3 hbw
      by_cases hK0 : K ≤ 0
      · by_cases t2 : u ≤ y2
        · have e2 : ((B : Int) != 0) = false := by simp [F2.out t2]
          go_wp2
          go_ret
          exact ⟨rfl, FIN.out⟩
        · have e2 : decide (u ≤ y2) = false := by simpa using t2
          go_wp2
          go_ret
          exact ⟨rfl, FIN.out⟩
      · by_cases t1 : y1 < u
        · have e1 : ((A : Int) != (K : Int)) = false := by simp [F1.out t1]
          by_cases t2 : u ≤ y2
          · have e2 : ((B : Int) != 0) = false := by simp [F2.out t2]
            go_wp2
            go_ret
            exact ⟨rfl, FIN.out⟩
          · have e2 : decide (u ≤ y2) = false := by simpa using t2
            go_wp2
            go_ret
            exact ⟨rfl, FIN.out⟩
        · have e1 : decide (y1 < u) = false := by simpa using t1
          by_cases t2 : u ≤ y2
          · have e2 : ((B : Int) != 0) = false := by simp [F2.out t2]
            go_wp2
            go_ret
            exact ⟨rfl, FIN.out⟩
          · have e2 : decide (u ≤ y2) = false := by simpa using t2
            go_wp2
            go_ret
            exact ⟨rfl, FIN.out⟩
    · obtain ⟨y1, hy1⟩ : ∃ y1, y1 = zs.getD (K - 1) 0 := ⟨_, rfl⟩
      have F1 : Hid (y1 < u → A = K) := fun h => by rw [← HA.out]; exact count_all HI.out (by omega) (fun _ => by rw [← hy1]; exact h)
      have C1 : Hid (∀ wx, 0 < K → Below w2.heap.size w2 wx → wx.cell? ⟨w.heap.size, K - 1, none⟩ = some (.int .i64 y1)) := fun wx h0 hx => by
        rw [hx.cell (lt_of_cell (HC.out (K - 1) (by omega))), HC.out (K - 1) (by omega), hy1]
      clear hy1
      go_wp2_with fail
      refine (place12' (some ⟨w.heap.size, 0, none⟩) (zs.length - K) _ (zs.drop K) u B w2 (by simp) HB.out (by omega) (.inl (List.drop_eq_nil_of_le (by omega))) (sorted_drop HI.out.sorted K)).mono ?_
      rintro e w3 ⟨rfl, hb3⟩
      have fin : Below w.heap.size w w3 := (hbw.trans (hb12.mono (by omega))).trans (hb3.mono (Nat.le_trans hbw.size hb12.size))
      have FIN : Hid (Below w.heap.size w w3) := fin
      have B3 : Hid (Below w2.heap.size w2 w3) := hb3
      clear fin hb1 hb2 hb12 hb3 hbw
      by_cases hK0 : K ≤ 0
      · go_wp2
        go_ret
        exact ⟨rfl, FIN.out⟩
      · have c1 := C1.out w3 (by omega) B3.out
        by_cases t1 : y1 < u
        · have e1 : ((A : Int) != (K : Int)) = false := by simp [F1.out t1]
          go_wp2
          go_ret
          exact ⟨rfl, FIN.out⟩
        · have e1 : decide (y1 < u) = false := by simpa using t1
          go_wp2
          go_ret
          exact ⟨rfl, FIN.out⟩
end Go.Proofs.Qxb6613590a.place
