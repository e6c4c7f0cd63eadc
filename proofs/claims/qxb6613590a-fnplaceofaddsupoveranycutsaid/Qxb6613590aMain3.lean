/-
  The walk of FnPlaceOfFindsEachWritersOwnPlace (function 3).
-/
import Derived.Test.Qxb6613590aPlace
import Derived.Deep.OwnRows
import Derived.Laws.CopyOwn
import Derived.WalkSpells
import Derived.Outline
namespace Go.Proofs.Qxb6613590a.place
open Go.RowKit

theorem info3 : (Try.prog.info? 3).map (fun i => (i.zero, i.size, i.bytes)) = some (some (.int .i64 0), 1, 8) := by kernel_rfl
theorem size3 : (Try.prog.info? 3).map (·.size) = some 1 := by kernel_rfl

/-- The copy of the writers into the new row. -/
theorem copy_made (w : World) (ad : Addr) (c : Nat) (zs : List Int) (he : Elems w (some ad) zs) :
    ∃ W2, Sem.run Try.prog (Builtin.copy_ #[22, 22] 3 #[.slice (some ⟨w.heap.size, 0, none⟩) zs.length zs.length, .slice (some ad) zs.length c]) (w.alloc (.cells (madeCells #[.int .i64 0] zs.length) 3)) = .ok (.int .i64 zs.length) W2 ∧
      Below w.heap.size w W2 ∧ W2.heap.size = w.heap.size + 1 ∧ Elems W2 (some ⟨w.heap.size, 0, none⟩) zs := by
  rcases he with rfl | ⟨b, off, ha, hlt, hc⟩
  · refine ⟨_, run_copy_none (P := Try.prog) _ 22 22 3 3 _ _ _ _ _ _ Try.underlying22 size3 rfl, (Below.refl _ _).alloc (Nat.le_refl _) _, by simp, .inl rfl⟩
  · obtain rfl : ad = ⟨b, off, none⟩ := by simpa using ha
    have hg := heap_alloc_new w (.cells (madeCells #[.int .i64 0] zs.length) 3)
    have hrun := run_copy_row (P := Try.prog) (w.alloc (.cells (madeCells #[.int .i64 0] zs.length) 3)) 22 22 3 3 w.heap.size 0 zs.length zs.length ⟨b, off, none⟩ zs.length c
      (madeCells #[.int .i64 0] zs.length) 3 (zs.map (Value.int .i64)) Try.underlying22 size3 hg (by simp) (fun j v hj => ?_) (by simp [size_madeCells]) (fun v hv => ?_)
    · have e : ((madeCells #[.int .i64 0] zs.length).toList.take 0 ++ zs.map (Value.int .i64) ++ (madeCells #[.int .i64 0] zs.length).toList.drop (0 + (zs.map (Value.int .i64)).length)).toArray = (zs.map (Value.int .i64)).toArray := by
        rw [List.drop_eq_nil_of_le (by simp [size_madeCells])]; simp
      rw [e, List.length_map] at hrun
      refine ⟨_, hrun, below_setRow ((Below.refl _ _).alloc (Nat.le_refl _) _) (Nat.le_refl _) _, by simp, .inr ⟨w.heap.size, 0, rfl, by simp, fun j hj => ?_⟩⟩
      have hh := setRow_heap _ w.heap.size _ (zs.map (Value.int .i64)).toArray 3 (0, 0) hg
      generalize ((w.alloc (Obj.cells (madeCells #[Value.int IntKind.i64 0] zs.length) 3)).setRow w.heap.size (List.map (Value.int IntKind.i64) zs).toArray) = X at hh ⊢
      simp [World.cell?, hh, hj, List.getD]
    · obtain ⟨hjl, rfl⟩ := List.getElem?_eq_some_iff.1 hj
      have hjz : j < zs.length := by simpa using hjl
      have := hc j hjz
      rw [← Below.cell ((Below.refl w.heap.size w).alloc (Nat.le_refl _) (.cells (madeCells #[.int .i64 0] zs.length) 3)) (p := ⟨b, off + j, none⟩) hlt] at this
      have ea : (⟨b, off, none⟩ : Addr).add j = ⟨b, off + j, none⟩ := by
        by_cases h0 : j = 0 <;> simp [Addr.add, h0]
      rw [ea]
      simpa [List.getD, hjz] using this
    · obtain ⟨z, _, rfl⟩ := List.mem_map.1 hv
      rfl

set_option maxHeartbeats 400000 in
theorem main3_big (a : Option Addr) (n c : Nat) (w : World) (hn : ¬ n ≤ 65536) :
    Calls Try.prog 3 #[.slice a n c] w fun e w' => e = .returned (.bool true) ∧ Below w.heap.size w w' := by
  by_cases h : n ≤ 1048576
  · go_enter Try.func3, Try.ntmps3
    go_wp2_with (go_at_call 10; refine (bytes10 _ _ _ _ h).mono ?_; rintro e w' ⟨rfl, rfl⟩)
    go_ret
    exact ⟨rfl, Below.refl _ _⟩
  · go_enter Try.func3, Try.ntmps3
    go_wp2_with (go_at_call 10; refine (bytes10_no _ _ _ _ h).mono ?_; rintro e w' ⟨rfl, rfl⟩)
    go_ret
    exact ⟨rfl, Below.refl _ _⟩

set_option maxHeartbeats 1000000 in
set_option maxRecDepth 100000 in
theorem main3 (a : Option Addr) (c : Nat) (zs : List Int) (w : World) (hn : zs.length ≤ 65536) (he : Elems w a zs) (hnil : a = none → zs = []) :
    Calls Try.prog 3 #[.slice a zs.length c] w fun e w' => e = .returned (.bool true) ∧ Below w.heap.size w w' := by
  have hne := fun wx n' => run_neq_slice_nil_any (P := Try.prog) wx 22 3 a n' c 0 0 Try.underlying22
  have hmk := run_make_row' (P := Try.prog) 22 3 (.int .i64 0) 8 Try.underlying22 info3 rfl .i64 .i64 zs.length (by omega) (by omega)
  go_enter Try.func3, Try.ntmps3
  go_wp2_with fail
  refine (bytes10 _ _ _ _ (by omega)).mono ?_
  rintro e w ⟨rfl, rfl⟩
  go_wp2_with fail
  refine (inc11 a c zs _ hn he).mono ?_
  rintro e w1 ⟨r, rfl, hr, q, rfl⟩
  have HR : Hid (r = true → Inc zs zs.length) := hr
  clear hr
  cases r
  · go_wp2_with fail
    go_ret
    exact ⟨rfl, bdrew (Below.refl _ _) _⟩
  have HI : Hid (Inc zs zs.length) := HR.out rfl
  clear HR
  cases a with
  | none =>
    have h0 := hnil rfl
    subst h0
    clear he hnil hmk
    go_wp2_with fail
    refine wp_loop_rounds 1 ?_
    rw [rounds_succ]
    go_wp2
    go_ret
    exact ⟨rfl, bdrew (Below.refl _ _) _⟩
  | some ad =>
    obtain ⟨W2, hcp, hb2, hs2, he2⟩ := copy_made (w.drewN q) ad c zs (he.below (bdrew (Below.refl _ _) _))
    have HE : Hid (Elems W2 (some ⟨w.heap.size, 0, none⟩) zs) := he2
    have hbw : Below w.heap.size w W2 := (bdrew (Below.refl w.heap.size w) q).trans hb2
    clear he hnil he2 hb2
    change Sem.run _ _ ((w.drewN q).alloc _) = _ at hcp
    simp only [World.heap_drewN] at hcp hs2
    go_wp2_with fail
    go_loopw [4] (fun i wr => ∃ k : Nat, i = .int .i64 k ∧ k ≤ zs.length ∧ Below W2.heap.size W2 wr) (fun i _ => zs.length - (intOf i).toNat)
    case atStart => exact ⟨0, rfl, Nat.zero_le _, Below.refl _ _⟩
    case round =>
      obtain ⟨k, rfl, hk, hbr⟩ := hrel
      clear hne hmk hcp
      by_cases hlt : k < zs.length
      · obtain ⟨y, hy⟩ : ∃ y, y = zs.getD k 0 := ⟨_, rfl⟩
        have hcell : wr.cell? ⟨w.heap.size, k, none⟩ = some (.int .i64 y) := by
          rcases HE.out.below hbr with h | ⟨b, off, ha, _, hc⟩
          · subst h; simp at hlt
          · simp at ha
            obtain ⟨rfl, rfl⟩ := ha
            simpa [hy] using hc k hlt
        have HY : Hid (zs.countP (· < y) = k) := by rw [hy]; exact HI.out.count hlt
        clear hy
        go_wp2_with fail
        refine (place12 _ _ zs y wr hn (HE.out.below hbr) HI.out.sorted).mono ?_
        rintro e w3 ⟨rfl, hb3⟩
        rw [HY.out]
        go_wp2
        go_roundw
        case rel => exact ⟨k + 1, by go_num, by omega, hbr.trans (hb3.mono hbr.size)⟩
        case measure => simp [intOf]; omega
      · go_wp2
        go_ret
        exact ⟨rfl, hbw.trans (hbr.mono (by omega))⟩
end Go.Proofs.Qxb6613590a.place
