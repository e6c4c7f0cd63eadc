/-
  FnWindowSumModel (5): the walk past the early returns, whole.
-/
import Derived.Test.Qxb6608868aMainA
import Derived.Test.Qxb6608868aFin
import Derived.Deep.CutRange
import Derived.Deep.Cut
import Derived.BigQuiet
namespace Go.Proofs.Qxb6608868a.st
open Go.RowKit
set_option maxRecDepth 1000000

theorem ten {w : World} {b : Nat} {f : Nat → Value} {t : TypeId} (h : w.heap[b]? = some (.cells (arr f) t (0, 0))) :
    w.cell? ⟨b, 0, none⟩ = some (f 0) ∧ w.cell? ⟨b, 1, none⟩ = some (f 1) ∧ w.cell? ⟨b, 2, none⟩ = some (f 2) ∧ w.cell? ⟨b, 3, none⟩ = some (f 3) ∧ w.cell? ⟨b, 4, none⟩ = some (f 4) ∧ w.cell? ⟨b, 5, none⟩ = some (f 5) ∧ w.cell? ⟨b, 6, none⟩ = some (f 6) ∧ w.cell? ⟨b, 7, none⟩ = some (f 7) ∧ w.cell? ⟨b, 8, none⟩ = some (f 8) ∧ w.cell? ⟨b, 9, none⟩ = some (f 9) :=
  ⟨arr_cell h 0 (by omega), arr_cell h 1 (by omega), arr_cell h 2 (by omega), arr_cell h 3 (by omega), arr_cell h 4 (by omega), arr_cell h 5 (by omega), arr_cell h 6 (by omega), arr_cell h 7 (by omega), arr_cell h 8 (by omega), arr_cell h 9 (by omega)⟩
theorem vals16' (f : Nat → Int) (w : World) :
    Calls Try.prog 16 #[.agg #[.int .i64 (f 0), .int .i64 (f 1), .int .i64 (f 2), .int .i64 (f 3), .int .i64 (f 4), .int .i64 (f 5), .int .i64 (f 6), .int .i64 (f 7), .int .i64 (f 8), .int .i64 (f 9)]] w fun e w' => RetIf e (VOK f 10) ∧ Below w.heap.size w w' := vals16 f w

set_option maxHeartbeats 4000000 in
theorem main5 (I : Inp) (rot : Nat) (w : World) (h0 : 0 ≤ I.org) (h1 : I.org ≤ I.now) (h2 : I.now ≤ 9223372036854775807) (hr : rot < 10) (hs : ∀ j, j < 10 → -9223372036854775808 ≤ I.sl j ∧ I.sl j ≤ 9223372036854775807) :
    Calls Try.prog 5 (I.args rot) w fun e w' => e = .returned (.bool true) ∧ Below w.heap.size w w' := by
  have BE : Hid (Below w.heap.size w (boxed w I)) := boxed_below w I
  have BX : Hid (Box (boxed w I) w.heap.size I) := boxed_box w I
  have BS : Hid ((boxed w I).heap.size = w.heap.size + 6) := boxed_size w I
  have HS : Hid (∀ j, j < 10 → -9223372036854775808 ≤ I.sl j ∧ I.sl j ≤ 9223372036854775807) := hs
  clear hs
  unfold Inp.args
  have h0' : decide (I.org < 0) = false := by simpa using h0
  have h2' : decide ((rot : Int) < 0) = false := by simp
  have h3' : ¬ 9 < (rot : Int) := by omega
  go_enter Try.func5, Try.ntmps5
  go_upto_region 5 with fail
  generalize hW : ((((((w.alloc (.cells (arr fun j => .int .i64 (I.sl j)) 33)).alloc (.cells (arr fun j => .int .i64 (I.rq j)) 33)).alloc (.cells (arr fun j => .int .i64 (I.er j)) 33)).alloc (.cells (arr fun j => .bool (I.has j)) 34)).alloc (.cells (arr fun j => .int .i64 (I.stt j)) 35)).alloc (.cells (arr fun j => .int .i64 (I.cnt j)) 33)) = W
  rw [show boxed w I = W from hW] at BE BX BS
  clear hW
  have BL : Hid (w.heap.size + 6 ≤ W.heap.size) := by have := BS.out; exact (by omega : w.heap.size + 6 ≤ W.heap.size)
  clear BS
  have c1 := ten BX.out.b1
  go_wp2_with fail
  refine (vals16' I.rq _).mono ?_
  rintro e W1 ⟨⟨r, rfl, hv⟩, hb⟩
  have ST : Hid (Box W1 w.heap.size I ∧ Below w.heap.size w W1 ∧ w.heap.size + 6 ≤ W1.heap.size) := ⟨BX.out.below hb BL.out, BE.out.trans (hb.mono (by have := BL.out; omega)), by have := BL.out; have := hb.size; omega⟩
  have V1 : Hid (r = true → VOK I.rq 10) := hv
  clear c1 hb hv BX BE BL
  cases r
  · go_wp2
    go_ret
    exact ⟨rfl, ST.out.2.1⟩
  have U1 : Hid (VOK I.rq 10) := V1.out rfl
  clear V1
  have c1 := ten ST.out.1.b2
  go_wp2_with fail
  refine (vals16' I.er _).mono ?_
  rintro e W2 ⟨⟨r, rfl, hv⟩, hb⟩
  have ST2 : Hid (Box W2 w.heap.size I ∧ Below w.heap.size w W2 ∧ w.heap.size + 6 ≤ W2.heap.size) := ⟨ST.out.1.below hb ST.out.2.2, ST.out.2.1.trans (hb.mono (by have := ST.out.2.2; omega)), by have := ST.out.2.2; have := hb.size; omega⟩
  have V2 : Hid (r = true → VOK I.er 10) := hv
  clear c1 hb hv ST
  cases r
  · go_wp2
    go_ret
    exact ⟨rfl, ST2.out.2.1⟩
  have U2 : Hid (VOK I.er 10) := V2.out rfl
  clear V2
  have c1 := ten ST2.out.1.b5
  go_wp2_with fail
  refine (vals16' I.cnt _).mono ?_
  rintro e W3 ⟨⟨r, rfl, hv⟩, hb⟩
  have ST : Hid (Box W3 w.heap.size I ∧ Below w.heap.size w W3 ∧ w.heap.size + 6 ≤ W3.heap.size) := ⟨ST2.out.1.below hb ST2.out.2.2, ST2.out.2.1.trans (hb.mono (by have := ST2.out.2.2; omega)), by have := ST2.out.2.2; have := hb.size; omega⟩
  have V3 : Hid (r = true → VOK I.cnt 10) := hv
  clear c1 hb hv ST2
  cases r
  · go_wp2
    go_ret
    exact ⟨rfl, ST.out.2.1⟩
  have OK : Hid I.Ok := ⟨h0, h1, h2, U1.out, U2.out, V3.out rfl⟩
  clear U1 U2 V3
  go_wp2_with fail
  refine (new17 I.org W3).mono ?_
  rintro e W4 ⟨rfl, rfl⟩
  go_wp2_with fail
  refine (new17 I.org _).mono ?_
  rintro e W4 ⟨rfl, rfl⟩
  obtain ⟨p1, hp1⟩ : ∃ p1, p1 = W3.heap.size := ⟨_, rfl⟩
  obtain ⟨p2, hp2⟩ : ∃ p2, p2 = W3.heap.size + 1 := ⟨_, rfl⟩
  have SS : Hid (Fr w ((W3.alloc (.cells (winL I.org).toArray 68)).alloc (.cells (winL I.org).toArray 68)) p1 p2 I ∧ Bk ((W3.alloc (.cells (winL I.org).toArray 68)).alloc (.cells (winL I.org).toArray 68)) p1 0 0 I ∧ Bk ((W3.alloc (.cells (winL I.org).toArray 68)).alloc (.cells (winL I.org).toArray 68)) p2 rot 0 I) := by
    rw [hp1, hp2]; exact start rot ST.out.1 ST.out.2.1 ST.out.2.2
  rw [show (W3.alloc (.cells (winL I.org).toArray 68)).heap.size = p2 by rw [hp2]; simp]
  rw [← hp1]
  generalize (W3.alloc (.cells (winL I.org).toArray 68)).alloc (.cells (winL I.org).toArray 68) = W4 at SS ⊢
  clear hp1 hp2 ST W3
  go_wp2_with fail
  go_loopw [22, 23] (fun j k' wr => ∃ (k : Nat), j = .int .i64 k ∧ k ≤ 10 ∧ Fr w wr p1 p2 I ∧ Bk wr p1 0 k I ∧ Bk wr p2 rot k I) (fun j _ _ => 10 - (intOf j).toNat)
  case atStart => exact ⟨0, rfl, by omega, SS.out⟩
  case round =>
    obtain ⟨k, rfl, hk, hfr, hb1, hb2⟩ := hrel
    have ST : Hid (Fr w wr p1 p2 I ∧ Bk wr p1 0 k I ∧ Bk wr p2 rot k I) := ⟨hfr, hb1, hb2⟩
    clear hfr hb1 hb2
    by_cases hlt : k < 10
    · have c0 := arr_cell ST.out.1.box.b0 k hlt
      have c1 := arr_cell ST.out.1.box.b1 k hlt
      have c2 := arr_cell ST.out.1.box.b2 k hlt
      have c3 := arr_cell ST.out.1.box.b3 k hlt
      have j1 : (0 : Int) ≤ (k : Int) := by omega
      have j2 : (k : Int) < 10 := by omega
      have F1 : Hid (Calls Try.prog 18 #[.pointer (some ⟨p1, 0, none⟩), .int .i64 k, .int .i64 (I.sl k), .int .i64 (I.rq k), .int .i64 (I.er k)] wr.drew fun en w' => en = .returned (.tuple #[]) ∧ Fr w w' p1 p2 I ∧ Bm w' p1 0 k I ∧ Bk w' p2 rot k I) := step1 ST.out.1.drew ST.out.2.1.drew ST.out.2.2.drew hlt
      by_cases hge : 10 ≤ k + rot
      · have ZZ : Hid ((k : Int) + (rot : Int) - 10 = ((turn rot k : Nat) : Int)) := by unfold turn; rw [if_pos hge]; exact (by omega : (k : Int) + (rot : Int) - 10 = ((k + rot - 10 : Nat) : Int))
        go_wp2_with fail
        go_region_held3 (fun w' => w'.cell? ⟨w.heap.size, k, none⟩ = some (.int .i64 (I.sl k)) ∧ w'.cell? ⟨w.heap.size + 1, k, none⟩ = some (.int .i64 (I.rq k)) ∧ w'.cell? ⟨w.heap.size + 1 + 1, k, none⟩ = some (.int .i64 (I.er k))) (go_keep)
          (first | (go_at_call 18; refine F1.out.mono ?_; rintro e w2 ⟨rfl, hst⟩; have ST2 : Hid (Fr w w2 p1 p2 I ∧ Bm w2 p1 0 k I ∧ Bk w2 p2 rot k I) := hst; clear hst; have d0 := arr_cell ST2.out.1.box.b0 k hlt; have d1 := arr_cell ST2.out.1.box.b1 k hlt; have d2 := arr_cell ST2.out.1.box.b2 k hlt; have d3 := arr_cell ST2.out.1.box.b3 k hlt))
        have F2 : Hid (Calls Try.prog 18 #[.pointer (some ⟨p2, 0, none⟩), .int .i64 ((k : Int) + (rot : Int) - 10), .int .i64 (I.sl k), .int .i64 (I.rq k), .int .i64 (I.er k)] w2.drew fun en w' => en = .returned (.tuple #[]) ∧ Fr w w' p1 p2 I ∧ Bm w' p1 0 k I ∧ Bm w' p2 rot k I) := step2 ST2.out.1.drew ST2.out.2.1.drew ST2.out.2.2.drew hr hlt _ ZZ.out
        clear F1 c0 c1 c2 c3
        go_wp2_with fail
        go_region_held3 (fun w' => w'.cell? ⟨w.heap.size, k, none⟩ = some (.int .i64 (I.sl k)) ∧ w'.cell? ⟨w.heap.size + 1, k, none⟩ = some (.int .i64 (I.rq k)) ∧ w'.cell? ⟨w.heap.size + 1 + 1, k, none⟩ = some (.int .i64 (I.er k))) (go_keep)
          (first | (go_at_call 18; refine F2.out.mono ?_; rintro e w3 ⟨rfl, hst⟩; have ST3 : Hid (Fr w w3 p1 p2 I ∧ Bm w3 p1 0 k I ∧ Bm w3 p2 rot k I) := hst; clear hst; have e0 := arr_cell ST3.out.1.box.b0 k hlt; have e1 := arr_cell ST3.out.1.box.b1 k hlt; have e2 := arr_cell ST3.out.1.box.b2 k hlt; have e3 := arr_cell ST3.out.1.box.b3 k hlt))
        clear F2 ST2 d0 d1 d2 d3
        cases hhas : I.has k
        · have HH : Hid (I.has k = false) := hhas
          rw [hhas] at e3
          clear hhas
          go_wp2_with fail
          go_roundw
          case rel => exact ⟨k + 1, by go_num, by omega, ST3.out.1, ST3.out.2.1.skip (by omega) hlt HH.out, ST3.out.2.2.skip hr hlt HH.out⟩
          case measure => simp [intOf]; omega
        · have HH : Hid (I.has k = true) := hhas
          rw [hhas] at e3
          clear hhas e0 e1 e2
          have f4 := arr_cell ST3.out.1.box.b4 k hlt
          have f5 := arr_cell ST3.out.1.box.b5 k hlt
          have F3 : Hid (Calls Try.prog 19 #[.pointer (some ⟨p1, 0, none⟩), .int .i64 k, .int .i64 (I.stt k), .int .i64 (I.cnt k)] w3.drew fun en w' => en = .returned (.tuple #[]) ∧ Fr w w' p1 p2 I ∧ Bk w' p1 0 (k + 1) I ∧ Bm w' p2 rot k I) := step3 ST3.out.1.drew ST3.out.2.1.drew ST3.out.2.2.drew hlt HH.out OK.out
          go_wp2_with fail
          go_region_held3 (fun w' => w'.cell? ⟨w.heap.size + 1 + 1 + 1 + 1, k, none⟩ = some (.int .i64 (I.stt k)) ∧ w'.cell? ⟨w.heap.size + 1 + 1 + 1 + 1 + 1, k, none⟩ = some (.int .i64 (I.cnt k))) (go_keep)
            (first | (go_at_call 19; refine F3.out.mono ?_; rintro e w4 ⟨rfl, hst⟩; have ST4 : Hid (Fr w w4 p1 p2 I ∧ Bk w4 p1 0 (k + 1) I ∧ Bm w4 p2 rot k I) := hst; clear hst; have g4 := arr_cell ST4.out.1.box.b4 k hlt; have g5 := arr_cell ST4.out.1.box.b5 k hlt))
          have F4 : Hid (Calls Try.prog 19 #[.pointer (some ⟨p2, 0, none⟩), .int .i64 ((k : Int) + (rot : Int) - 10), .int .i64 (I.stt k), .int .i64 (I.cnt k)] w4.drew fun en w' => en = .returned (.tuple #[]) ∧ Fr w w' p1 p2 I ∧ Bk w' p1 0 (k + 1) I ∧ Bk w' p2 rot (k + 1) I) := step4 ST4.out.1.drew ST4.out.2.1.drew ST4.out.2.2.drew hr hlt HH.out OK.out _ ZZ.out
          clear F3 ST3 f4 f5 e3
          go_wp2_with fail
          go_region_held3 (fun w' => w'.cell? ⟨w.heap.size + 1 + 1 + 1 + 1, k, none⟩ = some (.int .i64 (I.stt k)) ∧ w'.cell? ⟨w.heap.size + 1 + 1 + 1 + 1 + 1, k, none⟩ = some (.int .i64 (I.cnt k))) (go_keep)
            (first | (go_at_call 19; refine F4.out.mono ?_; rintro e w5 ⟨rfl, hst⟩; have ST5 : Hid (Fr w w5 p1 p2 I ∧ Bk w5 p1 0 (k + 1) I ∧ Bk w5 p2 rot (k + 1) I) := hst; clear hst; have h4 := arr_cell ST5.out.1.box.b4 k hlt; have h5 := arr_cell ST5.out.1.box.b5 k hlt))
          go_wp2_with fail
          go_roundw
          case rel => exact ⟨k + 1, by go_num, by omega, ST5.out⟩
          case measure => simp [intOf]; omega
      · have ZZ : Hid ((k : Int) + (rot : Int) = ((turn rot k : Nat) : Int)) := by unfold turn; rw [if_neg hge]; exact (by omega : (k : Int) + (rot : Int) = ((k + rot : Nat) : Int))
        go_wp2_with fail
        go_region_held3 (fun w' => w'.cell? ⟨w.heap.size, k, none⟩ = some (.int .i64 (I.sl k)) ∧ w'.cell? ⟨w.heap.size + 1, k, none⟩ = some (.int .i64 (I.rq k)) ∧ w'.cell? ⟨w.heap.size + 1 + 1, k, none⟩ = some (.int .i64 (I.er k))) (go_keep)
          (first | (go_at_call 18; refine F1.out.mono ?_; rintro e w2 ⟨rfl, hst⟩; have ST2 : Hid (Fr w w2 p1 p2 I ∧ Bm w2 p1 0 k I ∧ Bk w2 p2 rot k I) := hst; clear hst; have d0 := arr_cell ST2.out.1.box.b0 k hlt; have d1 := arr_cell ST2.out.1.box.b1 k hlt; have d2 := arr_cell ST2.out.1.box.b2 k hlt; have d3 := arr_cell ST2.out.1.box.b3 k hlt))
        have F2 : Hid (Calls Try.prog 18 #[.pointer (some ⟨p2, 0, none⟩), .int .i64 ((k : Int) + (rot : Int)), .int .i64 (I.sl k), .int .i64 (I.rq k), .int .i64 (I.er k)] w2.drew fun en w' => en = .returned (.tuple #[]) ∧ Fr w w' p1 p2 I ∧ Bm w' p1 0 k I ∧ Bm w' p2 rot k I) := step2 ST2.out.1.drew ST2.out.2.1.drew ST2.out.2.2.drew hr hlt _ ZZ.out
        clear F1 c0 c1 c2 c3
        go_wp2_with fail
        go_region_held3 (fun w' => w'.cell? ⟨w.heap.size, k, none⟩ = some (.int .i64 (I.sl k)) ∧ w'.cell? ⟨w.heap.size + 1, k, none⟩ = some (.int .i64 (I.rq k)) ∧ w'.cell? ⟨w.heap.size + 1 + 1, k, none⟩ = some (.int .i64 (I.er k))) (go_keep)
          (first | (go_at_call 18; refine F2.out.mono ?_; rintro e w3 ⟨rfl, hst⟩; have ST3 : Hid (Fr w w3 p1 p2 I ∧ Bm w3 p1 0 k I ∧ Bm w3 p2 rot k I) := hst; clear hst; have e0 := arr_cell ST3.out.1.box.b0 k hlt; have e1 := arr_cell ST3.out.1.box.b1 k hlt; have e2 := arr_cell ST3.out.1.box.b2 k hlt; have e3 := arr_cell ST3.out.1.box.b3 k hlt))
        clear F2 ST2 d0 d1 d2 d3
        cases hhas : I.has k
        · have HH : Hid (I.has k = false) := hhas
          rw [hhas] at e3
          clear hhas
          go_wp2_with fail
          go_roundw
          case rel => exact ⟨k + 1, by go_num, by omega, ST3.out.1, ST3.out.2.1.skip (by omega) hlt HH.out, ST3.out.2.2.skip hr hlt HH.out⟩
          case measure => simp [intOf]; omega
        · have HH : Hid (I.has k = true) := hhas
          rw [hhas] at e3
          clear hhas e0 e1 e2
          have f4 := arr_cell ST3.out.1.box.b4 k hlt
          have f5 := arr_cell ST3.out.1.box.b5 k hlt
          have F3 : Hid (Calls Try.prog 19 #[.pointer (some ⟨p1, 0, none⟩), .int .i64 k, .int .i64 (I.stt k), .int .i64 (I.cnt k)] w3.drew fun en w' => en = .returned (.tuple #[]) ∧ Fr w w' p1 p2 I ∧ Bk w' p1 0 (k + 1) I ∧ Bm w' p2 rot k I) := step3 ST3.out.1.drew ST3.out.2.1.drew ST3.out.2.2.drew hlt HH.out OK.out
          go_wp2_with fail
          go_region_held3 (fun w' => w'.cell? ⟨w.heap.size + 1 + 1 + 1 + 1, k, none⟩ = some (.int .i64 (I.stt k)) ∧ w'.cell? ⟨w.heap.size + 1 + 1 + 1 + 1 + 1, k, none⟩ = some (.int .i64 (I.cnt k))) (go_keep)
            (first | (go_at_call 19; refine F3.out.mono ?_; rintro e w4 ⟨rfl, hst⟩; have ST4 : Hid (Fr w w4 p1 p2 I ∧ Bk w4 p1 0 (k + 1) I ∧ Bm w4 p2 rot k I) := hst; clear hst; have g4 := arr_cell ST4.out.1.box.b4 k hlt; have g5 := arr_cell ST4.out.1.box.b5 k hlt))
          have F4 : Hid (Calls Try.prog 19 #[.pointer (some ⟨p2, 0, none⟩), .int .i64 ((k : Int) + (rot : Int)), .int .i64 (I.stt k), .int .i64 (I.cnt k)] w4.drew fun en w' => en = .returned (.tuple #[]) ∧ Fr w w' p1 p2 I ∧ Bk w' p1 0 (k + 1) I ∧ Bk w' p2 rot (k + 1) I) := step4 ST4.out.1.drew ST4.out.2.1.drew ST4.out.2.2.drew hr hlt HH.out OK.out _ ZZ.out
          clear F3 ST3 f4 f5 e3
          go_wp2_with fail
          go_region_held3 (fun w' => w'.cell? ⟨w.heap.size + 1 + 1 + 1 + 1, k, none⟩ = some (.int .i64 (I.stt k)) ∧ w'.cell? ⟨w.heap.size + 1 + 1 + 1 + 1 + 1, k, none⟩ = some (.int .i64 (I.cnt k))) (go_keep)
            (first | (go_at_call 19; refine F4.out.mono ?_; rintro e w5 ⟨rfl, hst⟩; have ST5 : Hid (Fr w w5 p1 p2 I ∧ Bk w5 p1 0 (k + 1) I ∧ Bk w5 p2 rot (k + 1) I) := hst; clear hst; have h4 := arr_cell ST5.out.1.box.b4 k hlt; have h5 := arr_cell ST5.out.1.box.b5 k hlt))
          go_wp2_with fail
          go_roundw
          case rel => exact ⟨k + 1, by go_num, by omega, ST5.out⟩
          case measure => simp [intOf]; omega
    · obtain rfl : k = 10 := by omega
      clear hlt hk SS
      go_wp2_with fail
      refine (sumA ST.out.1 ST.out.2.1 ST.out.2.2 OK.out).mono ?_
      rintro e W5 ⟨q1, rfl, hst⟩
      have ST5 : Hid (Fr w W5 p1 p2 I ∧ Bk W5 p2 rot 10 I ∧ Tl W5 q1 I) := hst
      clear hst ST
      go_wp2_with fail
      refine (sumB ST5.out.1 ST5.out.2.1 ST5.out.2.2 hr OK.out).mono ?_
      rintro e W6 ⟨q2, rfl, hst⟩
      have KP : Hid (Kp w W6 p1 p2 q1 q2 I) := hst
      clear hst ST5 W5 W4
      go_wp2_with fail
      go_loopw [26, 27, 28, 29, 30, 31] (fun a b c i f j wq => ∃ (k : Nat), i = .int .i64 k ∧ k ≤ 10 ∧ a = .int .i64 (I.R k) ∧ b = .int .i64 (I.E k) ∧ c = .int .i64 (I.S k).length ∧ Kp w wq p1 p2 q1 q2 I) (fun _ _ _ i _ _ _ => 10 - (intOf i).toNat)
      case atStart => exact ⟨0, rfl, by omega, rfl, rfl, rfl, KP.out⟩
      case round =>
        obtain ⟨k, rfl, hk, rfl, rfl, rfl, hkp⟩ := hrel
        clear KP
        have KP : Hid (Kp w wr p1 p2 q1 q2 I) := hkp
        clear hkp
        by_cases hlt : k < 10
        · have c0 := arr_cell KP.out.fr.box.b0 k hlt
          have c1 := arr_cell KP.out.fr.box.b1 k hlt
          have c2 := arr_cell KP.out.fr.box.b2 k hlt
          have c3 := arr_cell KP.out.fr.box.b3 k hlt
          have j1 : (0 : Int) ≤ (k : Int) := by omega
          have j2 : (k : Int) < 10 := by omega
          have br := I.R_bd OK.out k hk
          have be := I.E_bd OK.out k hk
          have bq := OK.out.rq k hlt
          have bz := OK.out.er k hlt
          have bl := I.S_len k
          cases hC : I.C k
          · have CA : Hid (Calls Try.prog 21 #[.int .i64 (I.sl k), .int .i64 (I.now - I.org)] wr fun e w' => e = .returned (.bool false) ∧ w' = wr) := I.counts OK.out HS.out k hlt false hC wr
            have HC : Hid (I.C k = false) := hC
            clear hC
            go_wp2_with fail
            refine CA.out.mono ?_
            rintro e wr ⟨rfl, rfl⟩
            go_wp2_with fail
            go_roundw
            case rel => exact ⟨k + 1, by go_num, by omega, by rw [I.R_no k HC.out], by rw [I.E_no k HC.out], by rw [I.S_no k HC.out], KP.out⟩
            case measure => simp [intOf]; omega
          · have CA : Hid (Calls Try.prog 21 #[.int .i64 (I.sl k), .int .i64 (I.now - I.org)] wr fun e w' => e = .returned (.bool true) ∧ w' = wr) := I.counts OK.out HS.out k hlt true hC wr
            have HC : Hid (I.C k = true) := hC
            clear hC
            go_wp2_with fail
            refine CA.out.mono ?_
            rintro e wr ⟨rfl, rfl⟩
            clear CA
            cases hhas : I.has k
            · have HH : Hid (I.has k = false) := hhas
              rw [hhas] at c3
              clear hhas
              go_wp2_with fail
              go_roundw
              case rel => exact ⟨k + 1, by go_num, by omega, by rw [I.R_yes k HC.out], by rw [I.E_yes k HC.out], by rw [I.S_no' k HH.out], KP.out⟩
              case measure => simp [intOf]; omega
            · have HH : Hid (I.has k = true) := hhas
              rw [hhas] at c3
              clear hhas
              go_wp2_with fail
              go_loopw [30, 31] (fun f j wq => ∃ (m : Nat), j = .int .i64 m ∧ m ≤ k ∧ f = .bool (!I.any (I.stt k) m) ∧ Kp w wq p1 p2 q1 q2 I) (fun _ j _ => k - (intOf j).toNat)
              case atStart => exact ⟨0, rfl, Nat.zero_le _, rfl, KP.out⟩
              case round =>
                obtain ⟨m, rfl, hm, rfl, hkp⟩ := hrel
                have KP2 : Hid (Kp w wr p1 p2 q1 q2 I) := hkp
                clear hkp
                obtain ⟨fb, hfb⟩ : ∃ fb, fb = !I.any (I.stt k) m := ⟨_, rfl⟩
                rw [← hfb]
                have FB : Hid (fb = !I.any (I.stt k) m) := hfb
                clear hfb c0 c1 c2 c3
                by_cases hlt' : m < k
                · have c0 := arr_cell KP2.out.fr.box.b0 m (by omega)
                  have c3 := arr_cell KP2.out.fr.box.b3 m (by omega)
                  have c4 := arr_cell KP2.out.fr.box.b4 m (by omega)
                  have c5 := arr_cell KP2.out.fr.box.b4 k hlt
                  have i1 : (0 : Int) ≤ (m : Int) := by omega
                  have i2 : (m : Int) < 10 := by omega
                  cases hCm : I.C m
                  · have CA : Hid (∀ n, Calls Try.prog 21 #[.int .i64 (I.sl m), .int .i64 (I.now - I.org)] (wr.drewN n) fun e w' => e = .returned (.bool false) ∧ w' = wr.drewN n) := fun n => I.counts OK.out HS.out m (by omega) false hCm _
                    have QQ : Hid (I.Q (I.stt k) m = false) := I.Q_1 _ m hCm
                    clear hCm
                    go_wp2_with fail
                    go_quiet (exact Calls.quiet_of_same (CA.out _))
                    go_wp2_with fail
                    go_roundw
                    case rel => exact ⟨m + 1, by go_num, by omega, by rw [I.any_no _ m QQ.out, ← FB.out], KP2.out.drewN _⟩
                    case measure => simp [intOf]; omega
                  · cases hhm : I.has m
                    · have CA : Hid (∀ n, Calls Try.prog 21 #[.int .i64 (I.sl m), .int .i64 (I.now - I.org)] (wr.drewN n) fun e w' => e = .returned (.bool true) ∧ w' = wr.drewN n) := fun n => I.counts OK.out HS.out m (by omega) true hCm _
                      have QQ : Hid (I.Q (I.stt k) m = false) := I.Q_2 _ m hhm
                      rw [hhm] at c3
                      clear hhm
                      clear hCm
                      go_wp2_with fail
                      go_quiet (exact Calls.quiet_of_same (CA.out _))
                      go_wp2_with fail
                      go_roundw
                      case rel => exact ⟨m + 1, by go_num, by omega, by rw [I.any_no _ m QQ.out, ← FB.out], KP2.out.drewN _⟩
                      case measure => simp [intOf]; omega
                    · by_cases heq : I.stt m = I.stt k
                      · have CA : Hid (∀ n, Calls Try.prog 21 #[.int .i64 (I.sl m), .int .i64 (I.now - I.org)] (wr.drewN n) fun e w' => e = .returned (.bool true) ∧ w' = wr.drewN n) := fun n => I.counts OK.out HS.out m (by omega) true hCm _
                        have QQ : Hid (I.Q (I.stt k) m = true) := I.Q_4 _ m hCm hhm heq
                        rw [hhm] at c3
                        clear hhm
                        have heq' : decide (I.stt m = I.stt k) = true := by simpa using heq
                        have heqb : (I.stt m == I.stt k) = true := by simpa using heq
                        clear heq
                        clear hCm
                        go_wp2_with fail
                        go_quiet (exact Calls.quiet_of_same (CA.out _))
                        go_wp2_with fail
                        go_roundw
                        case rel => exact ⟨m + 1, by go_num, by omega, by rw [I.any_yes _ m QQ.out]; rfl, KP2.out.drewN _⟩
                        case measure => simp [intOf]; omega
                      · have CA : Hid (∀ n, Calls Try.prog 21 #[.int .i64 (I.sl m), .int .i64 (I.now - I.org)] (wr.drewN n) fun e w' => e = .returned (.bool true) ∧ w' = wr.drewN n) := fun n => I.counts OK.out HS.out m (by omega) true hCm _
                        have QQ : Hid (I.Q (I.stt k) m = false) := I.Q_3 _ m heq
                        rw [hhm] at c3
                        clear hhm
                        have heq' : decide (I.stt m = I.stt k) = false := by simpa using heq
                        clear hCm
                        go_wp2_with fail
                        go_quiet (exact Calls.quiet_of_same (CA.out _))
                        go_wp2_with fail
                        go_roundw
                        case rel => exact ⟨m + 1, by go_num, by omega, by rw [I.any_no _ m QQ.out, ← FB.out], KP2.out.drewN _⟩
                        case measure => simp [intOf]; omega
                · obtain rfl : m = k := by omega
                  cases fb
                  · go_wp2_with fail
                    go_roundw
                    case rel => exact ⟨m + 1, by go_num, by omega, by rw [I.R_yes m HC.out], by rw [I.E_yes m HC.out], by rw [I.S_old m HC.out HH.out (by have := FB.out; simpa using this)], KP2.out⟩
                    case measure => simp [intOf]; omega
                  · go_wp2_with fail
                    go_roundw
                    case rel => exact ⟨m + 1, by go_num, by omega, by rw [I.R_yes m HC.out], by rw [I.E_yes m HC.out], by rw [I.S_new m HC.out HH.out (by have := FB.out; simpa using this)]; go_num, KP2.out⟩
                    case measure => simp [intOf]; omega
        · obtain rfl : k = 10 := by omega
          clear hk hlt
          go_wp2_with fail
          refine (tl22 KP.out.t1).mono ?_
          rintro e W7 ⟨rfl, nd, rfl⟩
          have KP2 : Hid (Kp w (wr.drewN nd) p1 p2 q1 q2 I) := KP.out.drewN nd
          clear KP
          generalize wr.drewN nd = W7 at KP2 ⊢
          go_wp2_with fail
          refine (tl23 KP2.out.t1).mono ?_
          rintro e W7 ⟨rfl, rfl⟩
          obtain ⟨n, hn⟩ : ∃ n, n = (I.S 10).length := ⟨_, rfl⟩
          rw [← hn]
          have hn10 : n ≤ 10 := by rw [hn]; exact I.S_len 10
          have HN : Hid (n = (I.S 10).length) := hn
          clear hn
          go_wp2_with fail
          go_loopw [35, 36, 37, 38, 39, 40, 41, 42] (fun i _ _ _ _ _ _ _ wq => ∃ (k : Nat), i = .int .i64 k ∧ k ≤ n ∧ Kp w wq p1 p2 q1 q2 I) (fun i _ _ _ _ _ _ _ _ => n - (intOf i).toNat)
          case atStart => exact ⟨0, rfl, Nat.zero_le _, KP2.out⟩
          case round =>
            obtain ⟨k, rfl, hk, hkp⟩ := hrel
            clear KP2
            have KP2 : Hid (Kp w wr p1 p2 q1 q2 I) := hkp
            clear hkp
            by_cases hlt : k < n
            · have hL : k < (I.S 10).length := by rw [← HN.out]; exact hlt
              have atS := I.at_S k hL
              obtain ⟨s, hs⟩ : ∃ s, s = (I.S 10)[k].1 := ⟨_, rfl⟩
              obtain ⟨c, hc⟩ : ∃ c, c = (I.S 10)[k].2 := ⟨_, rfl⟩
              rw [← hs, ← hc] at atS
              have AY : Hid (I.any s 10 = true) := atS.1
              have WN : Hid (I.want s 10 = c) := atS.2.1
              have CT : Hid (Calls Try.prog 24 #[.pointer (some ⟨q1, 0, none⟩), .int .i64 k] wr fun en w' => en = .returned (.tuple #[.int .i64 s, .int .i64 c]) ∧ ∃ nd, w' = wr.drewN nd) := by rw [hs, hc]; exact tl24 KP2.out.t1 k hL
              have PV : Hid (0 < k → ∃ s', s' < s ∧ ∃ c', ∀ wx, Kp w wx p1 p2 q1 q2 I → Calls Try.prog 24 #[.pointer (some ⟨q1, 0, none⟩), .int .i64 ((k : Int) - 1)] wx fun en w' => en = .returned (.tuple #[.int .i64 s', .int .i64 c']) ∧ ∃ nd, w' = wx.drewN nd) := fun h0 => by
                have hL' : k - 1 < (I.S 10).length := by omega
                refine ⟨(I.S 10)[k - 1].1, atS.2.2 hL' h0, (I.S 10)[k - 1].2, fun wx hx => ?_⟩
                have := tl24 hx.t1 (k - 1) hL'
                rwa [show ((k - 1 : Nat) : Int) = (k : Int) - 1 by omega] at this
              clear hs hc atS hL
              have j1 : (0 : Int) ≤ (k : Int) := by omega
              have j2 : (k : Int) < (n : Int) := by omega
              by_cases hpos : 0 < k
              · obtain ⟨s', hs', c', CP⟩ := PV.out hpos
                have CP : Hid (∀ wx, Kp w wx p1 p2 q1 q2 I → Calls Try.prog 24 #[.pointer (some ⟨q1, 0, none⟩), .int .i64 ((k : Int) - 1)] wx fun en w' => en = .returned (.tuple #[.int .i64 s', .int .i64 c']) ∧ ∃ nd, w' = wx.drewN nd) := CP
                go_wp2_with fail
                refine CT.out.mono ?_
                rintro e W8 ⟨rfl, nd, rfl⟩
                have KP3 : Hid (Kp w (wr.drewN nd) p1 p2 q1 q2 I) := KP2.out.drewN nd
                clear KP2 CT PV
                generalize wr.drewN nd = W8 at KP3 ⊢
                go_wp2_with fail
                refine (CP.out W8 KP3.out).mono ?_
                rintro e W9 ⟨rfl, nd, rfl⟩
                have KP2 : Hid (Kp w (W8.drewN nd) p1 p2 q1 q2 I) := KP3.out.drewN nd
                clear KP3 CP
                generalize W8.drewN nd = W9 at KP2 ⊢
                have KP3 : Hid (Kp w W9 p1 p2 q1 q2 I) := KP2.out
                clear KP2
                go_wp2_with fail
                go_loopw [40, 41, 42] (fun a f j wq => ∃ (m : Nat), j = .int .i64 m ∧ m ≤ 10 ∧ a = .int .i64 (I.want s m) ∧ f = .bool (I.any s m) ∧ Kp w wq p1 p2 q1 q2 I) (fun _ _ j _ => 10 - (intOf j).toNat)
                case atStart => exact ⟨0, rfl, by omega, rfl, rfl, KP3.out⟩
                case round =>
                  obtain ⟨m, rfl, hm, rfl, rfl, hkp⟩ := hrel
                  have KP4 : Hid (Kp w wr p1 p2 q1 q2 I) := hkp
                  clear hkp
                  by_cases hlt' : m < 10
                  · obtain ⟨fb, hfb⟩ : ∃ fb, fb = I.any s m := ⟨_, rfl⟩
                    obtain ⟨wb, hwb⟩ : ∃ wb, wb = I.want s m := ⟨_, rfl⟩
                    rw [← hfb, ← hwb]
                    have bw : 0 ≤ wb ∧ wb ≤ 10995116277760 := by rw [hwb]; exact I.want_bd OK.out s m hm
                    have bc := OK.out.cnt m hlt'
                    have FB : Hid (fb = I.any s m) := hfb
                    have WB : Hid (wb = I.want s m) := hwb
                    clear hfb hwb
                    have c0 := arr_cell KP4.out.fr.box.b0 m hlt'
                    have c3 := arr_cell KP4.out.fr.box.b3 m hlt'
                    have c4 := arr_cell KP4.out.fr.box.b4 m hlt'
                    have c5 := arr_cell KP4.out.fr.box.b5 m hlt'
                    have i1 : (0 : Int) ≤ (m : Int) := by omega
                    have i2 : (m : Int) < 10 := by omega
                    cases hCm : I.C m
                    · have CA : Hid (Calls Try.prog 21 #[.int .i64 (I.sl m), .int .i64 (I.now - I.org)] wr fun e w' => e = .returned (.bool false) ∧ w' = wr) := I.counts OK.out HS.out m hlt' false hCm _
                      have QQ : Hid (I.Q s m = false) := I.Q_1 _ m hCm
                      clear hCm
                      go_wp2_with fail
                      refine CA.out.mono ?_
                      rintro e wr ⟨rfl, rfl⟩
                      go_wp2_with fail
                      go_roundw
                      case rel => exact ⟨m + 1, by go_num, by omega, by rw [I.want_no _ m QQ.out, ← WB.out], by rw [I.any_no _ m QQ.out, ← FB.out], KP4.out⟩
                      case measure => simp [intOf]; omega
                    · cases hhm : I.has m
                      · have CA : Hid (Calls Try.prog 21 #[.int .i64 (I.sl m), .int .i64 (I.now - I.org)] wr fun e w' => e = .returned (.bool true) ∧ w' = wr) := I.counts OK.out HS.out m hlt' true hCm _
                        have QQ : Hid (I.Q s m = false) := I.Q_2 _ m hhm
                        rw [hhm] at c3
                        clear hhm
                        clear hCm
                        go_wp2_with fail
                        refine CA.out.mono ?_
                        rintro e wr ⟨rfl, rfl⟩
                        go_wp2_with fail
                        go_roundw
                        case rel => exact ⟨m + 1, by go_num, by omega, by rw [I.want_no _ m QQ.out, ← WB.out], by rw [I.any_no _ m QQ.out, ← FB.out], KP4.out⟩
                        case measure => simp [intOf]; omega
                      · by_cases heq : I.stt m = s
                        · have CA : Hid (Calls Try.prog 21 #[.int .i64 (I.sl m), .int .i64 (I.now - I.org)] wr fun e w' => e = .returned (.bool true) ∧ w' = wr) := I.counts OK.out HS.out m hlt' true hCm _
                          have QQ : Hid (I.Q s m = true) := I.Q_4 _ m hCm hhm heq
                          rw [hhm] at c3
                          clear hhm
                          have heq' : decide (I.stt m = s) = true := by simpa using heq
                          have heqb : (I.stt m == s) = true := by simpa using heq
                          clear heq
                          clear hCm
                          go_wp2_with fail
                          refine CA.out.mono ?_
                          rintro e wr ⟨rfl, rfl⟩
                          go_wp2_with fail
                          go_roundw
                          case rel => exact ⟨m + 1, by go_num, by omega, by rw [I.want_yes _ m QQ.out, ← WB.out], by rw [I.any_yes _ m QQ.out], KP4.out⟩
                          case measure => simp [intOf]; omega
                        · have CA : Hid (Calls Try.prog 21 #[.int .i64 (I.sl m), .int .i64 (I.now - I.org)] wr fun e w' => e = .returned (.bool true) ∧ w' = wr) := I.counts OK.out HS.out m hlt' true hCm _
                          have QQ : Hid (I.Q s m = false) := I.Q_3 _ m heq
                          rw [hhm] at c3
                          clear hhm
                          have heq' : decide (I.stt m = s) = false := by simpa using heq
                          have heqb : (I.stt m == s) = false := by simpa using heq
                          clear hCm
                          go_wp2_with fail
                          refine CA.out.mono ?_
                          rintro e wr ⟨rfl, rfl⟩
                          go_wp2_with fail
                          go_roundw
                          case rel => exact ⟨m + 1, by go_num, by omega, by rw [I.want_no _ m QQ.out, ← WB.out], by rw [I.any_no _ m QQ.out, ← FB.out], KP4.out⟩
                          case measure => simp [intOf]; omega
                  · obtain rfl : m = 10 := by omega
                    clear hm hlt'
                    rw [AY.out, WN.out]
                    go_wp2_with fail
                    go_roundw
                    case rel => exact ⟨k + 1, by go_num, by omega, KP4.out⟩
                    case measure => simp [intOf]; omega
              · go_wp2_with fail
                refine CT.out.mono ?_
                rintro e W8 ⟨rfl, nd, rfl⟩
                have KP3 : Hid (Kp w (wr.drewN nd) p1 p2 q1 q2 I) := KP2.out.drewN nd
                clear KP2 CT PV
                generalize wr.drewN nd = W8 at KP3 ⊢
                go_wp2_with fail
                go_loopw [40, 41, 42] (fun a f j wq => ∃ (m : Nat), j = .int .i64 m ∧ m ≤ 10 ∧ a = .int .i64 (I.want s m) ∧ f = .bool (I.any s m) ∧ Kp w wq p1 p2 q1 q2 I) (fun _ _ j _ => 10 - (intOf j).toNat)
                case atStart => exact ⟨0, rfl, by omega, rfl, rfl, KP3.out⟩
                case round =>
                  obtain ⟨m, rfl, hm, rfl, rfl, hkp⟩ := hrel
                  have KP4 : Hid (Kp w wr p1 p2 q1 q2 I) := hkp
                  clear hkp
                  by_cases hlt' : m < 10
                  · obtain ⟨fb, hfb⟩ : ∃ fb, fb = I.any s m := ⟨_, rfl⟩
                    obtain ⟨wb, hwb⟩ : ∃ wb, wb = I.want s m := ⟨_, rfl⟩
                    rw [← hfb, ← hwb]
                    have bw : 0 ≤ wb ∧ wb ≤ 10995116277760 := by rw [hwb]; exact I.want_bd OK.out s m hm
                    have bc := OK.out.cnt m hlt'
                    have FB : Hid (fb = I.any s m) := hfb
                    have WB : Hid (wb = I.want s m) := hwb
                    clear hfb hwb
                    have c0 := arr_cell KP4.out.fr.box.b0 m hlt'
                    have c3 := arr_cell KP4.out.fr.box.b3 m hlt'
                    have c4 := arr_cell KP4.out.fr.box.b4 m hlt'
                    have c5 := arr_cell KP4.out.fr.box.b5 m hlt'
                    have i1 : (0 : Int) ≤ (m : Int) := by omega
                    have i2 : (m : Int) < 10 := by omega
                    cases hCm : I.C m
                    · have CA : Hid (Calls Try.prog 21 #[.int .i64 (I.sl m), .int .i64 (I.now - I.org)] wr fun e w' => e = .returned (.bool false) ∧ w' = wr) := I.counts OK.out HS.out m hlt' false hCm _
                      have QQ : Hid (I.Q s m = false) := I.Q_1 _ m hCm
                      clear hCm
                      go_wp2_with fail
                      refine CA.out.mono ?_
                      rintro e wr ⟨rfl, rfl⟩
                      go_wp2_with fail
                      go_roundw
                      case rel => exact ⟨m + 1, by go_num, by omega, by rw [I.want_no _ m QQ.out, ← WB.out], by rw [I.any_no _ m QQ.out, ← FB.out], KP4.out⟩
                      case measure => simp [intOf]; omega
                    · cases hhm : I.has m
                      · have CA : Hid (Calls Try.prog 21 #[.int .i64 (I.sl m), .int .i64 (I.now - I.org)] wr fun e w' => e = .returned (.bool true) ∧ w' = wr) := I.counts OK.out HS.out m hlt' true hCm _
                        have QQ : Hid (I.Q s m = false) := I.Q_2 _ m hhm
                        rw [hhm] at c3
                        clear hhm
                        clear hCm
                        go_wp2_with fail
                        refine CA.out.mono ?_
                        rintro e wr ⟨rfl, rfl⟩
                        go_wp2_with fail
                        go_roundw
                        case rel => exact ⟨m + 1, by go_num, by omega, by rw [I.want_no _ m QQ.out, ← WB.out], by rw [I.any_no _ m QQ.out, ← FB.out], KP4.out⟩
                        case measure => simp [intOf]; omega
                      · by_cases heq : I.stt m = s
                        · have CA : Hid (Calls Try.prog 21 #[.int .i64 (I.sl m), .int .i64 (I.now - I.org)] wr fun e w' => e = .returned (.bool true) ∧ w' = wr) := I.counts OK.out HS.out m hlt' true hCm _
                          have QQ : Hid (I.Q s m = true) := I.Q_4 _ m hCm hhm heq
                          rw [hhm] at c3
                          clear hhm
                          have heq' : decide (I.stt m = s) = true := by simpa using heq
                          have heqb : (I.stt m == s) = true := by simpa using heq
                          clear heq
                          clear hCm
                          go_wp2_with fail
                          refine CA.out.mono ?_
                          rintro e wr ⟨rfl, rfl⟩
                          go_wp2_with fail
                          go_roundw
                          case rel => exact ⟨m + 1, by go_num, by omega, by rw [I.want_yes _ m QQ.out, ← WB.out], by rw [I.any_yes _ m QQ.out], KP4.out⟩
                          case measure => simp [intOf]; omega
                        · have CA : Hid (Calls Try.prog 21 #[.int .i64 (I.sl m), .int .i64 (I.now - I.org)] wr fun e w' => e = .returned (.bool true) ∧ w' = wr) := I.counts OK.out HS.out m hlt' true hCm _
                          have QQ : Hid (I.Q s m = false) := I.Q_3 _ m heq
                          rw [hhm] at c3
                          clear hhm
                          have heq' : decide (I.stt m = s) = false := by simpa using heq
                          have heqb : (I.stt m == s) = false := by simpa using heq
                          clear hCm
                          go_wp2_with fail
                          refine CA.out.mono ?_
                          rintro e wr ⟨rfl, rfl⟩
                          go_wp2_with fail
                          go_roundw
                          case rel => exact ⟨m + 1, by go_num, by omega, by rw [I.want_no _ m QQ.out, ← WB.out], by rw [I.any_no _ m QQ.out, ← FB.out], KP4.out⟩
                          case measure => simp [intOf]; omega
                  · obtain rfl : m = 10 := by omega
                    clear hm hlt'
                    rw [AY.out, WN.out]
                    go_wp2_with fail
                    go_roundw
                    case rel => exact ⟨k + 1, by go_num, by omega, KP4.out⟩
                    case measure => simp [intOf]; omega
            · obtain rfl : k = n := by omega
              clear hk hlt
              go_wp2_with fail
              refine (tl22 KP2.out.t2).mono ?_
              rintro e W8 ⟨rfl, nd, rfl⟩
              have KP3 : Hid (Kp w (wr.drewN nd) p1 p2 q1 q2 I) := KP2.out.drewN nd
              clear KP2
              generalize wr.drewN nd = W8 at KP3 ⊢
              go_wp2_with fail
              refine (tl23 KP3.out.t2).mono ?_
              rintro e W8 ⟨rfl, rfl⟩
              rw [← HN.out]
              go_wp2_with fail
              go_loopw [45, 46, 47, 48, 49] (fun i _ _ _ _ wq => ∃ (m : Nat), i = .int .i64 m ∧ m ≤ k ∧ Kp w wq p1 p2 q1 q2 I) (fun i _ _ _ _ _ => k - (intOf i).toNat)
              case atStart => exact ⟨0, rfl, Nat.zero_le _, KP3.out⟩
              case round =>
                obtain ⟨m, rfl, hm, hkp⟩ := hrel
                clear KP3
                have KP3 : Hid (Kp w wr p1 p2 q1 q2 I) := hkp
                clear hkp
                by_cases hlt : m < k
                · have hL : m < (I.S 10).length := by rw [← HN.out]; exact hlt
                  obtain ⟨s, hs⟩ : ∃ s, s = (I.S 10)[m].1 := ⟨_, rfl⟩
                  obtain ⟨c, hc⟩ : ∃ c, c = (I.S 10)[m].2 := ⟨_, rfl⟩
                  have C1 : Hid (Calls Try.prog 24 #[.pointer (some ⟨q1, 0, none⟩), .int .i64 m] wr fun en w' => en = .returned (.tuple #[.int .i64 s, .int .i64 c]) ∧ ∃ nd, w' = wr.drewN nd) := by rw [hs, hc]; exact tl24 KP3.out.t1 m hL
                  have C2 : Hid (∀ wx, Kp w wx p1 p2 q1 q2 I → Calls Try.prog 24 #[.pointer (some ⟨q2, 0, none⟩), .int .i64 m] wx fun en w' => en = .returned (.tuple #[.int .i64 s, .int .i64 c]) ∧ ∃ nd, w' = wx.drewN nd) := fun wx hx => by rw [hs, hc]; exact tl24 hx.t2 m hL
                  clear hs hc hL
                  go_wp2_with fail
                  refine C1.out.mono ?_
                  rintro e W9 ⟨rfl, nd, rfl⟩
                  have KP4 : Hid (Kp w (wr.drewN nd) p1 p2 q1 q2 I) := KP3.out.drewN nd
                  clear KP3 C1
                  generalize wr.drewN nd = W9 at KP4 ⊢
                  go_wp2_with fail
                  refine (C2.out W9 KP4.out).mono ?_
                  rintro e W10 ⟨rfl, nd, rfl⟩
                  have KP5 : Hid (Kp w (W9.drewN nd) p1 p2 q1 q2 I) := KP4.out.drewN nd
                  clear KP4 C2
                  generalize W9.drewN nd = W10 at KP5 ⊢
                  go_wp2_with fail
                  go_roundw
                  case rel => exact ⟨m + 1, by go_num, by omega, KP5.out⟩
                  case measure => simp [intOf]; omega
                · go_wp2
                  go_ret
                  exact ⟨rfl, KP3.out.fr.bel⟩
end Go.Proofs.Qxb6608868a.st
