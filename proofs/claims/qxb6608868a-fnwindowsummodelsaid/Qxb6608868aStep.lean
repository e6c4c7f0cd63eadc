/-
  The filling loop's four calls, over one frame.
-/
import Derived.Test.Qxb6608868aTwo
namespace Go.Proofs.Qxb6608868a.st
open Go.RowKit

/-- The frame: the boxes lie as laid; nothing older has turned; two windows. -/
structure Fr (w wr : World) (p1 p2 : Nat) (I : Inp) : Prop where
  box : Box wr w.heap.size I
  bel : Below w.heap.size w wr
  ne : p1 ≠ p2
  q1 : w.heap.size + 6 ≤ p1
  q2 : w.heap.size + 6 ≤ p2

theorem Fr.size {w wr : World} {p1 p2 : Nat} {I : Inp} (h : Fr w wr p1 p2 I) : w.heap.size + 6 ≤ wr.heap.size := by
  have := lt_of_block h.box.b5; omega
theorem Fr.go {w wr w' : World} {p1 p2 : Nat} {I : Inp} (h : Fr w wr p1 p2 I) (hb : Below (w.heap.size + 6) wr w') : Fr w w' p1 p2 I :=
  ⟨h.box.below hb (Nat.le_refl _), h.bel.trans (hb.mono (by omega)), h.ne, h.q1, h.q2⟩
theorem Fr.wr {w wr w' : World} {p1 p2 : Nat} {I : Inp} (h : Fr w wr p1 p2 I) {p : Nat} (hp : w.heap.size + 6 ≤ p) (hw : Wr wr w' p) : Fr w w' p1 p2 I :=
  h.go (hw.below hp h.size)
theorem below_drew (B : Nat) (w : World) : Below B w w.drew := ⟨rfl, rfl, rfl, Nat.le_refl _, fun _ _ => rfl⟩
theorem Fr.drew {w wr : World} {p1 p2 : Nat} {I : Inp} (h : Fr w wr p1 p2 I) : Fr w wr.drew p1 p2 I := h.go (below_drew _ _)
theorem Bk.drew {w : World} {p r k : Nat} {I : Inp} (h : Bk w p r k I) : Bk w.drew p r k I := h.below (below_drew _ _)
theorem Bm.drew {w : World} {p r k : Nat} {I : Inp} (h : Bm w p r k I) : Bm w.drew p r k I := by
  obtain ⟨f, g, hh, V, X, c, hW, h1, h2⟩ := h
  exact ⟨f, g, hh, V, X, c, hW.below (below_drew _ _), h1, h2⟩
theorem turn0 {k : Nat} (h : k < 10) : turn 0 k = k := by unfold turn; rw [if_neg (by omega)]; omega

theorem step1 {w wr : World} {p1 p2 rot k : Nat} {I : Inp} (h : Fr w wr p1 p2 I) (a : Bk wr p1 0 k I) (b : Bk wr p2 rot k I) (hk : k < 10) :
    Calls Try.prog 18 #[.pointer (some ⟨p1, 0, none⟩), .int .i64 k, .int .i64 (I.sl k), .int .i64 (I.rq k), .int .i64 (I.er k)] wr fun en w' => en = .returned (.tuple #[]) ∧ Fr w w' p1 p2 I ∧ Bm w' p1 0 k I ∧ Bk w' p2 rot k I := by
  have := a.set (by omega) hk
  rw [turn0 hk] at this
  refine this.mono ?_
  rintro en w' ⟨rfl, hw, ha⟩
  exact ⟨rfl, h.wr h.q1 hw, ha, b.other hw h.ne.symm a.blk⟩
theorem step2 {w wr : World} {p1 p2 rot k : Nat} {I : Inp} (h : Fr w wr p1 p2 I) (a : Bm wr p1 0 k I) (b : Bk wr p2 rot k I) (hr : rot < 10) (hk : k < 10) (z : Int) (hz : z = (turn rot k : Nat)) :
    Calls Try.prog 18 #[.pointer (some ⟨p2, 0, none⟩), .int .i64 z, .int .i64 (I.sl k), .int .i64 (I.rq k), .int .i64 (I.er k)] wr fun en w' => en = .returned (.tuple #[]) ∧ Fr w w' p1 p2 I ∧ Bm w' p1 0 k I ∧ Bm w' p2 rot k I := by
  subst hz
  refine (b.set hr hk).mono ?_
  rintro en w' ⟨rfl, hw, hb⟩
  exact ⟨rfl, h.wr h.q2 hw, a.other hw h.ne b.blk, hb⟩
theorem step3 {w wr : World} {p1 p2 rot k : Nat} {I : Inp} (h : Fr w wr p1 p2 I) (a : Bm wr p1 0 k I) (b : Bm wr p2 rot k I) (hk : k < 10) (hs : I.has k = true) (ho : I.Ok) :
    Calls Try.prog 19 #[.pointer (some ⟨p1, 0, none⟩), .int .i64 k, .int .i64 (I.stt k), .int .i64 (I.cnt k)] wr fun en w' => en = .returned (.tuple #[]) ∧ Fr w w' p1 p2 I ∧ Bk w' p1 0 (k + 1) I ∧ Bm w' p2 rot k I := by
  have := a.count (by omega) hk hs (ho.cnt k hk)
  rw [turn0 hk] at this
  refine this.mono ?_
  rintro en w' ⟨rfl, hw, ha⟩
  exact ⟨rfl, h.wr h.q1 hw, ha, b.other hw h.ne.symm a.blk⟩
theorem step4 {w wr : World} {p1 p2 rot k : Nat} {I : Inp} (h : Fr w wr p1 p2 I) (a : Bk wr p1 0 (k + 1) I) (b : Bm wr p2 rot k I) (hr : rot < 10) (hk : k < 10) (hs : I.has k = true) (ho : I.Ok) (z : Int) (hz : z = (turn rot k : Nat)) :
    Calls Try.prog 19 #[.pointer (some ⟨p2, 0, none⟩), .int .i64 z, .int .i64 (I.stt k), .int .i64 (I.cnt k)] wr fun en w' => en = .returned (.tuple #[]) ∧ Fr w w' p1 p2 I ∧ Bk w' p1 0 (k + 1) I ∧ Bk w' p2 rot (k + 1) I := by
  subst hz
  refine (b.count hr hk hs (ho.cnt k hk)).mono ?_
  rintro en w' ⟨rfl, hw, hb⟩
  exact ⟨rfl, h.wr h.q2 hw, a.other hw h.ne b.blk, hb⟩
theorem start {w W : World} {I : Inp} (rot : Nat) (hbox : Box W w.heap.size I) (hbel : Below w.heap.size w W) (hs : w.heap.size + 6 ≤ W.heap.size) :
    Fr w ((W.alloc (.cells (winL I.org).toArray 68)).alloc (.cells (winL I.org).toArray 68)) W.heap.size (W.heap.size + 1) I ∧ Bk ((W.alloc (.cells (winL I.org).toArray 68)).alloc (.cells (winL I.org).toArray 68)) W.heap.size 0 0 I ∧ Bk ((W.alloc (.cells (winL I.org).toArray 68)).alloc (.cells (winL I.org).toArray 68)) (W.heap.size + 1) rot 0 I := by
  have hsz : (W.alloc (.cells (winL I.org).toArray 68)).heap.size = W.heap.size + 1 := by simp
  have hb : Below W.heap.size W ((W.alloc (.cells (winL I.org).toArray 68)).alloc (.cells (winL I.org).toArray 68)) := ((Below.refl _ _).alloc (Nat.le_refl _) _).alloc (by omega) _
  refine ⟨⟨hbox.below hb hs, hbel.trans (hb.mono (by omega)), by omega, hs, by omega⟩, Bk.new _ _ _ _ ?_, Bk.new _ _ _ _ ?_⟩
  · rw [Below.heap_alloc _ _ _ (by omega)]; exact alloc_at _ _ _ rfl
  · exact alloc_at _ _ _ hsz
end Go.Proofs.Qxb6608868a.st
