/-
  The two windows while they are filled, and what their sums hold.
-/
import Derived.Test.Qxb6608868aWin
import Derived.Test.Qxb6608868aLaw
import Derived.Deep.MidRow
namespace Go.Proofs.Qxb6608868a.st
open Go.RowKit

/-- The inputs by value. -/
structure Inp where
  org : Int
  now : Int
  sl : Nat → Int
  rq : Nat → Int
  er : Nat → Int
  has : Nat → Bool
  stt : Nat → Int
  cnt : Nat → Int

/-- Items below k lie in their buckets (turned by r). -/
def Bk (w : World) (p r k : Nat) (I : Inp) : Prop := ∃ f g h V X c, WinS w p I.org f g h V X c ∧ (∀ j, j < k → f (turn r j) = I.sl j ∧ g (turn r j) = I.rq j ∧ h (turn r j) = I.er j ∧ X (turn r j) = one I.has I.stt I.cnt j) ∧ (∀ j, k ≤ j → j < 10 → V (turn r j) = .slice none 0 0)
/-- .. and item k's numbers too, not its status. -/
def Bm (w : World) (p r k : Nat) (I : Inp) : Prop := ∃ f g h V X c, WinS w p I.org f g h V X c ∧ (∀ j, j < k → f (turn r j) = I.sl j ∧ g (turn r j) = I.rq j ∧ h (turn r j) = I.er j ∧ X (turn r j) = one I.has I.stt I.cnt j) ∧ (f (turn r k) = I.sl k ∧ g (turn r k) = I.rq k ∧ h (turn r k) = I.er k) ∧ (∀ j, k ≤ j → j < 10 → V (turn r j) = .slice none 0 0)

theorem WinS.none {w : World} {pw : Nat} {org : Int} {sl rq er : Nat → Int} {V : Nat → Value} {X : Nat → SL} {cur : Array Value} (h : WinS w pw org sl rq er V X cur) (j : Nat) (hj : j < 10) (hV : V j = .slice none 0 0) : X j = [] := by
  rcases h.sts j hj with h' | ⟨g, cu, st, c, cc, hv, _⟩
  · exact h'.2
  · rw [hV] at hv; simp at hv

theorem Bk.new (w : World) (p r : Nat) (I : Inp) (h : w.heap[p]? = some (.cells (winL I.org).toArray 68 (0, 0))) : Bk w p r 0 I :=
  ⟨_, _, _, _, _, _, WinS.new w p I.org h, fun j hj => by omega, fun _ _ _ => rfl⟩
theorem Bk.blk {w : World} {p r k : Nat} {I : Inp} (h : Bk w p r k I) : ∃ c, w.heap[p]? = some (.cells c 68 (0, 0)) := by
  obtain ⟨f, g, hh, V, X, c, hw, _⟩ := h; exact ⟨c, hw.blk⟩
theorem Bm.blk {w : World} {p r k : Nat} {I : Inp} (h : Bm w p r k I) : ∃ c, w.heap[p]? = some (.cells c 68 (0, 0)) := by
  obtain ⟨f, g, hh, V, X, c, hw, _⟩ := h; exact ⟨c, hw.blk⟩
theorem Bk.other {w w' : World} {p p' r k : Nat} {I : Inp} (h : Bk w p r k I) (hw : Wr w w' p') (hne : p ≠ p') (hp : ∃ c', w.heap[p']? = some (.cells c' 68 (0, 0))) : Bk w' p r k I := by
  obtain ⟨f, g, hh, V, X, c, hW, h1, h2⟩ := h
  obtain ⟨c', hc'⟩ := hp
  exact ⟨f, g, hh, V, X, c, hW.other hw hne hc', h1, h2⟩
theorem Bm.other {w w' : World} {p p' r k : Nat} {I : Inp} (h : Bm w p r k I) (hw : Wr w w' p') (hne : p ≠ p') (hp : ∃ c', w.heap[p']? = some (.cells c' 68 (0, 0))) : Bm w' p r k I := by
  obtain ⟨f, g, hh, V, X, c, hW, h1, h2, h3⟩ := h
  obtain ⟨c', hc'⟩ := hp
  exact ⟨f, g, hh, V, X, c, hW.other hw hne hc', h1, h2, h3⟩
theorem Bk.below {w w' : World} {p r k : Nat} {I : Inp} (h : Bk w p r k I) (hb : Below w.heap.size w w') : Bk w' p r k I := by
  obtain ⟨f, g, hh, V, X, c, hW, h1, h2⟩ := h
  exact ⟨f, g, hh, V, X, c, hW.below hb, h1, h2⟩

theorem Bk.set {w : World} {p r k : Nat} {I : Inp} (h : Bk w p r k I) (hr : r < 10) (hk : k < 10) :
    Calls Try.prog 18 #[.pointer (some ⟨p, 0, none⟩), .int .i64 (turn r k), .int .i64 (I.sl k), .int .i64 (I.rq k), .int .i64 (I.er k)] w fun en w' => en = .returned (.tuple #[]) ∧ Wr w w' p ∧ Bm w' p r k I := by
  obtain ⟨f, g, hh, V, X, c, hW, h1, h2⟩ := h
  refine (hW.set (turn r k) (turn_lt hr hk) _ _ _).mono ?_
  rintro en w' ⟨rfl, hwr, cur', hW'⟩
  refine ⟨rfl, hwr, _, _, _, _, _, _, hW', fun j hj => ?_, ⟨upd_same _ _ _, upd_same _ _ _, upd_same _ _ _⟩, h2⟩
  have hne : turn r j ≠ turn r k := fun e => by have := turn_inj hr (by omega) hk e; omega
  rw [upd_other _ _ _ _ hne, upd_other _ _ _ _ hne, upd_other _ _ _ _ hne]
  exact h1 j hj
theorem Bm.skip {w : World} {p r k : Nat} {I : Inp} (h : Bm w p r k I) (hr : r < 10) (hk : k < 10) (hs : I.has k = false) : Bk w p r (k + 1) I := by
  obtain ⟨f, g, hh, V, X, c, hW, h1, h2, h3⟩ := h
  refine ⟨f, g, hh, V, X, c, hW, fun j hj => ?_, fun j hj => h3 j (by omega)⟩
  by_cases e : j < k
  · exact h1 j e
  · obtain rfl : j = k := by omega
    refine ⟨h2.1, h2.2.1, h2.2.2, ?_⟩
    rw [hW.none _ (turn_lt hr hk) (h3 j (Nat.le_refl _) hk), one, hs]; rfl
theorem Bm.count {w : World} {p r k : Nat} {I : Inp} (h : Bm w p r k I) (hr : r < 10) (hk : k < 10) (hs : I.has k = true) (hn : 0 ≤ I.cnt k ∧ I.cnt k ≤ 1099511627776) :
    Calls Try.prog 19 #[.pointer (some ⟨p, 0, none⟩), .int .i64 (turn r k), .int .i64 (I.stt k), .int .i64 (I.cnt k)] w fun en w' => en = .returned (.tuple #[]) ∧ Wr w w' p ∧ Bk w' p r (k + 1) I := by
  obtain ⟨f, g, hh, V, X, c, hW, h1, h2, h3⟩ := h
  refine (hW.count (turn r k) (turn_lt hr hk) (h3 k (Nat.le_refl _) hk) _ _ hn).mono ?_
  rintro en w' ⟨rfl, hwr, v', cur', hW'⟩
  refine ⟨rfl, hwr, _, _, _, _, _, _, hW', fun j hj => ?_, fun j hj hj' => ?_⟩
  · by_cases e : j < k
    · have hne : turn r j ≠ turn r k := fun e' => by have := turn_inj hr (by omega) hk e'; omega
      rw [upd_other _ _ _ _ hne]; exact h1 j e
    · obtain rfl : j = k := by omega
      refine ⟨h2.1, h2.2.1, h2.2.2, ?_⟩
      rw [upd_same, one, hs]; rfl
  · have hne : turn r j ≠ turn r k := fun e' => by have := turn_inj hr hj' hk e'; omega
    rw [upd_other _ _ _ _ hne]; exact h3 j (by omega) hj'

/-- Is item j counted? -/
def Inp.C (I : Inp) (j : Nat) : Bool := cB (I.sl j) (I.now - I.org)
def Inp.S (I : Inp) (k : Nat) : SL := sts I.C I.has I.stt I.cnt k
def Inp.R (I : Inp) (k : Nat) : Int := sumTo I.C I.rq k
def Inp.E (I : Inp) (k : Nat) : Int := sumTo I.C I.er k
structure Inp.Ok (I : Inp) : Prop where
  o0 : 0 ≤ I.org
  o1 : I.org ≤ I.now
  o2 : I.now ≤ 9223372036854775807
  rq : VOK I.rq 10
  er : VOK I.er 10
  cnt : VOK I.cnt 10

theorem Bk.sum {w : World} {p r : Nat} {I : Inp} (h : Bk w p r 10 I) (hr : r < 10) (ho : I.Ok) :
    Calls Try.prog 20 #[.pointer (some ⟨p, 0, none⟩), .int .i64 I.now] w fun en w' => ∃ q v, en = .returned (.pointer (some ⟨q, 0, none⟩)) ∧ Below w.heap.size w w' ∧ TalT w' w.heap.size q (I.R 10) (I.E 10) v (I.S 10) := by
  obtain ⟨f, g, hh, V, X, c, hW, h1, h2⟩ := h
  have hz : Sized g hh X := by
    refine ⟨fun i hi => ?_, fun i hi => ?_, fun i hi => ?_, fun i hi => ?_⟩
    · obtain ⟨j, hj, rfl⟩ := turn_on hr hi; rw [(h1 j hj).2.1]; exact ho.rq j hj
    · obtain ⟨j, hj, rfl⟩ := turn_on hr hi; rw [(h1 j hj).2.2.1]; exact ho.er j hj
    · obtain ⟨j, hj, rfl⟩ := turn_on hr hi; rw [(h1 j hj).2.2.2, one]; split <;> simp
    · obtain ⟨j, hj, rfl⟩ := turn_on hr hi
      rw [(h1 j hj).2.2.2, one]
      intro x hx
      split at hx
      · rw [List.mem_singleton.1 hx]; exact ho.cnt j hj
      · cases hx
  refine (zzsum20 w p I.org I.now f g hh V X hW.read hz ho.o0 ho.o1 ho.o2 (fun j => cB (f j) (I.now - I.org)) (fun j => rfl)).mono ?_
  rintro en w' ⟨q, v, rfl, hb, ht⟩
  have hC : ∀ j, j < 10 → (fun j => cB (f j) (I.now - I.org)) (turn r j) = I.C j := fun j hj => by
    show cB (f (turn r j)) _ = _; rw [(h1 j hj).1]; rfl
  refine ⟨q, v, rfl, hb, ?_⟩
  rw [sum_turn r hr I.C _ I.rq g hC (fun j hj => (h1 j hj).2.1), sum_turn r hr I.C _ I.er hh hC (fun j hj => (h1 j hj).2.2.1), sts_turn r hr I.C _ I.has I.stt I.cnt X hC (fun j hj => (h1 j hj).2.2.2)] at ht
  exact ht

theorem TalT.below {w w' : World} {base q : Nat} {r e : Int} {v : Value} {xs : SL} (h : TalT w base q r e v xs) (hb : Below w.heap.size w w') : TalT w' base q r e v xs := by
  refine ⟨by rw [hb.block q (lt_of_block h.blk)]; exact h.blk, ⟨h.own.1, ?_⟩, Nat.le_trans h.hbase hb.size⟩
  rcases h.own.2 with h2 | ⟨g, cap, cur, hv, hg, hh, r⟩
  · exact .inl h2
  · exact .inr ⟨g, cap, cur, hv, hg, by rw [hb.block g (lt_of_block hh)]; exact hh, r⟩

/-- The six boxed arrays. -/
structure Box (w : World) (B : Nat) (I : Inp) : Prop where
  b0 : w.heap[B]? = some (.cells (arr fun j => .int .i64 (I.sl j)) 33 (0, 0))
  b1 : w.heap[B + 1]? = some (.cells (arr fun j => .int .i64 (I.rq j)) 33 (0, 0))
  b2 : w.heap[B + 2]? = some (.cells (arr fun j => .int .i64 (I.er j)) 33 (0, 0))
  b3 : w.heap[B + 3]? = some (.cells (arr fun j => .bool (I.has j)) 34 (0, 0))
  b4 : w.heap[B + 4]? = some (.cells (arr fun j => .int .i64 (I.stt j)) 35 (0, 0))
  b5 : w.heap[B + 5]? = some (.cells (arr fun j => .int .i64 (I.cnt j)) 33 (0, 0))
theorem Box.below {w w' : World} {B B' : Nat} {I : Inp} (h : Box w B I) (hb : Below B' w w') (hB : B + 6 ≤ B') : Box w' B I :=
  ⟨by rw [hb.block _ (by omega)]; exact h.b0, by rw [hb.block _ (by omega)]; exact h.b1, by rw [hb.block _ (by omega)]; exact h.b2, by rw [hb.block _ (by omega)]; exact h.b3, by rw [hb.block _ (by omega)]; exact h.b4, by rw [hb.block _ (by omega)]; exact h.b5⟩
theorem arr_cell {w : World} {b : Nat} {f : Nat → Value} {t : TypeId} (h : w.heap[b]? = some (.cells (arr f) t (0, 0))) (j : Nat) (hj : j < 10) : w.cell? ⟨b, j, none⟩ = some (f j) := by
  rw [cell_of_row w b j _ t (0, 0) h]; exact arr_at f j hj
theorem Wr.below {w w' : World} {p B : Nat} (h : Wr w w' p) (hp : B ≤ p) (hB : B ≤ w.heap.size) : Below B w w' :=
  ⟨h.os, h.tape, h.output, h.size, fun k hk => h.block k (by omega) (by omega)⟩
theorem arr_range {w : World} {b : Nat} {f : Nat → Value} {t : TypeId} (h : w.heap[b]? = some (.cells (arr f) t (0, 0))) : w.rangeAt b 0 ((List.range 10).map f) := by
  intro j v hv
  have hj : j < 10 := by simpa using (List.getElem?_eq_some_iff.1 hv).1
  have : v = f j := by simp [hj] at hv; exact hv.symm
  rw [this, Nat.zero_add]; exact arr_cell h j hj
def boxed (w : World) (I : Inp) : World :=
  ((((((w.alloc (.cells (arr fun j => .int .i64 (I.sl j)) 33)).alloc (.cells (arr fun j => .int .i64 (I.rq j)) 33)).alloc (.cells (arr fun j => .int .i64 (I.er j)) 33)).alloc (.cells (arr fun j => .bool (I.has j)) 34)).alloc (.cells (arr fun j => .int .i64 (I.stt j)) 35)).alloc (.cells (arr fun j => .int .i64 (I.cnt j)) 33))
theorem boxed_size (w : World) (I : Inp) : (boxed w I).heap.size = w.heap.size + 6 := by simp [boxed]
theorem alloc_at (w : World) (o : Obj) (n : Nat) (h : w.heap.size = n) : (w.alloc o).heap[n]? = some o := by rw [← h]; exact heap_alloc_new w o
theorem boxed_box (w : World) (I : Inp) : Box (boxed w I) w.heap.size I := by
  refine ⟨?_, ?_, ?_, ?_, ?_, ?_⟩
  · unfold boxed; rw [Below.heap_alloc _ _ _ (by simp <;> omega), Below.heap_alloc _ _ _ (by simp <;> omega), Below.heap_alloc _ _ _ (by simp <;> omega), Below.heap_alloc _ _ _ (by simp <;> omega), Below.heap_alloc _ _ _ (by simp)]; exact alloc_at _ _ _ rfl
  · unfold boxed; rw [Below.heap_alloc _ _ _ (by simp <;> omega), Below.heap_alloc _ _ _ (by simp <;> omega), Below.heap_alloc _ _ _ (by simp <;> omega), Below.heap_alloc _ _ _ (by simp)]; exact alloc_at _ _ _ (by simp)
  · unfold boxed; rw [Below.heap_alloc _ _ _ (by simp <;> omega), Below.heap_alloc _ _ _ (by simp <;> omega), Below.heap_alloc _ _ _ (by simp)]; exact alloc_at _ _ _ (by simp)
  · unfold boxed; rw [Below.heap_alloc _ _ _ (by simp <;> omega), Below.heap_alloc _ _ _ (by simp)]; exact alloc_at _ _ _ (by simp)
  · unfold boxed; rw [Below.heap_alloc _ _ _ (by simp)]; exact alloc_at _ _ _ (by simp)
  · unfold boxed; exact alloc_at _ _ _ (by simp)
theorem boxed_below (w : World) (I : Inp) : Below w.heap.size w (boxed w I) := by
  unfold boxed
  exact ((((((Below.refl _ _).alloc (Nat.le_refl _) _).alloc (by simp) _).alloc (by simp; omega) _).alloc (by simp; omega) _).alloc (by simp; omega) _).alloc (by simp; omega) _
end Go.Proofs.Qxb6608868a.st
