/-
  The checker: what it holds, and the contracts of ZZnewChecker (9), ZZcheckerAdd (10), ZZcheckerLen (11), ZZcheckerProblem (12).
-/
import Derived.Test.Qxb6613596aProg
import Derived.WalkKit
import Derived.Below
import Derived.Deep.AppendLies
import Derived.Deep.Draws
import Derived.Deep.QuietTactic
import Derived.BigQuiet
namespace Go.Proofs.Qxb6613596a.chk
open Go.RowKit

abbrev Rec := Int × ByteArray
/-- The cells of a row of problems. -/
def cellsOf (xs : List Rec) : List Value := xs.flatMap fun x => [.int .i64 x.1, .string x.2]
theorem cellsOf_append (xs ys : List Rec) : cellsOf (xs ++ ys) = cellsOf xs ++ cellsOf ys := by simp [cellsOf]
theorem length_cellsOf (xs : List Rec) : (cellsOf xs).length = xs.length * 2 := by
  induction xs with
  | nil => rfl
  | cons a r ih => simp [cellsOf] at ih ⊢; omega

theorem cellsOf_at : ∀ (xs : List Rec) (i : Nat) (hi : i < xs.length), (cellsOf xs)[i * 2]? = some (.int .i64 (xs[i].1)) ∧ (cellsOf xs)[i * 2 + 1]? = some (.string (xs[i].2))
  | a :: r, 0, _ => by simp [cellsOf]
  | a :: r, i + 1, hi => by
    have ih := cellsOf_at r i (by simpa using hi)
    have e : cellsOf (a :: r) = [.int .i64 a.1, .string a.2] ++ cellsOf r := by simp [cellsOf]
    rw [e, List.getElem?_append_right (by simp; omega), List.getElem?_append_right (by simp; omega)]
    simp only [List.length_cons, List.length_nil, List.getElem_cons_succ]
    rw [show (i + 1) * 2 - (0 + 1 + 1) = i * 2 by omega, show (i + 1) * 2 + 1 - (0 + 1 + 1) = i * 2 + 1 by omega]
    exact ih

/-- The checker at block p holds the problems xs; v: its slice. -/
def Chk (w : World) (base p : Nat) (v : Value) (xs : List Rec) : Prop :=
  w.heap[p]? = some (.cells #[v] 42 (0, 0)) ∧ w.ownsRow base 45 2 v xs.length (cellsOf xs)

/-- What an add does to the rest of the world: nothing but new blocks, the checker's own cell and its own row. -/
structure Upd (w w' : World) (p : Nat) (v v' : Value) : Prop where
  os : w'.os = w.os
  tape : w'.tape = w.tape
  output : w'.output = w.output
  size : w.heap.size ≤ w'.heap.size
  block : ∀ k, k < w.heap.size → k ≠ p → some k ≠ v.ownBlock → w'.heap[k]? = w.heap[k]?
  row : v'.ownBlock = v.ownBlock ∨ ∃ g, w.heap.size ≤ g ∧ v'.ownBlock = some g

theorem info45 : (Try.prog.info? 45).map (fun i => (i.zero, i.size, i.bytes)) = some (some (.agg #[.int .i64 0, .string ByteArray.empty]), 2, 24) := by kernel_rfl

set_option maxHeartbeats 400000 in
theorem new9 (w : World) : Calls Try.prog 9 #[] w fun e w' => e = .returned (.pointer (some ⟨w.heap.size, 0, none⟩)) ∧ w' = w.alloc (.cells #[.slice none 0 0] 42) := by
  go_enter Try.func9, Try.ntmps9
  go_wp2
  go_ret
  exact ⟨rfl, rfl⟩

set_option maxHeartbeats 400000 in
theorem len11 (w : World) (base p : Nat) (v : Value) (xs : List Rec) (h : Chk w base p v xs) : Calls Try.prog 11 #[.pointer (some ⟨p, 0, none⟩)] w fun e w' => e = .returned (.int .i64 xs.length) ∧ w' = w := by
  have hc : w.cell? ⟨p, 0, none⟩ = some v := by simp [World.cell?, h.1]
  rcases h.2.2 with ⟨hv, h0⟩ | ⟨g, cap, cur, hv, _⟩
  · rw [hv] at hc
    rw [h0]
    clear h hv h0
    go_enter Try.func11, Try.ntmps11
    go_wp2
    go_ret
    exact ⟨rfl, rfl⟩
  · rw [hv] at hc
    clear h hv
    go_enter Try.func11, Try.ntmps11
    go_wp2
    go_ret
    exact ⟨rfl, rfl⟩

theorem Chk.ne {w : World} {base p : Nat} {v : Value} {xs : List Rec} (h : Chk w base p v xs) : some p ≠ v.ownBlock := by
  intro hp
  rcases h.2.2 with ⟨rfl, _⟩ | ⟨g, cap, cur, rfl, _, hg, _⟩
  · simp [Value.ownBlock] at hp
  · simp [Value.ownBlock] at hp
    subst hp
    have := h.1.symm.trans hg
    simp at this

/-- Behind the append and the store. -/
theorem Chk.push {w w1 : World} {base p g cap : Nat} {v : Value} {xs : List Rec} {l : Int} {t : ByteArray} {O : Obj} (h : Chk w base p v xs)
    (hown : w1.ownsRow base 45 2 (.slice (some ⟨g, 0, none⟩) (xs.length + 1) cap) (xs.length + 1) (cellsOf xs ++ [.int .i64 l, .string t]))
    (hgrow : (w.alloc O).grownBy w1 v.ownBlock) (hat : v.ownBlock = some g ∨ g = w.heap.size + 1) :
    Chk (w1.setCell ⟨p, 0, none⟩ (.slice (some ⟨g, 0, none⟩) (xs.length + 1) cap)) base p (.slice (some ⟨g, 0, none⟩) (xs.length + 1) cap) (xs ++ [(l, t)]) ∧
      Upd w (w1.setCell ⟨p, 0, none⟩ (.slice (some ⟨g, 0, none⟩) (xs.length + 1) cap)) p v (.slice (some ⟨g, 0, none⟩) (xs.length + 1) cap) := by
  have hp := lt_of_block h.1
  have hs : (w.alloc O).heap.size = w.heap.size + 1 := by simp
  have hp1 : w1.heap[p]? = some (.cells #[v] 42 (0, 0)) := by
    rw [hgrow.block p (by omega) h.ne, Below.heap_alloc w O p hp]; exact h.1
  have hpg : p ≠ g := by
    rintro rfl
    rcases hat with hat | hat
    · exact h.ne hat.symm
    · omega
  refine ⟨⟨one_setCell hp1, ?_⟩, ⟨hgrow.os, hgrow.tape, hgrow.output, ?_, fun k hk hkp hkv => ?_, ?_⟩⟩
  · have e : cellsOf (xs ++ [(l, t)]) = cellsOf xs ++ [.int .i64 l, .string t] := cellsOf_append xs [(l, t)]
    rw [e, List.length_append]
    refine ownsRow_setCell_other hown ?_ _
    simp [Value.ownBlock]
    omega
  · have := hgrow.size
    simp [World.setCell]
    omega
  · rw [Below.heap_setCell _ _ _ _ hkp, hgrow.block k (by omega) hkv, Below.heap_alloc w O k hk]
  · rcases hat with hat | hat
    · left; rw [hat]; rfl
    · right; exact ⟨g, by omega, rfl⟩

set_option maxHeartbeats 1000000 in
theorem add16 (w : World) (base p : Nat) (v : Value) (xs : List Rec) (l : Int) (t : ByteArray) (h : Chk w base p v xs) (hb : base ≤ w.heap.size) (hn : xs.length ≤ 1000000) :
    Calls Try.prog 16 #[.pointer (some ⟨p, 0, none⟩), .int .i64 l, .string t] w fun e w' => e = .returned (.tuple #[]) ∧ ∃ v', Chk w' base p v' (xs ++ [(l, t)]) ∧ Upd w w' p v v' := by
  have hc : w.cell? ⟨p, 0, none⟩ = some v := by simp [World.cell?, h.1]
  obtain ⟨i0, hi, hz0, hz1, hz2⟩ := info_parts info45
  have H : Hid (Chk w base p v xs) := h
  have hp := lt_of_block h.1
  have HO : Hid (∀ O, (w.alloc O).ownsRow base 45 2 v xs.length (cellsOf xs)) := fun O => h.2.alloc O
  have HN : Hid (∀ T : TypeId, ∀ j u, ([.int .i64 l, .string t] : List Value)[j]? = some u → (w.alloc (.cells #[.int .i64 l, .string t] T)).cell? ((⟨w.heap.size, 0, none⟩ : Addr).add j) = some u) :=
    fun T => World.news_of_block (heap_alloc_new w _)
  have HP : Hid (∀ O w1, (w.alloc O).grownBy w1 v.ownBlock → w1.cell? ⟨p, 0, none⟩ = some v ∧ w1.frozen? ⟨p, 0, none⟩ = false) := fun O w1 hg => by
    have hp1 : w1.heap[p]? = some (.cells #[v] 42 (0, 0)) := by
      rw [hg.block p (by simp; omega) h.ne, Below.heap_alloc w O p hp]; exact h.1
    exact ⟨cell_of_one hp1, free_of_one hp1⟩
  clear h
  go_enter Try.func16, Try.ntmps16
  go_wp2_with (at_builtin; (refine wpList_append_lies _ (by rfl) (.tmp 10) (.tmp 14) 40 (by rfl) base 45 i0 (.agg #[.int .i64 0, .string ByteArray.empty]) 2 24 Try.underlying40 hi hz0 hz1 hz2 rfl (by omega) v xs.length (cellsOf xs) (by rfl) (HO.out _) ⟨w.heap.size, 0, none⟩ 1 1 [.int .i64 l, .string t] (by rfl) rfl (HN.out _) (by simp [Value.oneCell']) (by omega) (by unfold maxLen; omega) (by omega) (by simp; omega) (w.heap.size + 1) (by simp) ?_; intro g cap w1 hown1 hgrow hat hlt; obtain ⟨hc1, hf1⟩ := HP.out _ _ hgrow))
  go_end0
  exact ⟨rfl, _, H.out.push hown1 hgrow hat⟩

set_option maxHeartbeats 400000 in
theorem add10 (w : World) (base p : Nat) (v : Value) (xs : List Rec) (l : Int) (t : ByteArray) (h : Chk w base p v xs) (hb : base ≤ w.heap.size) (hn : xs.length ≤ 1000000) :
    Calls Try.prog 10 #[.pointer (some ⟨p, 0, none⟩), .int .i64 l, .string t] w fun e w' => e = .returned (.tuple #[]) ∧ ∃ v', Chk w' base p v' (xs ++ [(l, t)]) ∧ Upd w w' p v v' := by
  have H : Hid (Chk w base p v xs) := h
  clear h
  go_enter Try.func10, Try.ntmps10
  go_wp2_with fail
  refine (add16 w base p v xs l t H.out hb hn).mono ?_
  rintro e w1 ⟨rfl, v', h1, h2⟩
  have R : Hid (Chk w1 base p v' (xs ++ [(l, t)]) ∧ Upd w w1 p v v') := ⟨h1, h2⟩
  clear h1 h2
  go_wp2_with fail
  go_end0
  exact ⟨rfl, v', R.out⟩

theorem cells_at {w : World} {base p : Nat} {v : Value} {xs : List Rec} (h : Chk w base p v xs) {i : Nat} (hi : i < xs.length) :
    ∃ g cap, v = .slice (some ⟨g, 0, none⟩) xs.length cap ∧ g < w.heap.size ∧ w.cell? ⟨g, i * 2, none⟩ = some (.int .i64 (xs[i].1)) ∧ w.cell? ⟨g, i * 2 + 1, none⟩ = some (.string (xs[i].2)) := by
  obtain ⟨g, cap, rfl, hb, hlt⟩ := h.2.form (by omega)
  refine ⟨g, cap, rfl, hlt, ?_, ?_⟩
  · rw [h.2.cellAt (i * 2) (by omega)]; exact (cellsOf_at xs i hi).1
  · rw [h.2.cellAt (i * 2 + 1) (by omega)]; exact (cellsOf_at xs i hi).2

set_option maxHeartbeats 1000000 in
theorem problem12 (w : World) (base p : Nat) (v : Value) (xs : List Rec) (i : Nat) (hi : i < xs.length) (_hn : xs.length ≤ 1000000) (h : Chk w base p v xs) :
    Calls Try.prog 12 #[.pointer (some ⟨p, 0, none⟩), .int .i64 i] w fun e w' => e = .returned (.tuple #[.int .i64 (xs[i].1), .string (xs[i].2)]) ∧ Below w.heap.size w w' := by
  have hc : w.cell? ⟨p, 0, none⟩ = some v := by simp [World.cell?, h.1]
  obtain ⟨g, cap, rfl, hg, c1, c2⟩ := cells_at h hi
  generalize xs[i].1 = l at c1 ⊢
  generalize xs[i].2 = t at c2 ⊢
  generalize xs.length = n at *
  have i1 : (0 : Int) ≤ (i : Int) := by omega
  have i2 : (i : Int) < (n : Int) := by omega
  clear h
  go_enter Try.func12, Try.ntmps12
  go_wp2
  go_quiet (fail)
  go_wp2
  go_ret2
  exact ⟨rfl, ((Below.refl _ _).alloc (Nat.le_refl _) _).trans ⟨rfl, rfl, rfl, Nat.le_refl _, fun _ _ => rfl⟩⟩
end Go.Proofs.Qxb6613596a.chk
