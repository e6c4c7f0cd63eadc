/-
  countStatus (30): what its steps do to the world; no walk in this text.
-/
import Derived.Test.Qxb6608868aProg
import Derived.Test.Qxb6608868aSt
import Derived.Test.Qxb6608868aCopy2
import Derived.WalkKit
import Derived.Below
import Derived.Deep.AppendLies
import Derived.Deep.MidRow
namespace Go.Proofs.Qxb6608868a.st
open Go.RowKit

/-- What countStatus leaves: the tally's slice (at offset o + 2 of block p) holds ys; all else is as it was, but for the slice's own row and new blocks. -/
structure Cnt (w w' : World) (base p o : Nat) (T : TypeId) (cur : Array Value) (v v' : Value) (ys : SL) : Prop where
  os : w'.os = w.os
  tape : w'.tape = w.tape
  output : w'.output = w.output
  size : w.heap.size ≤ w'.heap.size
  blk : w'.heap[p]? = some (.cells (cur.setIfInBounds (o + 2) v') T (0, 0))
  own : w'.ownsRow base 71 2 v' ys.length (cellsOf ys)
  block : ∀ k, k < w.heap.size → k ≠ p → some k ≠ v.ownBlock → w'.heap[k]? = w.heap[k]?
  row : v'.ownBlock = v.ownBlock ∨ ∃ g, w.heap.size ≤ g ∧ v'.ownBlock = some g

/-- What it is handed. -/
structure Tal (w : World) (base p o : Nat) (T : TypeId) (cur : Array Value) (v : Value) (xs : SL) : Prop where
  blk : w.heap[p]? = some (.cells cur T (0, 0))
  val : cur[o + 2]? = some v
  hT : T ≠ 71
  own : w.ownsRow base 71 2 v xs.length (cellsOf xs)
  hbase : base ≤ w.heap.size

theorem info71 : (Try.prog.info? 71).map (fun i => (i.zero, i.size, i.bytes)) = some (some (.agg #[.int .i64 0, .int .i64 0]), 2, 16) := by kernel_rfl
theorem size71 : (Try.prog.info? 71).map (·.size) = some 2 := by kernel_rfl

theorem slice_from (g len cap l : Nat) (i : Int) (hi : i = (l : Int)) (h1 : l ≤ len) (h2 : l < cap) (w : World) :
    (Instr.slice 61 (.slice (some ⟨g, 0, none⟩) len cap) (some (.int .i64 i)) none none).run Try.prog w = .ok (.slice (some ⟨g, l * 2, none⟩) (len - l) (cap - l)) w := by
  subst hi
  rw [run_slice_l (P := Try.prog) (w := w) 61 (some ⟨g, 0, none⟩) len cap Try.underlying61 .i64 (l : Int) (by omega) (by omega)]
  have hs : (sizeOf (Try.prog.elem 61)).run Try.prog w = .ok 2 w := Try.sizeOf71 w
  rw [hs]
  simp only [Result.andThen, sliced, Int.toNat_natCast]
  rw [if_neg (by omega), Option.map_some, Addr.add_mid, Nat.zero_add]
theorem slice_end (g len : Nat) (i : Int) (hi : i = (len : Int)) (w : World) :
    (Instr.slice 61 (.slice (some ⟨g, 0, none⟩) len len) (some (.int .i64 i)) none none).run Try.prog w = .ok (.slice (some ⟨g, 0, none⟩) 0 0) w := by
  subst hi
  rw [run_slice_l (P := Try.prog) (w := w) 61 (some ⟨g, 0, none⟩) len len Try.underlying61 .i64 (len : Int) (by omega) (by omega)]
  have hs : (sizeOf (Try.prog.elem 61)).run Try.prog w = .ok 2 w := Try.sizeOf71 w
  rw [hs]
  simp [Result.andThen, sliced]

theorem Tal.ne {w : World} {base p o : Nat} {T : TypeId} {cur : Array Value} {v : Value} {xs : SL} (h : Tal w base p o T cur v xs) : some p ≠ v.ownBlock := by
  intro hp
  rcases h.own.2 with ⟨rfl, _⟩ | ⟨g, cap, c, rfl, _, hg, _⟩
  · simp [Value.ownBlock] at hp
  · simp [Value.ownBlock] at hp
    subst hp
    have := h.blk.symm.trans hg
    simp at this
    exact h.hT this.2
theorem Tal.lt {w : World} {base p o : Nat} {T : TypeId} {cur : Array Value} {v : Value} {xs : SL} (h : Tal w base p o T cur v xs) : p < w.heap.size := lt_of_block h.blk
theorem Tal.cell {w : World} {base p o : Nat} {T : TypeId} {cur : Array Value} {v : Value} {xs : SL} (h : Tal w base p o T cur v xs) : w.cell? ⟨p, o + 2, none⟩ = some v := by
  rw [cell_of_row w p (o + 2) cur T (0, 0) h.blk]; exact h.val

/-- Behind the append and the store of the new slice. -/
structure Mid (w W : World) (base p o : Nat) (T : TypeId) (cur : Array Value) (v : Value) (xs : SL) (g cap : Nat) (L : List Value) : Prop where
  os : W.os = w.os
  tape : W.tape = w.tape
  output : W.output = w.output
  size : w.heap.size ≤ W.heap.size
  blk : W.heap[p]? = some (.cells (cur.setIfInBounds (o + 2) (.slice (some ⟨g, 0, none⟩) (xs.length + 1) cap)) T (0, 0))
  hbase : base ≤ g
  hcap : xs.length + 1 ≤ cap
  hcapm : cap ≤ maxLen
  rowb : W.heap[g]? = some (.cells L.toArray 71 (0, 0))
  len : L.length = cap * 2
  take : L.take ((xs.length + 1) * 2) = cellsOf (xs ++ [(0, 0)])
  block : ∀ k, k < w.heap.size → k ≠ p → some k ≠ v.ownBlock → W.heap[k]? = w.heap[k]?
  row : v.ownBlock = some g ∨ w.heap.size ≤ g
  pg : p ≠ g

theorem Tal.mid {w w1 : World} {base p o g cap : Nat} {T : TypeId} {cur : Array Value} {v : Value} {xs : SL} {O : Obj} (h : Tal w base p o T cur v xs)
    (hown : w1.ownsRow base 71 2 (.slice (some ⟨g, 0, none⟩) (xs.length + 1) cap) (xs.length + 1) (cellsOf xs ++ [.int .i64 0, .int .i64 0]))
    (hgrow : (w.alloc O).grownBy w1 v.ownBlock) (hat : v.ownBlock = some g ∨ g = w.heap.size + 1) :
    ∃ L, Mid w (w1.setCell ⟨p, o + 2, none⟩ (.slice (some ⟨g, 0, none⟩) (xs.length + 1) cap)) base p o T cur v xs g cap L := by
  have hs : (w.alloc O).heap.size = w.heap.size + 1 := by simp
  have hp := h.lt
  have hp1 : w1.heap[p]? = some (.cells cur T (0, 0)) := by
    rw [hgrow.block p (by omega) h.ne, Below.heap_alloc w O p hp]; exact h.blk
  have hpg : p ≠ g := by
    rintro rfl
    rcases hat with hat | hat
    · exact h.ne hat.symm
    · omega
  rcases hown.2 with ⟨h', _⟩ | ⟨g', cap', c, h', hb, hg, h4, h5, h6, h7⟩
  · simp at h'
  · simp only [Value.slice.injEq, Option.some.injEq, Addr.mk.injEq, and_true, true_and] at h'
    obtain ⟨rfl, rfl⟩ := h'
    refine ⟨c.toList, ⟨hgrow.os, hgrow.tape, hgrow.output, ?_, ?_, hb, h4, h5, ?_, by simpa using h6, ?_, fun k hk hkp hkv => ?_, ?_, hpg⟩⟩
    · have := hgrow.size; simp [World.setCell]; omega
    · rw [setCell_eq_setRow w1 p (o + 2) cur T (0, 0) _ hp1]
      exact setRow_heap w1 p cur _ T (0, 0) hp1
    · rw [Below.heap_setCell _ _ _ _ (Ne.symm hpg)]; simpa using hg
    · rw [h7, cellsOf_append]; rfl
    · rw [Below.heap_setCell _ _ _ _ hkp, hgrow.block k (by omega) hkv, Below.heap_alloc w O k hk]
    · rcases hat with hat | hat
      · exact .inl hat
      · right; omega

theorem take_two (L : List Value) (xs : SL) (k : Nat) (hk : k ≤ xs.length) (hl : (xs.length + 1) * 2 ≤ L.length) (hL : L.take ((xs.length + 1) * 2) = cellsOf (xs ++ [(0, 0)])) :
    ∃ a b, L.take ((k + 1) * 2) = cellsOf (xs.take k) ++ [a, b] := by
  have h1 : L.take (k * 2) = cellsOf (xs.take k) := by
    have : L.take (k * 2) = (L.take ((xs.length + 1) * 2)).take (k * 2) := by rw [List.take_take]; congr 1; omega
    rw [this, hL, cellsOf_take, List.take_append_of_le_length hk]
  refine ⟨L[k * 2]'(by omega), L[k * 2 + 1]'(by omega), ?_⟩
  rw [show (k + 1) * 2 = k * 2 + 1 + 1 by omega, List.take_succ_eq_append_getElem (by omega), List.take_succ_eq_append_getElem (by omega), h1]
  simp

/-- The row at the end: all before the place, the new entry, all from the place on. -/
theorem row_final (L : List Value) (xs : SL) (k : Nat) (hk : k ≤ xs.length) (hl : (xs.length + 1) * 2 ≤ L.length) (hL : L.take ((xs.length + 1) * 2) = cellsOf (xs ++ [(0, 0)])) (u u' : Value) :
    (((L.take ((k + 1) * 2) ++ cellsOf (xs.drop k) ++ L.drop ((k + 1) * 2 + (cellsOf (xs.drop k)).length)).set (k * 2) u).set (k * 2 + 1) u').take ((xs.length + 1) * 2) = cellsOf (xs.take k) ++ [u, u'] ++ cellsOf (xs.drop k) := by
  obtain ⟨a, b, hab⟩ := take_two L xs k hk hl hL
  rw [hab]
  have hA : (cellsOf (xs.take k)).length = k * 2 := by rw [length_cellsOf]; simp; omega
  have hB : (cellsOf (xs.drop k)).length = (xs.length - k) * 2 := by rw [length_cellsOf]; simp
  generalize cellsOf (xs.take k) = A at *
  generalize cellsOf (xs.drop k) = B at *
  generalize L.drop ((k + 1) * 2 + B.length) = R
  have e : ((A ++ [a, b] ++ B ++ R).set (k * 2) u).set (k * 2 + 1) u' = (A ++ [u, u'] ++ B) ++ R := by
    rw [← hA]
    simp
  rw [e, List.take_append_of_le_length (by simp; omega), List.take_of_length_le (by simp; omega)]

/-- An entry's count raised in its place. -/
theorem Tal.found {w : World} {base p o g cap : Nat} {T : TypeId} {cur : Array Value} {xs : SL} (h : Tal w base p o T cur (.slice (some ⟨g, 0, none⟩) xs.length cap) xs) (k : Nat) (hk : k < xs.length) (n : Int) :
    Cnt w (w.setCell ⟨g, k * 2 + 1, none⟩ (.int .i64 (xs[k].2 + n))) base p o T cur (.slice (some ⟨g, 0, none⟩) xs.length cap) (.slice (some ⟨g, 0, none⟩) xs.length cap) (xs.take k ++ (xs[k].1, xs[k].2 + n) :: xs.drop (k + 1)) := by
  have hne : some p ≠ some g := h.ne
  have hpg : p ≠ g := fun e => hne (by rw [e])
  rcases h.own.2 with ⟨h', _⟩ | ⟨g', cap', c, h', hb, hg, h4, h5, h6, h7⟩
  · simp at h'
  simp only [Value.slice.injEq, Option.some.injEq, Addr.mk.injEq, and_true, true_and] at h'
  obtain ⟨rfl, rfl⟩ := h'
  have hxl : (xs.take k ++ (xs[k].1, xs[k].2 + n) :: xs.drop (k + 1)).length = xs.length := by simp; omega
  rw [setCell_eq_setRow w g (k * 2 + 1) c 71 (0, 0) _ hg]
  refine ⟨rfl, rfl, rfl, by simp, ?_, ?_, fun j hj hjp hjv => ?_, .inl rfl⟩
  · rw [setRow_other _ _ _ _ hpg, h.blk]
    congr 2
    obtain ⟨hlt, he⟩ := Array.getElem?_eq_some_iff.1 h.val
    apply Array.ext
    · simp
    · intro i h1 h2
      rw [Array.getElem_setIfInBounds h1]
      split
      · rename_i e; subst e; exact he
      · rfl
  · refine ⟨length_cellsOf _, .inr ⟨g, cap, _, by rw [hxl], hb, setRow_heap w g _ _ 71 (0, 0) hg, by rw [hxl]; exact h4, h5, by simpa using h6, ?_⟩⟩
    rw [hxl, Array.toList_setIfInBounds, List.take_set, h7]
    have e : cellsOf xs = cellsOf (xs.take k) ++ [.int .i64 xs[k].1, .int .i64 xs[k].2] ++ cellsOf (xs.drop (k + 1)) := by
      conv => lhs; rw [← List.take_append_drop k xs, List.drop_eq_getElem_cons hk]
      rw [cellsOf_append, cellsOf_cons]; simp
    have hA : (cellsOf (xs.take k)).length = k * 2 := by rw [length_cellsOf]; simp; omega
    rw [e, cellsOf_append, cellsOf_cons]
    generalize cellsOf (xs.take k) = A at *
    generalize cellsOf (xs.drop (k + 1)) = B at *
    rw [← hA]
    simp
  · have hjg : j ≠ g := fun e => hjv (by rw [e]; rfl)
    rw [setRow_other _ _ _ _ hjg]

/-- The new value's cell may be read and the row's cells may be written; what the copy does; what the last store leaves. -/
theorem Mid.ins {w W : World} {base p o g cap : Nat} {T : TypeId} {cur : Array Value} {v : Value} {xs : SL} {L : List Value} (M : Mid w W base p o T cur v xs g cap L) (hval : (cur[o + 2]?).isSome = true) (k : Nat) (hk : k ≤ xs.length) (st n : Int) :
    ∃ W3, (k < xs.length → (Builtin.copy_ #[61, 61] 3 #[.slice (some ⟨g, (k + 1) * 2, none⟩) (xs.length - k) (cap - (k + 1)), .slice (some ⟨g, k * 2, none⟩) (xs.length + 1 - k) (cap - k)]).run Try.prog W.drew = .ok (.int .i64 ((xs.length - k : Nat) : Int)) W3) ∧
      (k = xs.length → W3 = W.drew) ∧
      W3.cell? ⟨p, o + 2, none⟩ = some (.slice (some ⟨g, 0, none⟩) (xs.length + 1) cap) ∧
      (∃ u, W3.cell? ⟨g, k * 2, none⟩ = some u) ∧ (∃ u, W3.cell? ⟨g, k * 2 + 1, none⟩ = some u) ∧ (∀ j, W3.frozen? ⟨g, j, none⟩ = false) ∧
      Cnt w ((W3.setCell ⟨g, k * 2, none⟩ (.int .i64 st)).setCell ⟨g, k * 2 + 1, none⟩ (.int .i64 n)) base p o T cur v (.slice (some ⟨g, 0, none⟩) (xs.length + 1) cap) (xs.take k ++ (st, n) :: xs.drop k) := by
  have hl : (xs.length + 1) * 2 ≤ L.length := by have := M.len; have := M.hcap; omega
  have hB : (cellsOf (xs.drop k)).length = (xs.length - k) * 2 := by rw [length_cellsOf]; simp
  obtain ⟨L3, hL3⟩ : ∃ L3, L3 = L.take ((k + 1) * 2) ++ cellsOf (xs.drop k) ++ L.drop ((k + 1) * 2 + (cellsOf (xs.drop k)).length) := ⟨_, rfl⟩
  have hlen3 : L3.length = cap * 2 := by rw [hL3]; have := M.len; simp [hB]; omega
  have hrow : (W.drew.setRow g L3.toArray).heap[g]? = some (.cells L3.toArray 71 (0, 0)) := setRow_heap W.drew g _ _ 71 (0, 0) M.rowb
  have hp3 : (W.drew.setRow g L3.toArray).heap[p]? = W.heap[p]? := setRow_other W.drew g p _ M.pg
  refine ⟨W.drew.setRow g L3.toArray, fun hlt => ?_, fun he => ?_, ?_, ?_, ?_, ?_, ?_⟩
  · have hrun := run_copy_rowK (P := Try.prog) W.drew 61 61 3 71 2 g ((k + 1) * 2) (xs.length - k) (cap - (k + 1)) ⟨g, k * 2, none⟩ (xs.length + 1 - k) (cap - k) L.toArray 71 (cellsOf (xs.drop k))
      Try.underlying61 size71 M.rowb (by rw [hB]; congr 1; show _ = min _ _; omega) (fun j u hj => ?_) (by simp [hB]; omega) (cellsOf_one _)
    · rw [hL3]
      have em : Nat.min (xs.length + 1 - k) (xs.length - k) = xs.length - k := by show min _ _ = _; omega
      rw [em] at hrun
      exact hrun
    · have hj' : j < (xs.length - k) * 2 := by rw [← hB]; exact (List.getElem?_eq_some_iff.1 hj).1
      rw [Addr.add_mid, cell_of_row W.drew g (k * 2 + j) L.toArray 71 (0, 0) M.rowb]
      have e1 : L[k * 2 + j]? = (L.take ((xs.length + 1) * 2))[k * 2 + j]? := by rw [List.getElem?_take, if_pos (by omega)]
      have e2 : (cellsOf (xs ++ [(0, 0)]))[k * 2 + j]? = (cellsOf xs)[k * 2 + j]? := by rw [cellsOf_append, List.getElem?_append_left (by rw [length_cellsOf]; omega)]
      simp only [List.getElem?_toArray]
      rw [e1, M.take, e2, ← List.getElem?_drop, cellsOf_drop]
      exact hj
  · subst he
    have e0 : L3 = L := by rw [hL3]; simp [cellsOf]
    rw [e0]
    exact setRow_self W.drew g _ 71 (0, 0) M.rowb
  · rw [cell_of_row _ p (o + 2) _ T (0, 0) (hp3.trans M.blk)]
    obtain ⟨u, hu⟩ := Option.isSome_iff_exists.1 hval
    have := (Array.getElem?_eq_some_iff.1 hu).1
    simp [this]
  · exact ⟨L3[k * 2]'(by have := M.hcap; omega), by rw [cell_of_row _ g (k * 2) _ 71 (0, 0) hrow]; simp⟩
  · exact ⟨L3[k * 2 + 1]'(by have := M.hcap; omega), by rw [cell_of_row _ g (k * 2 + 1) _ 71 (0, 0) hrow]; simp⟩
  · intro j; simp [World.frozen?, hrow]
  · have hoth : ∀ j, j ≠ g → (W.drew.setRow g L3.toArray).heap[j]? = W.heap[j]? := fun j hj => setRow_other W.drew g j _ hj
    have hsz : (W.drew.setRow g L3.toArray).heap.size = W.heap.size := by simp
    have ho : (W.drew.setRow g L3.toArray).os = w.os ∧ (W.drew.setRow g L3.toArray).tape = w.tape ∧ (W.drew.setRow g L3.toArray).output = w.output := ⟨M.os, M.tape, M.output⟩
    generalize W.drew.setRow g L3.toArray = W3 at *
    have e1 : W3.setCell ⟨g, k * 2, none⟩ (.int .i64 st) = W3.setRow g (L3.set (k * 2) (.int .i64 st)).toArray := by
      rw [setCell_eq_setRow W3 g (k * 2) L3.toArray 71 (0, 0) _ hrow]; simp
    have hrow1 := setRow_heap W3 g _ (L3.set (k * 2) (.int .i64 st)).toArray 71 (0, 0) hrow
    have e2 : (W3.setRow g (L3.set (k * 2) (.int .i64 st)).toArray).setCell ⟨g, k * 2 + 1, none⟩ (.int .i64 n) = W3.setRow g ((L3.set (k * 2) (.int .i64 st)).set (k * 2 + 1) (.int .i64 n)).toArray := by
      rw [setCell_eq_setRow _ g (k * 2 + 1) _ 71 (0, 0) _ hrow1, setRow_setRow]; simp
    rw [e1, e2]
    have hrow2 := setRow_heap W3 g _ ((L3.set (k * 2) (.int .i64 st)).set (k * 2 + 1) (.int .i64 n)).toArray 71 (0, 0) hrow
    have hfin := row_final L xs k hk hl M.take (.int .i64 st) (.int .i64 n)
    rw [← hL3] at hfin
    have hxl : (xs.take k ++ (st, n) :: xs.drop k).length = xs.length + 1 := by simp; omega
    refine ⟨ho.1, ho.2.1, ho.2.2, ?_, ?_, ?_, fun j hj hjp hjv => ?_, ?_⟩
    · have := M.size; simp; omega
    · rw [setRow_other _ _ _ _ M.pg, hp3]; exact M.blk
    · refine ⟨length_cellsOf _, .inr ⟨g, cap, _, by rw [hxl], M.hbase, hrow2, by rw [hxl]; exact M.hcap, M.hcapm, by simp [hlen3], ?_⟩⟩
      rw [hxl, cellsOf_append, cellsOf_cons]
      simpa using hfin
    · have hjg : j ≠ g := by
        rintro rfl
        rcases M.row with h | h
        · exact hjv h.symm
        · omega
      rw [setRow_other _ _ _ _ hjg, hoth j hjg]
      exact M.block j hj hjp hjv
    · rcases M.row with h | h
      · left; rw [h]; rfl
      · right; exact ⟨g, h, rfl⟩
end Go.Proofs.Qxb6608868a.st
