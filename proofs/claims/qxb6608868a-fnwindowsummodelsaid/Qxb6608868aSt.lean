/-
  Status lists: what countStatus does to one, in plain words. No program in this text.
-/
import Derived.Laws.CopyRow
import Derived.Below
namespace Go.Proofs.Qxb6608868a.st

abbrev SL := List (Int × Int)

/-- One status counted: into its entry, or as a new entry ahead of the first that is not less. -/
def ins (st n : Int) : SL → SL
  | [] => [(st, n)]
  | (s, c) :: r => if s < st then (s, c) :: ins st n r else if s = st then (s, c + n) :: r else (st, n) :: (s, c) :: r

/-- The cells of a row of entries. -/
def cellsOf (xs : SL) : List Value := xs.flatMap fun x => [.int .i64 x.1, .int .i64 x.2]
theorem cellsOf_append (xs ys : SL) : cellsOf (xs ++ ys) = cellsOf xs ++ cellsOf ys := by simp [cellsOf]
theorem cellsOf_cons (x : Int × Int) (xs : SL) : cellsOf (x :: xs) = .int .i64 x.1 :: .int .i64 x.2 :: cellsOf xs := by simp [cellsOf]
theorem length_cellsOf (xs : SL) : (cellsOf xs).length = xs.length * 2 := by
  induction xs with
  | nil => rfl
  | cons a r ih => simp [cellsOf] at ih ⊢; omega
theorem cellsOf_at : ∀ (xs : SL) (i : Nat) (hi : i < xs.length), (cellsOf xs)[i * 2]? = some (.int .i64 (xs[i].1)) ∧ (cellsOf xs)[i * 2 + 1]? = some (.int .i64 (xs[i].2))
  | a :: r, 0, _ => by simp [cellsOf]
  | a :: r, i + 1, hi => by
    have ih := cellsOf_at r i (by simpa using hi)
    rw [cellsOf_cons, show (i + 1) * 2 = i * 2 + 1 + 1 by omega]
    simpa using ih
theorem cellsOf_one (xs : SL) : ∀ v ∈ cellsOf xs, v.oneCell' = true := by
  intro v hv
  obtain ⟨x, _, hx⟩ := List.mem_flatMap.1 hv
  rcases List.mem_cons.1 hx with rfl | hx
  · rfl
  · rcases List.mem_cons.1 hx with rfl | hx
    · rfl
    · cases hx
theorem cellsOf_take : ∀ (xs : SL) (k : Nat), (cellsOf xs).take (k * 2) = cellsOf (xs.take k)
  | [], k => by simp [cellsOf]
  | a :: r, 0 => by simp [cellsOf]
  | a :: r, k + 1 => by
    rw [cellsOf_cons, List.take_succ_cons, cellsOf_cons, show (k + 1) * 2 = k * 2 + 1 + 1 by omega, List.take_succ_cons, List.take_succ_cons, cellsOf_take r k]
theorem cellsOf_drop : ∀ (xs : SL) (k : Nat), (cellsOf xs).drop (k * 2) = cellsOf (xs.drop k)
  | [], k => by simp [cellsOf]
  | a :: r, 0 => by simp [cellsOf]
  | a :: r, k + 1 => by
    rw [cellsOf_cons, List.drop_succ_cons, show (k + 1) * 2 = k * 2 + 1 + 1 by omega, List.drop_succ_cons, List.drop_succ_cons, cellsOf_drop r k]

/-- The place where the entry is or goes: all before it are less. -/
theorem ins_at : ∀ (xs : SL) (st n : Int) (k : Nat), k ≤ xs.length → (∀ i (h : i < xs.length), i < k → xs[i].1 < st) → (∀ h : k < xs.length, ¬ xs[k].1 < st) →
    ins st n xs = if h : k < xs.length then (if xs[k].1 = st then xs.take k ++ (xs[k].1, xs[k].2 + n) :: xs.drop (k + 1) else xs.take k ++ (st, n) :: xs.drop k) else xs ++ [(st, n)]
  | [], st, n, k, hk, _, _ => by
    have : k = 0 := by simpa using hk
    subst this; simp [ins]
  | (s, c) :: r, st, n, 0, _, _, h2 => by
    have h := h2 (by simp)
    simp only [List.getElem_cons_zero] at h
    by_cases e : s = st
    · subst e; simp [ins]
    · simp [ins, h, e]
  | (s, c) :: r, st, n, k + 1, hk, h1, h2 => by
    have h := h1 0 (by simp) (by omega)
    simp only [List.getElem_cons_zero] at h
    have ih := ins_at r st n k (by simpa using hk) (fun i hi hik => h1 (i + 1) (by simpa using hi) (by omega)) (fun hlt => h2 (by simpa using hlt))
    by_cases hlt : k < r.length
    · have hlt' : k + 1 < ((s, c) :: r).length := by simpa using hlt
      rw [dif_pos hlt] at ih
      rw [dif_pos hlt', ins, if_pos h, ih]
      simp only [List.getElem_cons_succ, List.take_succ_cons, List.drop_succ_cons]
      split <;> simp
    · have hlt' : ¬ k + 1 < ((s, c) :: r).length := by simpa using hlt
      rw [dif_neg hlt] at ih
      rw [dif_neg hlt', ins, if_pos h, ih]
      simp
end Go.Proofs.Qxb6608868a.st
