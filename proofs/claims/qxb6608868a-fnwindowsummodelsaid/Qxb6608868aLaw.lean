/-
  The plain law: what a sum over ten buckets holds. No program in this text.
-/
import Derived.Test.Qxb6608868aSum
namespace Go.Proofs.Qxb6608868a.st

/-- Keys rise. -/
def Srt (xs : SL) : Prop := xs.Pairwise fun a b => a.1 < b.1
def key (xs : SL) (s : Int) : Prop := ∃ x ∈ xs, x.1 = s
/-- The count under a key. -/
def tot (s : Int) : SL → Int
  | [] => 0
  | x :: r => (if x.1 = s then x.2 else 0) + tot s r

theorem key_nil (s : Int) : ¬ key [] s := by rintro ⟨x, hx, _⟩; cases hx
theorem key_cons (a : Int × Int) (r : SL) (s : Int) : key (a :: r) s ↔ a.1 = s ∨ key r s := by simp [key]

theorem key_ins (st n s : Int) : ∀ xs : SL, key (ins st n xs) s ↔ s = st ∨ key xs s
  | [] => by simp [ins, key, eq_comm]
  | (a, c) :: r => by
    have ih := key_ins st n s r
    unfold ins
    split
    · rw [key_cons, key_cons, ih]; constructor
      · rintro (h | h | h)
        · exact .inr (.inl h)
        · exact .inl h
        · exact .inr (.inr h)
      · rintro (h | h | h)
        · exact .inr (.inl h)
        · exact .inl h
        · exact .inr (.inr h)
    · split
      · rename_i h1 h2
        rw [key_cons, key_cons]; subst h2; simp only []
        constructor
        · rintro (h | h) <;> simp [h]
        · rintro (h | h | h) <;> simp [h]
      · rw [key_cons, key_cons]; simp only []; constructor
        · rintro (h | h | h) <;> simp [h]
        · rintro (h | h | h) <;> simp [h]

theorem srt_cons (a : Int × Int) (r : SL) : Srt (a :: r) ↔ (∀ s, key r s → a.1 < s) ∧ Srt r := by
  unfold Srt key
  rw [List.pairwise_cons]
  constructor
  · rintro ⟨h, h'⟩; exact ⟨by rintro s ⟨x, hx, rfl⟩; exact h x hx, h'⟩
  · rintro ⟨h, h'⟩; exact ⟨fun x hx => h _ ⟨x, hx, rfl⟩, h'⟩

theorem srt_ins (st n : Int) : ∀ xs : SL, Srt xs → Srt (ins st n xs)
  | [], _ => by unfold ins Srt; simp
  | (a, c) :: r, h => by
    have h' := (srt_cons _ _).1 h
    have ih := srt_ins st n r h'.2
    unfold ins
    split
    · rename_i h1
      refine (srt_cons _ _).2 ⟨fun s hs => ?_, ih⟩
      rcases (key_ins st n s r).1 hs with rfl | hs
      · exact h1
      · exact h'.1 s hs
    · split
      · exact (srt_cons _ _).2 ⟨h'.1, h'.2⟩
      · rename_i h1 h2
        refine (srt_cons _ _).2 ⟨fun s hs => ?_, h⟩
        have : st < a := by omega
        rcases (key_cons _ _ _).1 hs with hs | hs
        · show st < s; have : a = s := hs; omega
        · have := h'.1 s hs; show st < s; have : a < s := this; omega

theorem tot_none (s : Int) : ∀ xs : SL, ¬ key xs s → tot s xs = 0
  | [], _ => rfl
  | a :: r, h => by
    rw [key_cons] at h
    rw [tot, if_neg (fun e => h (.inl e)), tot_none s r (fun e => h (.inr e))]; rfl

theorem tot_ins (st n s : Int) : ∀ xs : SL, tot s (ins st n xs) = tot s xs + if s = st then n else 0
  | [] => by
    by_cases e : s = st
    · simp [ins, tot, e]
    · have e' : ¬ st = s := fun h => e h.symm
      simp [ins, tot, e, e']
  | (a, c) :: r => by
    have ih := tot_ins st n s r
    unfold ins
    split
    · simp only [tot, ih]; omega
    · split
      · rename_i h1 h2
        subst h2
        simp only [tot]
        by_cases e : a = s
        · rw [if_pos e, if_pos e, if_pos e.symm]; omega
        · rw [if_neg e, if_neg e, if_neg (fun h => e h.symm)]; omega
      · simp only [tot]
        by_cases e : st = s
        · rw [if_pos e, if_pos e.symm]; omega
        · rw [if_neg e, if_neg (fun h : s = st => e h.symm)]; omega

theorem len_ins (st n : Int) : ∀ xs : SL, Srt xs → (key xs st → (ins st n xs).length = xs.length) ∧ (¬ key xs st → (ins st n xs).length = xs.length + 1)
  | [], _ => ⟨fun h => absurd h (key_nil st), fun _ => by simp [ins]⟩
  | (a, c) :: r, h => by
    have h' := (srt_cons _ _).1 h
    have ih := len_ins st n r h'.2
    unfold ins
    split
    · rename_i h1
      constructor
      · intro hk
        rcases (key_cons _ _ _).1 hk with e | e
        · have : a = st := e; omega
        · simp [ih.1 e]
      · intro hk
        simp [ih.2 fun e => hk ((key_cons _ _ _).2 (.inr e))]
    · split
      · rename_i h1 h2
        exact ⟨fun _ => by simp, fun hk => absurd ((key_cons _ _ _).2 (.inl h2)) hk⟩
      · rename_i h1 h2
        refine ⟨fun hk => ?_, fun _ => by simp⟩
        rcases (key_cons _ _ _).1 hk with e | e
        · exact absurd e h2
        · have : a < st := h'.1 st e
          omega

/-- In a rising list a key's count is its entry's. -/
theorem tot_at : ∀ (xs : SL), Srt xs → ∀ (i : Nat) (hi : i < xs.length), tot xs[i].1 xs = xs[i].2
  | a :: r, h, 0, _ => by
    have h' := (srt_cons _ _).1 h
    simp only [List.getElem_cons_zero, tot, if_true]
    rw [tot_none _ _ (fun e => by have := h'.1 _ e; omega)]; omega
  | a :: r, h, i + 1, hi => by
    have h' := (srt_cons _ _).1 h
    have hi' : i < r.length := by simpa using hi
    have ih := tot_at r h'.2 i hi'
    have hlt := h'.1 (r[i].1) ⟨r[i], List.getElem_mem hi', rfl⟩
    simp only [List.getElem_cons_succ, tot]
    rw [if_neg (by omega), ih]; omega

/-- A rising list is fixed by its keys and counts. -/
theorem srt_ext : ∀ (xs ys : SL), Srt xs → Srt ys → (∀ s, key xs s ↔ key ys s) → (∀ s, tot s xs = tot s ys) → xs = ys
  | [], [], _, _, _, _ => rfl
  | [], b :: t, _, _, hk, _ => absurd ((hk b.1).2 ((key_cons _ _ _).2 (.inl rfl))) (key_nil _)
  | a :: r, [], _, _, hk, _ => absurd ((hk a.1).1 ((key_cons _ _ _).2 (.inl rfl))) (key_nil _)
  | a :: r, b :: t, h1, h2, hk, ht => by
    have k1 := (srt_cons _ _).1 h1
    have k2 := (srt_cons _ _).1 h2
    have e1 : a.1 = b.1 := by
      have x := (key_cons _ _ _).1 ((hk a.1).1 ((key_cons _ _ _).2 (.inl rfl)))
      have y := (key_cons _ _ _).1 ((hk b.1).2 ((key_cons _ _ _).2 (.inl rfl)))
      rcases x with x | x
      · exact x.symm
      · rcases y with y | y
        · exact y
        · have := k2.1 _ x; have := k1.1 _ y; omega
    have e2 : a.2 = b.2 := by
      have t1 := tot_at (a :: r) h1 0 (by simp)
      have t2 := tot_at (b :: t) h2 0 (by simp)
      simp only [List.getElem_cons_zero] at t1 t2
      rw [← t1, ← t2, ← e1]; exact ht a.1
    have hab : a = b := Prod.ext e1 e2
    subst hab
    congr 1
    refine srt_ext r t k1.2 k2.2 (fun s => ?_) (fun s => ?_)
    · have := hk s
      rw [key_cons, key_cons] at this
      constructor
      · intro h
        rcases this.1 (.inr h) with e | e
        · have := k1.1 s h; omega
        · exact e
      · intro h
        rcases this.2 (.inr h) with e | e
        · have := k2.1 s h; omega
        · exact e
    · have := ht s
      simp only [tot] at this
      omega

/-! ### ten buckets, each with one status or none -/
def one (has : Nat → Bool) (stt cnt : Nat → Int) (j : Nat) : SL := if has j then [(stt j, cnt j)] else []
def qB (C has : Nat → Bool) (stt : Nat → Int) (s : Int) (j : Nat) : Bool := C j && has j && decide (stt j = s)
def anyB (Q : Nat → Bool) : Nat → Bool
  | 0 => false
  | k + 1 => if Q k then true else anyB Q k
theorem anyB_iff (Q : Nat → Bool) : ∀ k, anyB Q k = true ↔ ∃ j, j < k ∧ Q j = true
  | 0 => by simp [anyB]
  | k + 1 => by
    have ih := anyB_iff Q k
    unfold anyB
    split
    · rename_i h; simp only [true_iff]; exact ⟨k, by omega, h⟩
    · rename_i h
      rw [ih]
      constructor
      · rintro ⟨j, hj, hq⟩; exact ⟨j, by omega, hq⟩
      · rintro ⟨j, hj, hq⟩
        by_cases e : j = k
        · subst e; exact absurd hq h
        · exact ⟨j, by omega, hq⟩

section
variable (C has : Nat → Bool) (stt cnt : Nat → Int)
abbrev sts (C has : Nat → Bool) (stt cnt : Nat → Int) (k : Nat) : SL := stsTo C (one has stt cnt) k

theorem sts_yes (k : Nat) (h1 : C k = true) (h2 : has k = true) : sts C has stt cnt (k + 1) = ins (stt k) (cnt k) (sts C has stt cnt k) := by
  simp [sts, stsTo, one, h1, h2]
theorem sts_no (k : Nat) (h : ¬ (C k = true ∧ has k = true)) : sts C has stt cnt (k + 1) = sts C has stt cnt k := by
  by_cases h1 : C k = true
  · have h2 : has k = false := by cases e : has k; rfl; exact absurd ⟨h1, e⟩ h
    simp [sts, stsTo, one, h1, h2]
  · simp [sts, stsTo, h1]
theorem srt_sts : ∀ k, Srt (sts C has stt cnt k)
  | 0 => by simp [sts, stsTo, Srt]
  | k + 1 => by
    have ih := srt_sts k
    by_cases h : C k = true ∧ has k = true
    · rw [sts_yes C has stt cnt k h.1 h.2]; exact srt_ins _ _ _ ih
    · rw [sts_no C has stt cnt k h]; exact ih
theorem q_true (s : Int) (k : Nat) : qB C has stt s k = true ↔ (C k = true ∧ has k = true) ∧ stt k = s := by simp [qB]
theorem key_sts (s : Int) : ∀ k, key (sts C has stt cnt k) s ↔ anyB (qB C has stt s) k = true
  | 0 => by simp [sts, stsTo, anyB, key]
  | k + 1 => by
    have ih := key_sts s k
    by_cases h : C k = true ∧ has k = true
    · rw [sts_yes C has stt cnt k h.1 h.2, key_ins, ih]
      have st : anyB (qB C has stt s) (k + 1) = if qB C has stt s k then true else anyB (qB C has stt s) k := rfl
      rw [st]
      by_cases e : s = stt k
      · rw [if_pos ((q_true C has stt s k).2 ⟨h, e.symm⟩)]; simp [e]
      · rw [if_neg (fun hq => e ((q_true C has stt s k).1 hq).2.symm)]; simp [e]
    · rw [sts_no C has stt cnt k h, ih]
      conv => rhs; unfold anyB
      rw [if_neg (fun hq => h ((q_true C has stt s k).1 hq).1)]
theorem tot_sts (s : Int) : ∀ k, tot s (sts C has stt cnt k) = sumTo (qB C has stt s) cnt k
  | 0 => by simp [sts, stsTo, sumTo, tot]
  | k + 1 => by
    have ih := tot_sts s k
    by_cases h : C k = true ∧ has k = true
    · rw [sts_yes C has stt cnt k h.1 h.2, tot_ins, ih]
      conv => rhs; unfold sumTo
      by_cases e : s = stt k
      · rw [if_pos e, if_pos ((q_true C has stt s k).2 ⟨h, e.symm⟩)]
      · rw [if_neg e, if_neg (fun hq => e ((q_true C has stt s k).1 hq).2.symm)]; omega
    · rw [sts_no C has stt cnt k h, ih]
      conv => rhs; unfold sumTo
      rw [if_neg (fun hq => h ((q_true C has stt s k).1 hq).1)]
theorem len_yes (k : Nat) (h1 : C k = true) (h2 : has k = true) (hf : anyB (qB C has stt (stt k)) k = true) : (sts C has stt cnt (k + 1)).length = (sts C has stt cnt k).length := by
  rw [sts_yes C has stt cnt k h1 h2]
  exact (len_ins _ _ _ (srt_sts C has stt cnt k)).1 ((key_sts C has stt cnt _ k).2 hf)
theorem len_new (k : Nat) (h1 : C k = true) (h2 : has k = true) (hf : anyB (qB C has stt (stt k)) k = false) : (sts C has stt cnt (k + 1)).length = (sts C has stt cnt k).length + 1 := by
  rw [sts_yes C has stt cnt k h1 h2]
  exact (len_ins _ _ _ (srt_sts C has stt cnt k)).2 (fun h => by rw [(key_sts C has stt cnt _ k).1 h] at hf; cases hf)
/-- Each entry is found, its count is the want, and the entry before is less. -/
theorem at_sts (i : Nat) (hi : i < (sts C has stt cnt 10).length) :
    anyB (qB C has stt (sts C has stt cnt 10)[i].1) 10 = true ∧ sumTo (qB C has stt (sts C has stt cnt 10)[i].1) cnt 10 = (sts C has stt cnt 10)[i].2 ∧ ∀ h : i - 1 < (sts C has stt cnt 10).length, 0 < i → (sts C has stt cnt 10)[i - 1].1 < (sts C has stt cnt 10)[i].1 := by
  refine ⟨(key_sts C has stt cnt _ 10).1 ⟨_, List.getElem_mem hi, rfl⟩, ?_, fun h h0 => ?_⟩
  · rw [← tot_sts]; exact tot_at _ (srt_sts C has stt cnt 10) i hi
  · exact List.pairwise_iff_getElem.1 (srt_sts C has stt cnt 10) (i - 1) i h hi (by omega)
end

/-! ### turned buckets -/
/-- Bucket of item j after the turn. -/
def turn (rot j : Nat) : Nat := if 10 ≤ j + rot then j + rot - 10 else j + rot
theorem turn_lt {rot j : Nat} (hr : rot < 10) (hj : j < 10) : turn rot j < 10 := by unfold turn; split <;> omega
theorem sum10 (C : Nat → Bool) (f : Nat → Int) : sumTo C f 10 = (if C 0 then f 0 else 0) + (if C 1 then f 1 else 0) + (if C 2 then f 2 else 0) + (if C 3 then f 3 else 0) + (if C 4 then f 4 else 0) + (if C 5 then f 5 else 0) + (if C 6 then f 6 else 0) + (if C 7 then f 7 else 0) + (if C 8 then f 8 else 0) + (if C 9 then f 9 else 0) := by
  have step : ∀ k, sumTo C f (k + 1) = sumTo C f k + if C k then f k else 0 := fun k => by
    conv => lhs; unfold sumTo
    split <;> omega
  rw [step, step, step, step, step, step, step, step, step, step]
  show 0 + _ + _ + _ + _ + _ + _ + _ + _ + _ + _ = _
  omega
theorem sum_turn (rot : Nat) (hr : rot < 10) (C C' : Nat → Bool) (f f' : Nat → Int) (hC : ∀ j, j < 10 → C' (turn rot j) = C j) (hf : ∀ j, j < 10 → f' (turn rot j) = f j) : sumTo C' f' 10 = sumTo C f 10 := by
  have g : ∀ j, j < 10 → (if C' (turn rot j) then f' (turn rot j) else 0) = if C j then f j else 0 := fun j hj => by rw [hC j hj, hf j hj]
  rw [sum10 C f, ← g 0 (by omega), ← g 1 (by omega), ← g 2 (by omega), ← g 3 (by omega), ← g 4 (by omega), ← g 5 (by omega), ← g 6 (by omega), ← g 7 (by omega), ← g 8 (by omega), ← g 9 (by omega), sum10]
  generalize hG : (fun j => if C' j then f' j else 0) = G
  have e : ∀ j, (if C' j then f' j else 0) = G j := fun j => by rw [← hG]
  simp only [e]
  have : rot = 0 ∨ rot = 1 ∨ rot = 2 ∨ rot = 3 ∨ rot = 4 ∨ rot = 5 ∨ rot = 6 ∨ rot = 7 ∨ rot = 8 ∨ rot = 9 := by omega
  rcases this with rfl | rfl | rfl | rfl | rfl | rfl | rfl | rfl | rfl | rfl <;> (simp only [turn, Nat.reduceAdd, Nat.reduceLeDiff, Nat.reduceSub, if_true, if_false] <;> omega)
theorem turn_on {rot i : Nat} (hr : rot < 10) (hi : i < 10) : ∃ j, j < 10 ∧ turn rot j = i := by
  by_cases h : rot ≤ i
  · exact ⟨i - rot, by omega, by unfold turn; rw [if_neg (by omega)]; omega⟩
  · exact ⟨i + 10 - rot, by omega, by unfold turn; rw [if_pos (by omega)]; omega⟩
theorem turn_inj {rot i j : Nat} (hr : rot < 10) (hi : i < 10) (hj : j < 10) (h : turn rot i = turn rot j) : i = j := by
  unfold turn at h; split at h <;> split at h <;> omega

/-- The turned buckets sum to the same list. -/
theorem sts_turn (rot : Nat) (hr : rot < 10) (C C' : Nat → Bool) (has : Nat → Bool) (stt cnt : Nat → Int) (X' : Nat → SL) (hC : ∀ j, j < 10 → C' (turn rot j) = C j) (hX : ∀ j, j < 10 → X' (turn rot j) = one has stt cnt j) :
    stsTo C' X' 10 = sts C has stt cnt 10 := by
  obtain ⟨U, hU⟩ : ∃ U : Nat → Nat, ∀ i, i < 10 → U i < 10 ∧ turn rot (U i) = i := by
    refine ⟨fun i => if rot ≤ i then i - rot else i + 10 - rot, fun i hi => ?_⟩
    by_cases h : rot ≤ i
    · simp only [if_pos h]; exact ⟨by omega, by unfold turn; rw [if_neg (by omega)]; omega⟩
    · simp only [if_neg h]; exact ⟨by omega, by unfold turn; rw [if_pos (by omega)]; omega⟩
  have eX : ∀ k, k ≤ 10 → stsTo C' X' k = sts C' (fun i => has (U i)) (fun i => stt (U i)) (fun i => cnt (U i)) k := by
    intro k
    induction k with
    | zero => intro _; rfl
    | succ k ih =>
      intro hk
      have e : X' k = one (fun i => has (U i)) (fun i => stt (U i)) (fun i => cnt (U i)) k := by
        have := hX (U k) (hU k (by omega)).1
        rw [(hU k (by omega)).2] at this
        rw [this]; rfl
      simp only [sts, stsTo]
      rw [ih (by omega), e]
  rw [eX 10 (Nat.le_refl _)]
  have back : ∀ j, j < 10 → U (turn rot j) = j := fun j hj => turn_inj hr (hU _ (turn_lt hr hj)).1 hj (hU _ (turn_lt hr hj)).2
  have hq : ∀ s j, j < 10 → qB C' (fun i => has (U i)) (fun i => stt (U i)) s (turn rot j) = qB C has stt s j := fun s j hj => by
    simp only [qB, hC j hj, back j hj]
  refine srt_ext _ _ (srt_sts _ _ _ _ _) (srt_sts _ _ _ _ _) (fun s => ?_) (fun s => ?_)
  · rw [key_sts, key_sts, anyB_iff, anyB_iff]
    constructor
    · rintro ⟨i, hi, h⟩
      refine ⟨U i, (hU i hi).1, ?_⟩
      rw [← hq s _ (hU i hi).1, (hU i hi).2]; exact h
    · rintro ⟨j, hj, h⟩
      exact ⟨turn rot j, turn_lt hr hj, by rw [hq s j hj]; exact h⟩
  · rw [tot_sts, tot_sts]
    exact sum_turn rot hr _ _ _ _ (hq s) (fun j hj => by rw [back j hj])
end Go.Proofs.Qxb6608868a.st
