/-
  Behind the sums: the two tallies, and the plain facts that the last loops ask.
-/
import Derived.Test.Qxb6608868aStep
namespace Go.Proofs.Qxb6608868a.st
open Go.RowKit

def Tl (w : World) (q : Nat) (I : Inp) : Prop := ∃ base v, TalT w base q (I.R 10) (I.E 10) v (I.S 10)
structure Kp (w wr : World) (p1 p2 q1 q2 : Nat) (I : Inp) : Prop where
  fr : Fr w wr p1 p2 I
  t1 : Tl wr q1 I
  t2 : Tl wr q2 I
theorem Tl.below {w w' : World} {q : Nat} {I : Inp} (h : Tl w q I) (hb : Below w.heap.size w w') : Tl w' q I := by
  obtain ⟨b, v, h⟩ := h; exact ⟨b, v, h.below hb⟩
theorem Kp.below {w wr w' : World} {p1 p2 q1 q2 : Nat} {I : Inp} (h : Kp w wr p1 p2 q1 q2 I) (hb : Below wr.heap.size wr w') : Kp w w' p1 p2 q1 q2 I :=
  ⟨h.fr.go (hb.mono h.fr.size), h.t1.below hb, h.t2.below hb⟩
theorem Kp.drewN {w wr : World} {p1 p2 q1 q2 : Nat} {I : Inp} (h : Kp w wr p1 p2 q1 q2 I) (n : Nat) : Kp w (wr.drewN n) p1 p2 q1 q2 I :=
  h.below ⟨rfl, rfl, rfl, Nat.le_refl _, fun _ _ => rfl⟩

/-- The first sum. -/
theorem sumA {w wr : World} {p1 p2 rot : Nat} {I : Inp} (h : Fr w wr p1 p2 I) (a : Bk wr p1 0 10 I) (b : Bk wr p2 rot 10 I) (ho : I.Ok) :
    Calls Try.prog 20 #[.pointer (some ⟨p1, 0, none⟩), .int .i64 I.now] wr fun en w' => ∃ q, en = .returned (.pointer (some ⟨q, 0, none⟩)) ∧ Fr w w' p1 p2 I ∧ Bk w' p2 rot 10 I ∧ Tl w' q I := by
  refine (a.sum (by omega) ho).mono ?_
  rintro en w' ⟨q, v, rfl, hb, ht⟩
  exact ⟨q, rfl, h.go (hb.mono h.size), b.below hb, _, v, ht⟩
theorem sumB {w wr : World} {p1 p2 q1 rot : Nat} {I : Inp} (h : Fr w wr p1 p2 I) (b : Bk wr p2 rot 10 I) (t : Tl wr q1 I) (hr : rot < 10) (ho : I.Ok) :
    Calls Try.prog 20 #[.pointer (some ⟨p2, 0, none⟩), .int .i64 I.now] wr fun en w' => ∃ q, en = .returned (.pointer (some ⟨q, 0, none⟩)) ∧ Kp w w' p1 p2 q1 q I := by
  refine (b.sum hr ho).mono ?_
  rintro en w' ⟨q, v, rfl, hb, ht⟩
  exact ⟨q, rfl, h.go (hb.mono h.size), t.below hb, _, v, ht⟩

theorem tl22 {w : World} {q : Nat} {I : Inp} (h : Tl w q I) : Calls Try.prog 22 #[.pointer (some ⟨q, 0, none⟩)] w fun en w' => en = .returned (.tuple #[.int .i64 (I.R 10), .int .i64 (I.E 10)]) ∧ ∃ n, w' = w.drewN n := by
  obtain ⟨b, v, h⟩ := h; exact counts22 w b q _ _ v _ h
theorem tl23 {w : World} {q : Nat} {I : Inp} (h : Tl w q I) : Calls Try.prog 23 #[.pointer (some ⟨q, 0, none⟩)] w fun en w' => en = .returned (.int .i64 (I.S 10).length) ∧ w' = w := by
  obtain ⟨b, v, h⟩ := h; exact len23 w b q _ _ v _ h
theorem tl24 {w : World} {q : Nat} {I : Inp} (h : Tl w q I) (i : Nat) (hi : i < (I.S 10).length) : Calls Try.prog 24 #[.pointer (some ⟨q, 0, none⟩), .int .i64 i] w fun en w' => en = .returned (.tuple #[.int .i64 ((I.S 10)[i].1), .int .i64 ((I.S 10)[i].2)]) ∧ ∃ n, w' = w.drewN n := by
  obtain ⟨b, v, h⟩ := h; exact at24 w b q _ _ v _ i hi h

/-! ### plain steps -/
def Inp.Q (I : Inp) (s : Int) (j : Nat) : Bool := qB I.C I.has I.stt s j
def Inp.any (I : Inp) (s : Int) (k : Nat) : Bool := anyB (I.Q s) k
def Inp.want (I : Inp) (s : Int) (k : Nat) : Int := sumTo (I.Q s) I.cnt k
theorem Inp.R_yes (I : Inp) (k : Nat) (h : I.C k = true) : I.R (k + 1) = I.R k + I.rq k := by unfold Inp.R; conv => lhs; unfold sumTo
                                                                                              rw [if_pos h]
theorem Inp.R_no (I : Inp) (k : Nat) (h : I.C k = false) : I.R (k + 1) = I.R k := by unfold Inp.R; conv => lhs; unfold sumTo
                                                                                     rw [if_neg (by simp [h])]
theorem Inp.E_yes (I : Inp) (k : Nat) (h : I.C k = true) : I.E (k + 1) = I.E k + I.er k := by unfold Inp.E; conv => lhs; unfold sumTo
                                                                                              rw [if_pos h]
theorem Inp.E_no (I : Inp) (k : Nat) (h : I.C k = false) : I.E (k + 1) = I.E k := by unfold Inp.E; conv => lhs; unfold sumTo
                                                                                     rw [if_neg (by simp [h])]
theorem Inp.S_no (I : Inp) (k : Nat) (h : I.C k = false) : (I.S (k + 1)).length = (I.S k).length := by
  unfold Inp.S; rw [sts_no _ _ _ _ k (by simp [h])]
theorem Inp.S_no' (I : Inp) (k : Nat) (h : I.has k = false) : (I.S (k + 1)).length = (I.S k).length := by
  unfold Inp.S; rw [sts_no _ _ _ _ k (by simp [h])]
theorem Inp.S_old (I : Inp) (k : Nat) (h1 : I.C k = true) (h2 : I.has k = true) (h3 : I.any (I.stt k) k = true) : (I.S (k + 1)).length = (I.S k).length :=
  len_yes I.C I.has I.stt I.cnt k h1 h2 h3
theorem Inp.S_new (I : Inp) (k : Nat) (h1 : I.C k = true) (h2 : I.has k = true) (h3 : I.any (I.stt k) k = false) : (I.S (k + 1)).length = (I.S k).length + 1 :=
  len_new I.C I.has I.stt I.cnt k h1 h2 h3
theorem Inp.any_yes (I : Inp) (s : Int) (k : Nat) (h : I.Q s k = true) : I.any s (k + 1) = true := by show anyB _ _ = _; rw [anyB, if_pos h]
theorem Inp.any_no (I : Inp) (s : Int) (k : Nat) (h : I.Q s k = false) : I.any s (k + 1) = I.any s k := by show anyB _ _ = _; rw [anyB, if_neg (by simp [h])]; rfl
theorem Inp.want_yes (I : Inp) (s : Int) (k : Nat) (h : I.Q s k = true) : I.want s (k + 1) = I.want s k + I.cnt k := by show sumTo _ _ _ = _; rw [sumTo, if_pos h]; rfl
theorem Inp.want_no (I : Inp) (s : Int) (k : Nat) (h : I.Q s k = false) : I.want s (k + 1) = I.want s k := by show sumTo _ _ _ = _; rw [sumTo, if_neg (by simp [h])]; rfl
theorem Inp.Q_1 (I : Inp) (s : Int) (k : Nat) (h : I.C k = false) : I.Q s k = false := by simp [Inp.Q, qB, h]
theorem Inp.Q_2 (I : Inp) (s : Int) (k : Nat) (h : I.has k = false) : I.Q s k = false := by simp [Inp.Q, qB, h]
theorem Inp.Q_3 (I : Inp) (s : Int) (k : Nat) (h : ¬ I.stt k = s) : I.Q s k = false := by simp [Inp.Q, qB, h]
theorem Inp.Q_4 (I : Inp) (s : Int) (k : Nat) (h1 : I.C k = true) (h2 : I.has k = true) (h3 : I.stt k = s) : I.Q s k = true := by simp [Inp.Q, qB, h1, h2, h3]
theorem Inp.R_bd (I : Inp) (ho : I.Ok) (k : Nat) (hk : k ≤ 10) : 0 ≤ I.R k ∧ I.R k ≤ 10995116277760 := by
  have := sum_bd I.C I.rq (fun j hj => ho.rq j hj) k hk; unfold Inp.R; omega
theorem Inp.E_bd (I : Inp) (ho : I.Ok) (k : Nat) (hk : k ≤ 10) : 0 ≤ I.E k ∧ I.E k ≤ 10995116277760 := by
  have := sum_bd I.C I.er (fun j hj => ho.er j hj) k hk; unfold Inp.E; omega
theorem Inp.want_bd (I : Inp) (ho : I.Ok) (s : Int) (k : Nat) (hk : k ≤ 10) : 0 ≤ I.want s k ∧ I.want s k ≤ 10995116277760 := by
  have := sum_bd (I.Q s) I.cnt (fun j hj => ho.cnt j hj) k hk; unfold Inp.want; omega
theorem Inp.S_len (I : Inp) : ∀ k, (I.S k).length ≤ k
  | 0 => by simp [Inp.S, sts, stsTo]
  | k + 1 => by
    have ih := Inp.S_len I k
    have h := ins_len (I.stt k) (I.cnt k) (I.S k)
    by_cases h1 : I.C k = true ∧ I.has k = true
    · have e := sts_yes I.C I.has I.stt I.cnt k h1.1 h1.2
      have : (I.S (k + 1)).length = (ins (I.stt k) (I.cnt k) (I.S k)).length := congrArg List.length e
      omega
    · have e := sts_no I.C I.has I.stt I.cnt k h1
      have : (I.S (k + 1)).length = (I.S k).length := congrArg List.length e
      omega
theorem Inp.at_S (I : Inp) (i : Nat) (hi : i < (I.S 10).length) :
    I.any ((I.S 10)[i].1) 10 = true ∧ I.want ((I.S 10)[i].1) 10 = (I.S 10)[i].2 ∧ ∀ h : i - 1 < (I.S 10).length, 0 < i → (I.S 10)[i - 1].1 < (I.S 10)[i].1 :=
  at_sts I.C I.has I.stt I.cnt i hi
/-- zzCounts at a bucket. -/
theorem Inp.counts (I : Inp) (ho : I.Ok) (hs : ∀ j, j < 10 → -9223372036854775808 ≤ I.sl j ∧ I.sl j ≤ 9223372036854775807) (k : Nat) (hk : k < 10) (b : Bool) (hb : I.C k = b) (w : World) :
    Calls Try.prog 21 #[.int .i64 (I.sl k), .int .i64 (I.now - I.org)] w fun e w' => e = .returned (.bool b) ∧ w' = w := by
  subst hb
  have h0 := ho.o0; have h1 := ho.o1; have h2 := ho.o2
  exact counts21 (I.sl k) (I.now - I.org) w (by omega) (by omega) (hs k hk).1 (hs k hk).2
end Go.Proofs.Qxb6608868a.st
