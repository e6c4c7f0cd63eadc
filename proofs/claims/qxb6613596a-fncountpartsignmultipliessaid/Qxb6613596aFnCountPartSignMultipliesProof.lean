/-
  The proof of the given statement over the sign of a part. The frame is the shell that was given with the seat; the walk is filled.
-/
import Derived.Test.Qxb6613596aRows
import Derived.WalkKit
import Derived.ProofKit
import Derived.OpenShut
import Derived.ShutString
import Derived.Test.Qxb6613596aSign
namespace Go.Proofs.Qxb6613596a.fnCountPartSignMultiplies
open Go.ChangeShapes Go.WideShapes Go.ChangeAt Go.RowKit
open Go.ChangeMaps (open_string shut_string)
set_option linter.unusedVariables false      -- a walk need not use every 'w<i>' (that an integer argument fits its kind)

theorem own : ownKnob Try.prog.godebug = none := by kernel_rfl

/-! ### THE PLAIN LAW -/
theorem sg_bd (n : Int) : -1 ≤ sign.sg n ∧ sign.sg n ≤ 1 := by unfold sign.sg; split <;> (try split) <;> omega
theorem sg_mul (a b : Int) : sign.sg (a * b) = sign.sg a * sign.sg b := by
  rcases Int.lt_trichotomy a 0 with h | h | h <;> rcases Int.lt_trichotomy b 0 with k | k | k
  · rw [sign.sg_neg h, sign.sg_neg k, sign.sg_pos (Int.mul_pos_of_neg_of_neg h k)]; rfl
  · subst k; rw [Int.mul_zero, sign.sg_zero, Int.mul_zero]
  · rw [sign.sg_neg h, sign.sg_pos k, sign.sg_neg (Int.mul_neg_of_neg_of_pos h k)]; rfl
  · subst h; rw [Int.zero_mul, sign.sg_zero, Int.zero_mul]
  · subst h; rw [Int.zero_mul, sign.sg_zero, Int.zero_mul]
  · subst h; rw [Int.zero_mul, sign.sg_zero, Int.zero_mul]
  · rw [sign.sg_pos h, sign.sg_neg k, sign.sg_neg (Int.mul_neg_of_pos_of_neg h k)]; rfl
  · subst k; rw [Int.mul_zero, sign.sg_zero, Int.mul_zero]
  · rw [sign.sg_pos h, sign.sg_pos k, sign.sg_pos (Int.mul_pos h k)]; rfl
theorem mul_bd (a b : Int) (h1 : -2147483648 ≤ a) (h2 : a ≤ 2147483648) (h3 : -2147483648 ≤ b) (h4 : b ≤ 2147483648) :
    -4611686018427387904 ≤ a * b ∧ a * b ≤ 4611686018427387904 := by
  have e : (a * b).natAbs ≤ 2147483648 * 2147483648 := by
    rw [Int.natAbs_mul]; exact Nat.mul_le_mul (by omega) (by omega)
  omega

/-! ### STEP 1: THE WALK: the Go text returns true. 'Grown w w'': the world has at most new blocks (Derived/RowKit3.lean). -/
theorem walk (a0 : Int) (a1 : Int) (a2 : Int) (a3 : Int) (a4 : Int) (w0 : (Lit.int .i64 a0).wf = true) (w1 : (Lit.int .i64 a1).wf = true) (w2 : (Lit.int .i64 a2).wf = true) (w3 : (Lit.int .i64 a3).wf = true) (w4 : (Lit.int .i64 a4).wf = true) (w : World) :
    Calls Try.prog 4 #[.int .i64 a0, .int .i64 a1, .int .i64 a2, .int .i64 a3, .int .i64 a4] w fun e w' => e = .returned (.bool true) ∧ Grown w w' := by
  clear w0 w1 w2 w3 w4
  by_cases ha1 : a0 < -2147483648
  · go_enter Try.func4, Try.ntmps4
    go_wp2
    go_ret
    exact ⟨rfl, Grown.refl _⟩
  by_cases ha2 : 2147483648 < a0
  · go_enter Try.func4, Try.ntmps4
    go_wp2
    go_ret
    exact ⟨rfl, Grown.refl _⟩
  by_cases hb1 : a1 < -2147483648
  · go_enter Try.func4, Try.ntmps4
    go_wp2
    go_ret
    exact ⟨rfl, Grown.refl _⟩
  by_cases hb2 : 2147483648 < a1
  · go_enter Try.func4, Try.ntmps4
    go_wp2
    go_ret
    exact ⟨rfl, Grown.refl _⟩
  by_cases hd1 : a2 ≤ 0
  · go_enter Try.func4, Try.ntmps4
    go_wp2
    go_ret
    exact ⟨rfl, Grown.refl _⟩
  by_cases hd2 : a3 ≤ 0
  · go_enter Try.func4, Try.ntmps4
    go_wp2
    go_ret
    exact ⟨rfl, Grown.refl _⟩
  by_cases hd3 : a4 ≤ 0
  · go_enter Try.func4, Try.ntmps4
    go_wp2
    go_ret
    exact ⟨rfl, Grown.refl _⟩
  have m1 := mul_bd a0 a1 (by omega) (by omega) (by omega) (by omega)
  have m2 := mul_bd a0 a0 (by omega) (by omega) (by omega) (by omega)
  have s1 := sg_mul a0 a1
  have s2 := sg_mul a0 a0
  have t0 := sg_bd a0
  have t1 := sg_bd a1
  have t2 := sg_bd (a0 * a1)
  have S1 : Hid (sign.sg (a0 * a1) = sign.sg a0 * sign.sg a1) := s1
  have q : (sign.sg a0 = 0 ∧ a0 = 0) ∨ (sign.sg (a0 * a0) = 1 ∧ a0 ≠ 0) := by
    rw [s2]
    rcases Int.lt_trichotomy a0 0 with h | h | h
    · right; rw [sign.sg_neg h]; exact ⟨rfl, by omega⟩
    · left; subst h; exact ⟨rfl, rfl⟩
    · right; rw [sign.sg_pos h]; exact ⟨rfl, by omega⟩
  clear s1 s2
  rcases q with ⟨_, q⟩ | ⟨q1, q2⟩
  · subst q
    go_enter Try.func4, Try.ntmps4
    go_wp2_with fail
    refine (sign.sign7 _ _ _).mono ?_
    rintro e w1 ⟨rfl, g1⟩
    rw [sign.sg_zero]
    go_wp2_with fail
    refine (sign.sign7 _ _ _).mono ?_
    rintro e w2 ⟨rfl, g2⟩
    go_wp2_with fail
    refine (sign.sign7 _ _ _).mono ?_
    rintro e w3 ⟨rfl, g3⟩
    go_wp2_with fail
    refine (sign.sign7 _ _ _).mono ?_
    rintro e w4 ⟨rfl, g4⟩
    go_wp2
    go_ret
    exact ⟨rfl, sign.grown_trans (sign.grown_trans (sign.grown_trans g1 g2) g3) g4⟩
  · have q2' : (a0 != 0) = true := by rw [bne_iff_ne]; exact q2
    have Q1 : Hid (sign.sg (a0 * a0) = 1) := q1
    clear q1
    go_enter Try.func4, Try.ntmps4
    go_wp2_with fail
    refine (sign.sign7 _ _ _).mono ?_
    rintro e w1 ⟨rfl, g1⟩
    go_wp2_with fail
    refine (sign.sign7 _ _ _).mono ?_
    rintro e w2 ⟨rfl, g2⟩
    go_wp2_with fail
    refine (sign.sign7 _ _ _).mono ?_
    rintro e w3 ⟨rfl, g3⟩
    rw [S1.out]
    go_wp2_with fail
    refine (sign.sign7 _ _ _).mono ?_
    rintro e w4 ⟨rfl, g4⟩
    rw [Q1.out]
    have t2' : -1 ≤ sign.sg a0 * sign.sg a1 ∧ sign.sg a0 * sign.sg a1 ≤ 1 := by rw [← S1.out]; exact t2
    go_wp2
    go_ret
    exact ⟨rfl, sign.grown_trans (sign.grown_trans (sign.grown_trans g1 g2) g3) g4⟩

/-! ### THE ROW's STEP: WRITTEN OUT: LEAVE IT -/
set_option maxRecDepth 100000 in
theorem lifted (os : Os) (started : os.Started) (H : Type) (enc : TypeId × Value → H) :
    ReturnsInHanded {} Try.checked os 4 .any (Rows.fnCountPartSignMultipliesSpec.pre6 enc Try.prog Try.f4 Rows.fnCountPartSignMultipliesRow.domain false) (Rows.fnCountPartSignMultipliesSpec.post enc Try.prog Try.f4 false true false false) := by
  refine returnsInHanded_of_change (C := Try.checked) own started (by kernel_rfl) Try.func4
    (ChangeSpec.witness6 (enc := enc) (C := Try.checked) false ⟨#[], #[.int .i64 0, .int .i64 0, .int .i64 0, .int .i64 0, .int .i64 0], []⟩ 8 (by kernel_rfl) (by kernel_rfl) (by kernel_rfl) (by kernel_rfl)) ?_
  intro W base args ds gs before hval0 hW hcnd _
  have hval : ∀ (j : Nat) t v, Try.f4.params[j]? = some t → args[j]? = some v → Value.okWide Try.prog W .any base t v := hval0
  have hW' := hW
  obtain ⟨p, q, hA0, hV, rfl, hfz, hnd⟩ := hW
  have hA : DataW.TrodAll enc Try.prog W 0 (fun _ => true) true Try.f4.params.toList args.toList ds p := hA0
  rw [Try.params4] at hA hval
  obtain ⟨v0, vs0, d0, ds0, p0, q0, hargs, rfl, rfl, h0, r0⟩ := trodAll_cons hA
  obtain ⟨v1, vs1, d1, ds1, p1, q1, rfl, rfl, rfl, h1, r1⟩ := trodAll_cons r0
  obtain ⟨v2, vs2, d2, ds2, p2, q2, rfl, rfl, rfl, h2, r2⟩ := trodAll_cons r1
  obtain ⟨v3, vs3, d3, ds3, p3, q3, rfl, rfl, rfl, h3, r3⟩ := trodAll_cons r2
  obtain ⟨v4, vs4, d4, ds4, p4, q4, rfl, rfl, rfl, h4, r4⟩ := trodAll_cons r3
  obtain ⟨rfl, rfl, rfl⟩ := trodAll_nil r4
  obtain rfl : args = #[v0, v1, v2, v3, v4] := by cases args; simp_all
  obtain ⟨rfl, rfl⟩ := trodVars_none hV
  obtain ⟨a0, rfl, rfl, rfl, w0⟩ := open_int Try.underlying2 (hval 0 2 v0 rfl rfl) h0
  obtain ⟨a1, rfl, rfl, rfl, w1⟩ := open_int Try.underlying2 (hval 1 2 v1 rfl rfl) h1
  obtain ⟨a2, rfl, rfl, rfl, w2⟩ := open_int Try.underlying2 (hval 2 2 v2 rfl rfl) h2
  obtain ⟨a3, rfl, rfl, rfl, w3⟩ := open_int Try.underlying2 (hval 3 2 v3 rfl rfl) h3
  obtain ⟨a4, rfl, rfl, rfl, w4⟩ := open_int Try.underlying2 (hval 4 2 v4 rfl rfl) h4
  clear hA0 hval0
  simp only [List.append_nil] at hW'
  refine (walk a0 a1 a2 a3 a4 w0 w1 w2 w3 w4 W).mono fun e W' ⟨he, hg⟩ => ?_
  subst he
  exact ⟨_, rfl, post_of_same (pa := []) (pv := []) hW' (fun _ _ _ => (trodAll_cons_mk (shut_bool Try.underlying4 _) trodAll_mk0)) (fun sp _ => (trodAll_cons_mk (shut_int Try.underlying2 w0) (trodAll_cons_mk (shut_int Try.underlying2 w1) (trodAll_cons_mk (shut_int Try.underlying2 w2) (trodAll_cons_mk (shut_int Try.underlying2 w3) (trodAll_cons_mk (shut_int Try.underlying2 w4) trodAll_mk0)))))) (fun _ _ => rfl) rfl
    (hg.frame _) hg.2.1 (ok_one (by kernel_rfl) rfl (okWide_bool_mk Try.underlying4 _))⟩

theorem over : Rows.fnCountPartSignMultipliesRow.holds Try.pinned (OpenSpec.ofChange Rows.fnCountPartSignMultipliesSpec) :=
  OpenClaim.holds_of_wide 4 Try.f4 rfl rfl rfl rfl rfl rfl rfl ⟨rfl, rfl, rfl, rfl, rfl⟩ rfl rfl rfl rfl rfl (by kernel_rfl) Try.func4 (by kernel_rfl)
    (of_decide_eq_true (by kernel_rfl)) (by unfold Func.isWrapper; first | (rw [if_pos (by decide +kernel)]; kernel_rfl) | (rw [if_neg (by decide +kernel)]; exact ⟨rfl, rfl⟩))
    (fun os started H enc _ => lifted os started H enc)

/-- ████ THE STATEMENT ████ -/
theorem proved : Rows.FnCountPartSignMultipliesSaid :=
  over
#print axioms proved
end Go.Proofs.Qxb6613596a.fnCountPartSignMultiplies
