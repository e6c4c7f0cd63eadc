/-
  The proof of the given statement. The frame is the shell that was given with the seat; the walk is filled.
-/
import Derived.Test.Qxb6613674aRows
import Derived.WalkKit
import Derived.ProofKit
import Derived.OpenShut
import Derived.ShutString
import Derived.Test.Qxb6613674aMain
import Derived.Test.Qxb6613674aFacts3
namespace Go.Proofs.Qxb6613674a.fnMsqlLiteralPrefixAgreesWithWordKey
open Go.ChangeShapes Go.WideShapes Go.ChangeAt Go.RowKit
open Go.ChangeMaps (open_string shut_string)
set_option linter.unusedVariables false      -- a walk need not use every 'w<i>' (that an integer argument fits its kind)

theorem own : ownKnob Try.prog.godebug = none := by kernel_rfl

/-! ### STEP 1: THE WALK: the Go text returns true. 'Grown w w'': the world has at most new blocks (Derived/RowKit3.lean). -/
theorem walk (a0 : ByteArray) (a1 : Int) (w0 : a0.size ≤ maxLen) (w1 : (Lit.int .u8 a1).wf = true) (w : World) :
    Calls Try.prog 3 #[.string a0, .int .u8 a1] w fun e w' => e = .returned (.bool true) ∧ Grown w w' := by
  by_cases hn : a0.size ≤ 1048576
  · by_cases hq : a1 = 39
    · subst hq
      by_cases hl : a0.size = 1
      · obtain ⟨⟨l⟩⟩ := a0
        obtain ⟨c, rfl⟩ : ∃ c, l = [c] := by
          match l, hl with
          | [c], _ => exact ⟨c, rfl⟩
        cases hc : (bits BinOp.or IntKind.u8 (c.toNat : Int) 32 == 120) with
        | false => exact key.main_no c w hc
        | true =>
          refine key.main_yes c w hc ?_
          rcases key.which c hc with rfl | rfl <;> rfl
      · exact key.main_len a0 w hn (by rw [beq_eq_false_iff_ne]; omega)
    · exact key.main_q a0 a1 w hn (beq_eq_false_iff_ne.2 hq)
  · exact key.main_big a0 a1 w hn

/-! ### THE ROW's STEP: WRITTEN OUT: LEAVE IT -/
set_option maxRecDepth 100000 in
theorem lifted (os : Os) (started : os.Started) (H : Type) (enc : TypeId × Value → H) :
    ReturnsInHanded {} Try.checked os 3 .any (Rows.fnMsqlLiteralPrefixAgreesWithWordKeySpec.pre6 enc Try.prog Try.f3 Rows.fnMsqlLiteralPrefixAgreesWithWordKeyRow.domain false) (Rows.fnMsqlLiteralPrefixAgreesWithWordKeySpec.post enc Try.prog Try.f3 false true false false) := by
  refine returnsInHanded_of_change (C := Try.checked) own started (by kernel_rfl) Try.func3
    (ChangeSpec.witness6 (enc := enc) (C := Try.checked) false ⟨#[], #[.string ByteArray.empty, .int .u8 0], []⟩ 8 (by kernel_rfl) (by kernel_rfl) (by kernel_rfl) (by kernel_rfl)) ?_
  intro W base args ds gs before hval0 hW hcnd _
  have hval : ∀ (j : Nat) t v, Try.f3.params[j]? = some t → args[j]? = some v → Value.okWide Try.prog W .any base t v := hval0
  have hW' := hW
  obtain ⟨p, q, hA0, hV, rfl, hfz, hnd⟩ := hW
  have hA : DataW.TrodAll enc Try.prog W 0 (fun _ => true) true Try.f3.params.toList args.toList ds p := hA0
  rw [Try.params3] at hA hval
  obtain ⟨v0, vs0, d0, ds0, p0, q0, hargs, rfl, rfl, h0, r0⟩ := trodAll_cons hA
  obtain ⟨v1, vs1, d1, ds1, p1, q1, rfl, rfl, rfl, h1, r1⟩ := trodAll_cons r0
  obtain ⟨rfl, rfl, rfl⟩ := trodAll_nil r1
  obtain rfl : args = #[v0, v1] := by cases args; simp_all
  obtain ⟨rfl, rfl⟩ := trodVars_none hV
  obtain ⟨a0, rfl, rfl, rfl, w0⟩ := open_string Try.underlying9 (hval 0 9 v0 rfl rfl) h0
  obtain ⟨a1, rfl, rfl, rfl, w1⟩ := open_int Try.underlying5 (hval 1 5 v1 rfl rfl) h1
  clear hA0 hval0
  simp only [List.append_nil] at hW'
  refine (walk a0 a1 w0 w1 W).mono fun e W' ⟨he, hg⟩ => ?_
  subst he
  exact ⟨_, rfl, post_of_same (pa := []) (pv := []) hW' (fun _ _ _ => (trodAll_cons_mk (shut_bool Try.underlying4 _) trodAll_mk0)) (fun sp _ => (trodAll_cons_mk (shut_string Try.underlying9 w0) (trodAll_cons_mk (shut_int Try.underlying5 w1) trodAll_mk0))) (fun _ _ => rfl) rfl
    (hg.frame _) hg.2.1 (ok_one (by kernel_rfl) rfl (okWide_bool_mk Try.underlying4 _))⟩

theorem named : Try.pinned.checked.prog.funcNamed Rows.fnMsqlLiteralPrefixAgreesWithWordKeyRow.func = some 3 := by kernel_rfl
theorem inst : Try.f3.isInstance Try.pinned.checked.prog Rows.fnMsqlLiteralPrefixAgreesWithWordKeyRow.origin Rows.fnMsqlLiteralPrefixAgreesWithWordKeyRow.targs := of_decide_eq_true (by kernel_rfl)
theorem wrap : Try.f3.isWrapper Try.pinned.checked.prog Rows.fnMsqlLiteralPrefixAgreesWithWordKeyRow.wrapper Rows.fnMsqlLiteralPrefixAgreesWithWordKeyRow.mainSum := by
  unfold Func.isWrapper; first | (rw [if_pos (by decide +kernel)]; kernel_rfl) | (rw [if_neg (by decide +kernel)]; exact ⟨rfl, rfl⟩)
theorem over : Rows.fnMsqlLiteralPrefixAgreesWithWordKeyRow.holds Try.pinned (OpenSpec.ofChange Rows.fnMsqlLiteralPrefixAgreesWithWordKeySpec) :=
  OpenClaim.holds_of_wide 3 Try.f3 rfl rfl rfl rfl rfl rfl rfl ⟨rfl, rfl, rfl, rfl, rfl⟩ rfl rfl rfl rfl rfl named Try.func3 closed inst wrap
    (fun os started H enc _ => lifted os started H enc)

/-- ████ THE STATEMENT ████ -/
theorem proved : Rows.FnMsqlLiteralPrefixAgreesWithWordKeySaid :=
  over
#print axioms proved
end Go.Proofs.Qxb6613674a.fnMsqlLiteralPrefixAgreesWithWordKey
