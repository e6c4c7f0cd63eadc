/-
  The proof of the given statement: the walk of Main under the row's frame.
-/
import Derived.Test.Qxb6608868aRows
import Derived.WalkKit
import Derived.ProofKit
import Derived.OpenShut
import Derived.ChangeOld
import Derived.Below
import Derived.Test.Qxb6608868aMain
import Derived.Test.Qxb6608868aOpen
import Derived.Test.Qxb6608868aFacts5
namespace Go.Proofs.Qxb6608868a.fnWindowSumModel
open Go.ChangeShapes Go.WideShapes Go.ChangeAt Go.RowKit
set_option linter.unusedVariables false

theorem own : ownKnob Try.prog.godebug = none := by kernel_rfl
theorem laidOut : laidOutB Try.prog = true := by kernel_rfl
theorem cells2 : Try.prog.cellsOf 2 = 1 := by kernel_rfl
theorem cells3 : Try.prog.cellsOf 3 = 1 := by kernel_rfl
theorem cells4 : Try.prog.cellsOf 4 = 1 := by kernel_rfl
theorem cells33 : Try.prog.cellsOf 33 = 10 := by kernel_rfl
theorem cells34 : Try.prog.cellsOf 34 = 10 := by kernel_rfl
theorem cells35 : Try.prog.cellsOf 35 = 10 := by kernel_rfl

/-! ### THE WALK -/
theorem walk (I : st.Inp) (rot : Int) (w : World) (h2 : I.now ≤ 9223372036854775807) (hs : ∀ j, j < 10 → -9223372036854775808 ≤ I.sl j ∧ I.sl j ≤ 9223372036854775807) :
    Calls Try.prog 5 (I.args rot) w fun e w' => e = .returned (.bool true) ∧ Below w.heap.size w w' := by
  by_cases c1 : I.org < 0
  · exact st.early1 I rot w c1
  by_cases c2 : I.now < I.org
  · exact st.early2 I rot w c1 c2
  by_cases c3 : rot < 0
  · exact st.early3 I rot w c1 c2 c3
  by_cases c4 : 9 < rot
  · exact st.early4 I rot w c1 c2 c3 c4
  obtain ⟨n, rfl⟩ : ∃ n : Nat, rot = n := ⟨rot.toNat, by omega⟩
  exact st.main5 I n w (by omega) (by omega) h2 (by omega) hs

/-! ### THE ROW's STEP -/
set_option maxRecDepth 100000 in
theorem lifted (os : Os) (started : os.Started) (H : Type) (enc : TypeId × Value → H) :
    ReturnsInHanded {} Try.checked os 5 .any (Rows.fnWindowSumModelSpec.pre6 enc Try.prog Try.f5 Rows.fnWindowSumModelRow.domain false) (Rows.fnWindowSumModelSpec.post enc Try.prog Try.f5 false true false false) := by
  refine returnsInHanded_of_change (C := Try.checked) own started (by kernel_rfl) Try.func5
    (ChangeSpec.witness6 (enc := enc) (C := Try.checked) false ⟨#[], #[.int .i64 0, .int .i64 0, .agg #[.int .i64 0, .int .i64 0, .int .i64 0, .int .i64 0, .int .i64 0, .int .i64 0, .int .i64 0, .int .i64 0, .int .i64 0, .int .i64 0], .agg #[.int .i64 0, .int .i64 0, .int .i64 0, .int .i64 0, .int .i64 0, .int .i64 0, .int .i64 0, .int .i64 0, .int .i64 0, .int .i64 0], .agg #[.int .i64 0, .int .i64 0, .int .i64 0, .int .i64 0, .int .i64 0, .int .i64 0, .int .i64 0, .int .i64 0, .int .i64 0, .int .i64 0], .agg #[.bool false, .bool false, .bool false, .bool false, .bool false, .bool false, .bool false, .bool false, .bool false, .bool false], .agg #[.int .i64 0, .int .i64 0, .int .i64 0, .int .i64 0, .int .i64 0, .int .i64 0, .int .i64 0, .int .i64 0, .int .i64 0, .int .i64 0], .agg #[.int .i64 0, .int .i64 0, .int .i64 0, .int .i64 0, .int .i64 0, .int .i64 0, .int .i64 0, .int .i64 0, .int .i64 0, .int .i64 0], .int .i64 0], []⟩ 8 (by kernel_rfl) (by kernel_rfl) (by kernel_rfl) (by kernel_rfl)) ?_
  intro W base args ds gs before hval0 hW hcnd _
  have hval : ∀ (j : Nat) t v, Try.f5.params[j]? = some t → args[j]? = some v → Value.okWide Try.prog W .any base t v := hval0
  have hW' := hW
  obtain ⟨p, q, hA0, hV, rfl, hfz, hnd⟩ := hW
  have hA : DataW.TrodAll enc Try.prog W 0 (fun _ => true) true Try.f5.params.toList args.toList ds p := hA0
  rw [Try.params5] at hA hval
  obtain ⟨v0, vs0, d0, ds0, p0, q0, hargs, rfl, rfl, h0, r0⟩ := trodAll_cons hA
  obtain ⟨v1, vs1, d1, ds1, p1, q1, rfl, rfl, rfl, h1, r1⟩ := trodAll_cons r0
  obtain ⟨v2, vs2, d2, ds2, p2, q2, rfl, rfl, rfl, h2, r2⟩ := trodAll_cons r1
  obtain ⟨v3, vs3, d3, ds3, p3, q3, rfl, rfl, rfl, h3, r3⟩ := trodAll_cons r2
  obtain ⟨v4, vs4, d4, ds4, p4, q4, rfl, rfl, rfl, h4, r4⟩ := trodAll_cons r3
  obtain ⟨v5, vs5, d5, ds5, p5, q5, rfl, rfl, rfl, h5, r5⟩ := trodAll_cons r4
  obtain ⟨v6, vs6, d6, ds6, p6, q6, rfl, rfl, rfl, h6, r6⟩ := trodAll_cons r5
  obtain ⟨v7, vs7, d7, ds7, p7, q7, rfl, rfl, rfl, h7, r7⟩ := trodAll_cons r6
  obtain ⟨v8, vs8, d8, ds8, p8, q8, rfl, rfl, rfl, h8, r8⟩ := trodAll_cons r7
  obtain ⟨rfl, rfl, rfl⟩ := trodAll_nil r8
  obtain rfl : args = #[v0, v1, v2, v3, v4, v5, v6, v7, v8] := by cases args; simp_all
  obtain ⟨rfl, rfl⟩ := trodVars_none hV
  have lt : ∀ {t : TypeId} {v : Value} {d : DataW H} {ps : List MemPlace}, DataW.Trod enc Try.prog W 0 (fun _ => true) true t v d ps → ∀ x ∈ ps, x.block < W.heap.size := fun k => by obtain ⟨m, hm⟩ := k; exact DataW.trod_lt m _ _ _ hm
  have k0 := h0
  have k1 := h1
  have k8 := h8
  obtain ⟨org, hv0, _, _, wf0⟩ := open_int Try.underlying2 (hval 0 2 v0 rfl rfl) k0
  obtain ⟨now, hv1, _, _, wf1⟩ := open_int Try.underlying2 (hval 1 2 v1 rfl rfl) k1
  obtain ⟨rot, hv8, _, _, wf8⟩ := open_int Try.underlying3 (hval 8 3 v8 rfl rfl) k8
  obtain ⟨sl, hv2, bs⟩ := st.open_ten_ints Try.underlying33 Try.underlying2 cells2 cells33 (hval 2 33 v2 rfl rfl) h2
  obtain ⟨rq, hv3, _⟩ := st.open_ten_ints Try.underlying33 Try.underlying2 cells2 cells33 (hval 3 33 v3 rfl rfl) h3
  obtain ⟨er, hv4, _⟩ := st.open_ten_ints Try.underlying33 Try.underlying2 cells2 cells33 (hval 4 33 v4 rfl rfl) h4
  obtain ⟨has, hv5⟩ := st.open_ten_bools Try.underlying34 Try.underlying4 cells4 cells34 (hval 5 34 v5 rfl rfl) h5
  obtain ⟨stt, hv6, _⟩ := st.open_ten_ints Try.underlying35 Try.underlying3 cells3 cells35 (hval 6 35 v6 rfl rfl) h6
  obtain ⟨cnt, hv7, _⟩ := st.open_ten_ints Try.underlying33 Try.underlying2 cells2 cells33 (hval 7 33 v7 rfl rfl) h7
  clear hA0 hval0
  have wk := walk ⟨org, now, sl, rq, er, has, stt, cnt⟩ rot W (bounds_i64 wf1).2 bs
  have ea : st.Inp.args ⟨org, now, sl, rq, er, has, stt, cnt⟩ rot = #[v0, v1, v2, v3, v4, v5, v6, v7, v8] := by
    rw [hv0, hv1, hv2, hv3, hv4, hv5, hv6, hv7, hv8]; rfl
  rw [ea] at wk
  refine wk.mono fun e W' ⟨he, bel⟩ => ?_
  subst he
  have b2 : ∀ {t : TypeId} {v : Value} {d : DataW H} {ps : List MemPlace}, Try.prog.readableRec t = true → t < Try.prog.types.size → DataW.Trod enc Try.prog W 0 (fun _ => true) true t v d ps → DataW.Trod enc Try.prog W' 0 (fun b => decide (b < W.heap.size)) true t v d ps := fun hr ht k => Below.trod laidOut hr ht k bel (lt k)
  have s2 : (2 : Nat) < Try.prog.types.size := of_decide_eq_true (by kernel_rfl)
  have s3 : (3 : Nat) < Try.prog.types.size := of_decide_eq_true (by kernel_rfl)
  have s33 : (33 : Nat) < Try.prog.types.size := of_decide_eq_true (by kernel_rfl)
  have s34 : (34 : Nat) < Try.prog.types.size := of_decide_eq_true (by kernel_rfl)
  have s35 : (35 : Nat) < Try.prog.types.size := of_decide_eq_true (by kernel_rfl)
  have c2 : Try.prog.readableRec 2 = true := by kernel_rfl
  have c3 : Try.prog.readableRec 3 = true := by kernel_rfl
  have c33 : Try.prog.readableRec 33 = true := by kernel_rfl
  have c34 : Try.prog.readableRec 34 = true := by kernel_rfl
  have c35 : Try.prog.readableRec 35 = true := by kernel_rfl
  exact ⟨_, rfl, _, _, _, [], _, [], hW', trodAll_mk1 (shut_bool Try.underlying4 _), (trodAll_cons_mk (b2 c2 s2 h0) (trodAll_cons_mk (b2 c2 s2 h1) (trodAll_cons_mk (b2 c33 s33 h2) (trodAll_cons_mk (b2 c33 s33 h3) (trodAll_cons_mk (b2 c33 s33 h4) (trodAll_cons_mk (b2 c34 s34 h5) (trodAll_cons_mk (b2 c35 s35 h6) (trodAll_cons_mk (b2 c33 s33 h7) (trodAll_cons_mk (b2 c3 s3 h8) trodAll_mk0))))))))), rfl, bel.frame _, fun h => by cases h⟩

theorem named : Try.pinned.checked.prog.funcNamed Rows.fnWindowSumModelRow.func = some 5 := by kernel_rfl
theorem inst : Try.f5.isInstance Try.pinned.checked.prog Rows.fnWindowSumModelRow.origin Rows.fnWindowSumModelRow.targs := of_decide_eq_true (by kernel_rfl)
theorem wrap : Try.f5.isWrapper Try.pinned.checked.prog Rows.fnWindowSumModelRow.wrapper Rows.fnWindowSumModelRow.mainSum := by
  unfold Func.isWrapper; first | (rw [if_pos (by decide +kernel)]; kernel_rfl) | (rw [if_neg (by decide +kernel)]; exact ⟨rfl, rfl⟩)
theorem over : Rows.fnWindowSumModelRow.holds Try.pinned (OpenSpec.ofChange Rows.fnWindowSumModelSpec) :=
  OpenClaim.holds_of_wide 5 Try.f5 rfl rfl rfl rfl rfl rfl rfl ⟨rfl, rfl, rfl, rfl, rfl⟩ rfl rfl rfl rfl rfl named Try.func5 closed inst wrap
    (fun os started H enc _ => lifted os started H enc)

/-- THE STATEMENT -/
theorem proved : Rows.FnWindowSumModelSaid := over
#print axioms proved
end Go.Proofs.Qxb6608868a.fnWindowSumModel
