/-
  The proof of the given statement: the walks of Main6 under the row's frame (after the shells that were given for rows over slices of integers).
-/
import Derived.Test.Qxb6613596aRows
import Derived.WalkKit
import Derived.ProofKit
import Derived.OpenShut
import Derived.ShutString
import Derived.ChangeOld
import Derived.Below
import Derived.SliceStrings
import Derived.Deep.Grids
import Derived.Test.Qxb6613596aMain6
import Derived.Test.Qxb6613596aMain6B
import Derived.Test.Qxb6613596aMain6C
import Derived.Test.Qxb6613596aMain6D
import Derived.Test.Qxb6613596aFacts6
namespace Go.Proofs.Qxb6613596a.fnCheckerAddKeepsCheckersApart
open Go.ChangeShapes Go.WideShapes Go.ChangeAt Go.RowKit
open Go.ChangeMaps (open_string shut_string)
set_option linter.unusedVariables false

theorem own : ownKnob Try.prog.godebug = none := by kernel_rfl
theorem laidOut : laidOutB Try.prog = true := by kernel_rfl

theorem els_of {w : World} {a : Addr} {n m : Nat} {f : Nat → Value} (hn : n ≤ m) (h : ∀ i, i < m → w.cell? (a.add i) = some (f i)) : chk.Els w (some a) n f := by
  by_cases h0 : n = 0
  · exact .inl h0
  · obtain ⟨b, off, spot⟩ := a
    have hspot : spot = none := by simpa [Addr.add] using World.cell?_spot (h 0 (by omega))
    subst hspot
    have hc : ∀ j, j < n → w.cell? ⟨b, off + j, none⟩ = some (f j) := fun j hj => by rw [← Go.WideShapes.add_plain]; exact h j (by omega)
    exact .inr ⟨b, off, rfl, World.block_lt_of_cell? w ⟨b, off + 0, none⟩ (hc 0 (by omega)), hc⟩

/-! ### THE WALK -/
theorem walk (a0 a1 a2 : Option Addr) (len0 cap0 len1 cap1 len2 cap2 : Nat) (L : Nat → Int) (T : Nat → ByteArray) (F : Nat → Bool) (w : World) (w0 : chk.Els w a0 len0 fun j => .int .i64 (L j)) (w1 : chk.Els w a1 len1 fun j => .string (T j)) (w2 : chk.Els w a2 len2 fun j => .bool (F j)) :
    Calls Try.prog 6 #[.slice a0 len0 cap0, .slice a1 len1 cap1, .slice a2 len2 cap2] w fun e w' => e = .returned (.bool true) ∧ Below w.heap.size w w' := by
  by_cases hbig : 65536 < len0 ∨ 65536 < len1 ∨ 65536 < len2 ∨ 1048576 < 8 * len0 + 16 * len1 + len2
  · exact chk.main6_big a0 a1 a2 len0 cap0 len1 cap1 len2 cap2 T w w1 hbig
  have h0 : len0 ≤ 65536 := by omega
  have h1 : len1 ≤ 65536 := by omega
  have h2 : len2 ≤ 65536 := by omega
  have h3 : 8 * len0 + 16 * len1 + len2 ≤ 1048576 := by omega
  clear hbig
  rcases w1 with rfl | ⟨bt, ot, rfl, hbt, ht⟩
  · exact chk.main6_none a0 a1 a2 len0 cap0 cap1 len2 cap2 w h0 h2 (by omega)
  by_cases hz1 : len1 = 0
  · subst hz1
    exact chk.main6_none a0 _ a2 len0 cap0 cap1 len2 cap2 w h0 h2 (by omega)
  by_cases hz0 : len0 = 0
  · subst hz0
    exact chk.main6_zero0 a0 a2 bt ot cap0 len1 cap1 len2 cap2 T w hbt h1 h2 (by omega) ht
  by_cases hz2 : len2 = 0
  · subst hz2
    by_cases hm : len1 < len0
    · exact chk.main6_zero2 a0 a2 bt ot len0 cap0 len1 cap1 cap2 T w hbt h1 h0 (by omega) (by omega) (by omega) hm ht
    · exact chk.main6_zero3 a0 a2 bt ot len0 cap0 len1 cap1 cap2 T w hbt h1 h0 (by omega) (by omega) hm ht
  rcases w0 with h | ⟨bl, ol, rfl, hbl, hl⟩
  · exact absurd h hz0
  rcases w2 with h | ⟨bf, ff, rfl, hbf, hf⟩
  · exact absurd h hz2
  by_cases hm : len1 < len0
  · by_cases hm2 : len2 < len1
    · exact chk.main6_A bl ol bt ot bf ff len0 cap0 len1 cap1 len2 cap2 L T F w hbl hbt hbf h0 h1 h2 h3 hm hm2 hl ht hf
    · exact chk.main6_B bl ol bt ot bf ff len0 cap0 len1 cap1 len2 cap2 L T F w hbl hbt hbf h0 h1 h2 h3 hm hm2 hl ht hf
  · by_cases hm2 : len2 < len0
    · exact chk.main6_C bl ol bt ot bf ff len0 cap0 len1 cap1 len2 cap2 L T F w hbl hbt hbf h0 h1 h2 h3 hm hm2 hl ht hf
    · exact chk.main6_D bl ol bt ot bf ff len0 cap0 len1 cap1 len2 cap2 L T F w hbl hbt hbf h0 h1 h2 h3 hm hm2 hl ht hf

/-! ### THE ROW's STEP -/
set_option maxRecDepth 100000 in
theorem lifted (os : Os) (started : os.Started) (H : Type) (enc : TypeId × Value → H) :
    ReturnsInHanded {} Try.checked os 6 .any (Rows.fnCheckerAddKeepsCheckersApartSpec.pre6 enc Try.prog Try.f6 Rows.fnCheckerAddKeepsCheckersApartRow.domain false) (Rows.fnCheckerAddKeepsCheckersApartSpec.post enc Try.prog Try.f6 false true false false) := by
  refine returnsInHanded_of_change (C := Try.checked) own started (by kernel_rfl) Try.func6
    (ChangeSpec.witness6 (enc := enc) (C := Try.checked) false ⟨#[], #[.slice none 0 0, .slice none 0 0, .slice none 0 0], []⟩ 8 (by kernel_rfl) (by kernel_rfl) (by kernel_rfl) (by kernel_rfl)) ?_
  intro W base args ds gs before hval0 hW hcnd _
  have hval : ∀ (j : Nat) t v, Try.f6.params[j]? = some t → args[j]? = some v → Value.okWide Try.prog W .any base t v := hval0
  have hW' := hW
  obtain ⟨p, q, hA0, hV, rfl, hfz, hnd⟩ := hW
  have hA : DataW.TrodAll enc Try.prog W 0 (fun _ => true) true Try.f6.params.toList args.toList ds p := hA0
  rw [Try.params6] at hA hval
  obtain ⟨v0, vs0, d0, ds0, p0, q0, hargs, rfl, rfl, h0, r0⟩ := trodAll_cons hA
  obtain ⟨v1, vs1, d1, ds1, p1, q1, rfl, rfl, rfl, h1, r1⟩ := trodAll_cons r0
  obtain ⟨v2, vs2, d2, ds2, p2, q2, rfl, rfl, rfl, h2, r2⟩ := trodAll_cons r1
  obtain ⟨rfl, rfl, rfl⟩ := trodAll_nil r2
  obtain rfl : args = #[v0, v1, v2] := by cases args; simp_all
  obtain ⟨rfl, rfl⟩ := trodVars_none hV
  obtain ⟨a0, len0, cap0, rfl⟩ := okWide_slice Try.underlying25 (hval 0 25 v0 rfl rfl)
  obtain ⟨a1, len1, cap1, rfl⟩ := okWide_slice Try.underlying26 (hval 1 26 v1 rfl rfl)
  obtain ⟨a2, len2, cap2, rfl⟩ := okWide_slice Try.underlying34 (hval 2 34 v2 rfl rfl)
  have k0 := h0
  have lt0 : ∀ x ∈ p0, x.block < W.heap.size := by obtain ⟨m, hm⟩ := k0; exact DataW.trod_lt m _ _ _ hm
  have k1 := h1
  have lt1 : ∀ x ∈ p1, x.block < W.heap.size := by obtain ⟨m, hm⟩ := k1; exact DataW.trod_lt m _ _ _ hm
  have k2 := h2
  have lt2 : ∀ x ∈ p2, x.block < W.heap.size := by obtain ⟨m, hm⟩ := k2; exact DataW.trod_lt m _ _ _ hm
  obtain ⟨L, w0⟩ : ∃ L : Nat → Int, chk.Els W a0 len0 fun j => .int .i64 (L j) := by
    obtain ⟨fuel, hf⟩ := h0
    rcases open_ints Try.underlying25 Try.underlying3 (by kernel_rfl) hf with ⟨hcs, _⟩ | ⟨x, l, c, zs, hcs, _, hl, hm, hz, _, hcell, hwz⟩
    · simp [Value.cells] at hcs
      obtain ⟨rfl, rfl, rfl⟩ := hcs
      exact ⟨fun _ => 0, .inl rfl⟩
    · simp [Value.cells] at hcs
      obtain ⟨rfl, rfl, rfl⟩ := hcs
      exact ⟨fun j => zs.getD j 0, els_of (m := zs.length) (by simp at hz; omega) hcell⟩
  obtain ⟨T, w1⟩ : ∃ T : Nat → ByteArray, chk.Els W a1 len1 fun j => .string (T j) := by
    obtain ⟨fuel, hf⟩ := h1
    rcases open_strings Try.underlying26 Try.underlying9 (by kernel_rfl) hf with ⟨hcs, _⟩ | ⟨x, l, c, ss, hcs, _, hl, hm, hz, _, hcell, hwz⟩
    · simp [Value.cells] at hcs
      obtain ⟨rfl, rfl, rfl⟩ := hcs
      exact ⟨fun _ => ByteArray.empty, .inl rfl⟩
    · simp [Value.cells] at hcs
      obtain ⟨rfl, rfl, rfl⟩ := hcs
      exact ⟨fun j => ss.getD j ByteArray.empty, els_of (m := ss.length) (by simp at hz; omega) hcell⟩
  obtain ⟨F, w2⟩ : ∃ F : Nat → Bool, chk.Els W a2 len2 fun j => .bool (F j) := by
    obtain ⟨fuel, hf⟩ := h2
    rcases Deep.open_bools Try.underlying34 Try.underlying4 (by kernel_rfl) hf with ⟨hcs, _⟩ | ⟨x, l, c, B, hcs, _, hl, hm, _, hcell⟩
    · simp [Value.cells] at hcs
      obtain ⟨rfl, rfl, rfl⟩ := hcs
      exact ⟨fun _ => false, .inl rfl⟩
    · simp [Value.cells] at hcs
      obtain ⟨rfl, rfl, rfl⟩ := hcs
      exact ⟨B, els_of hl hcell⟩
  clear hA0 hval0
  refine (walk a0 a1 a2 len0 cap0 len1 cap1 len2 cap2 L T F W w0 w1 w2).mono fun e W' ⟨he, bel⟩ => ?_
  subst he
  exact ⟨_, rfl, _, _, _, [], _, [], hW', trodAll_mk1 (shut_bool Try.underlying4 _), (trodAll_cons_mk (Below.trod laidOut (by kernel_rfl) (of_decide_eq_true (by kernel_rfl)) k0 bel lt0) (trodAll_cons_mk (Below.trod laidOut (by kernel_rfl) (of_decide_eq_true (by kernel_rfl)) k1 bel lt1) (trodAll_cons_mk (Below.trod laidOut (by kernel_rfl) (of_decide_eq_true (by kernel_rfl)) k2 bel lt2) trodAll_mk0))), rfl, bel.frame _, fun h => by cases h⟩

theorem named : Try.pinned.checked.prog.funcNamed Rows.fnCheckerAddKeepsCheckersApartRow.func = some 6 := by kernel_rfl
theorem inst : Try.f6.isInstance Try.pinned.checked.prog Rows.fnCheckerAddKeepsCheckersApartRow.origin Rows.fnCheckerAddKeepsCheckersApartRow.targs := of_decide_eq_true (by kernel_rfl)
theorem wrap : Try.f6.isWrapper Try.pinned.checked.prog Rows.fnCheckerAddKeepsCheckersApartRow.wrapper Rows.fnCheckerAddKeepsCheckersApartRow.mainSum := by
  unfold Func.isWrapper; first | (rw [if_pos (by decide +kernel)]; kernel_rfl) | (rw [if_neg (by decide +kernel)]; exact ⟨rfl, rfl⟩)
theorem over : Rows.fnCheckerAddKeepsCheckersApartRow.holds Try.pinned (OpenSpec.ofChange Rows.fnCheckerAddKeepsCheckersApartSpec) :=
  OpenClaim.holds_of_wide 6 Try.f6 rfl rfl rfl rfl rfl rfl rfl ⟨rfl, rfl, rfl, rfl, rfl⟩ rfl rfl rfl rfl rfl named Try.func6 closed inst wrap
    (fun os started H enc _ => lifted os started H enc)

/-- THE STATEMENT -/
theorem proved : Rows.FnCheckerAddKeepsCheckersApartSaid := over
#print axioms proved
end Go.Proofs.Qxb6613596a.fnCheckerAddKeepsCheckersApart
