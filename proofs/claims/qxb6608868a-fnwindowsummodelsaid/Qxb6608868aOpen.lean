/-
  An array of ten by value, opened.
-/
import Derived.OpenShut
import Derived.WalkKit
import Derived.ProofKit
import Derived.ChangeOld
import Derived.Test.Qxb6608868aSmall
namespace Go.Proofs.Qxb6608868a.st
open Go.ChangeShapes Go.WideShapes Go.ChangeAt Go.RowKit

theorem okWide_arr {P : Program} {w : World} {r : Reach} {base : Nat} {t e : TypeId} {n : Nat} {v : Value} (ht : P.underlying t = some (.array n e)) (h : Value.okWide P w r base t v) : ∃ cs, v = .agg cs ∧ cs.size = P.cellsOf t := by
  obtain ⟨cs, h1, h2, _⟩ : ∃ cs, v = .agg cs ∧ cs.size = P.cellsOf t ∧ Row.okWide P w r base t cs := by simpa [Value.okWide, ht] using h
  exact ⟨cs, h1, h2⟩

theorem one_at {l : List Value} {i : Nat} {x : Value} (h : (l.drop i).take 1 = [x]) : l[i]? = some x := by
  have : ((l.drop i).take 1)[0]? = some x := by rw [h]; rfl
  rw [List.getElem?_take, if_pos (by omega), List.getElem?_drop] at this
  simpa using this

theorem arr_of {cs : Array Value} (hs : cs.size = 10) (g : Nat → Value) (h : ∀ i, i < 10 → cs.toList[i]? = some (g i)) : cs = arr g := by
  apply Array.ext'
  apply List.ext_getElem?
  intro i
  by_cases hi : i < 10
  · rw [h i hi]; show _ = ((List.range 10).map g)[i]?; simp [hi]
  · rw [List.getElem?_eq_none (by simp; omega), List.getElem?_eq_none (by simp [arr]; omega)]

section
variable {H : Type} {enc : TypeId × Value → H} {P : Program} {w : World} {base b0 : Nat} {spare : Nat → Bool} {held : Bool} {r : Reach} {t e : TypeId} {v : Value} {d : DataW H} {ps : List MemPlace}
theorem cells_ten (ht : P.underlying t = some (.array 10 e)) (ce : P.cellsOf e = 1) (ct : P.cellsOf t = 10) (hval : Value.okWide P w r b0 t v) (hd : DataW.Trod enc P w base spare held t v d ps) :
    ∃ cs : Array Value, v = .agg cs ∧ cs.size = 10 ∧ ∃ m, ∀ i, i < 10 → ∃ x, DataW.trod enc P w base spare held m e ((cs.toList.drop i).take 1) = some x := by
  obtain ⟨cs, rfl, hs⟩ := okWide_arr ht hval
  obtain ⟨fuel, hf⟩ := hd
  obtain ⟨xs, m, _, _, _, hl, hx⟩ := DataW.trod_array ht hf
  refine ⟨cs, rfl, by rw [hs, ct], m, fun i hi => ?_⟩
  have := hx i hi
  rw [ce, Nat.mul_one] at this
  have hxi : xs[i]? = some (xs[i]'(by omega)) := List.getElem?_eq_getElem (by omega)
  exact ⟨_, (this.trans hxi)⟩
theorem open_ten_ints (ht : P.underlying t = some (.array 10 e)) (he : P.underlying e = some (.int .i64)) (ce : P.cellsOf e = 1) (ct : P.cellsOf t = 10) (hval : Value.okWide P w r b0 t v) (hd : DataW.Trod enc P w base spare held t v d ps) :
    ∃ f : Nat → Int, v = .agg (arr fun j => .int .i64 (f j)) ∧ ∀ j, j < 10 → -9223372036854775808 ≤ f j ∧ f j ≤ 9223372036854775807 := by
  obtain ⟨cs, rfl, hs, m, h⟩ := cells_ten ht ce ct hval hd
  have hn : ∀ i, i < 10 → ∃ n, cs.toList[i]? = some (.int .i64 n) ∧ (Lit.int .i64 n).wf = true := fun i hi => by
    obtain ⟨x, hx⟩ := h i hi
    obtain ⟨n, hc, _, hw⟩ := DataW.trod_int he hx
    exact ⟨n, one_at hc, hw⟩
  refine ⟨fun i => match cs.toList[i]? with | some (.int _ n) => n | _ => 0, ?_, fun j hj => ?_⟩
  · congr 1
    refine arr_of hs _ fun i hi => ?_
    obtain ⟨n, hc, _⟩ := hn i hi
    simp only [hc]
  · obtain ⟨n, hc, hw⟩ := hn j hj
    simp only [hc]
    exact bounds_i64 hw
theorem open_ten_bools (ht : P.underlying t = some (.array 10 e)) (he : P.underlying e = some .bool) (ce : P.cellsOf e = 1) (ct : P.cellsOf t = 10) (hval : Value.okWide P w r b0 t v) (hd : DataW.Trod enc P w base spare held t v d ps) :
    ∃ f : Nat → Bool, v = .agg (arr fun j => .bool (f j)) := by
  obtain ⟨cs, rfl, hs, m, h⟩ := cells_ten ht ce ct hval hd
  have hn : ∀ i, i < 10 → ∃ b, cs.toList[i]? = some (.bool b) := fun i hi => by
    obtain ⟨x, hx⟩ := h i hi
    obtain ⟨n, hc, _⟩ := DataW.trod_bool he hx
    exact ⟨n, one_at hc⟩
  refine ⟨fun i => match cs.toList[i]? with | some (.bool n) => n | _ => false, ?_⟩
  congr 1
  refine arr_of hs _ fun i hi => ?_
  obtain ⟨n, hc⟩ := hn i hi
  simp only [hc]
end
end Go.Proofs.Qxb6608868a.st
