/-
  countStatus (30): the walk.
-/
import Derived.Test.Qxb6608868aCnt0
import Derived.Deep.RegionHeld3
import Derived.Deep.DrawnRows
import Derived.Deep.Draws
namespace Go.Proofs.Qxb6608868a.st
open Go.RowKit
set_option maxRecDepth 100000

theorem wrap_in (n : Int) (h : -9223372036854775808 ≤ n ∧ n ≤ 9223372036854775807) : IntKind.i64.wrap n = n := by rw [IntWalk.i64_left]; exact IntWalk.wrap64_in n h

-- No status yet: the slice is nil.
set_option maxHeartbeats 4000000 in
theorem count_nil (w : World) (base p o : Nat) (T : TypeId) (cur : Array Value) (st n : Int) (h : Tal w base p o T cur (.slice none 0 0) []) :
    Calls Try.prog 30 #[.pointer (some ⟨p, o, none⟩), .int .i64 st, .int .i64 n] w fun e w' => e = .returned (.tuple #[]) ∧ ∃ v', Cnt w w' base p o T cur (.slice none 0 0) v' [(st, n)] := by
  obtain ⟨i0, hi, hz0, hz1, hz2⟩ := info_parts info71
  have hv := h.cell
  have H : Hid (Tal w base p o T cur (.slice none 0 0) []) := h
  have HO : Hid (∀ O, (w.alloc O).ownsRow base 71 2 (.slice none 0 0) 0 []) := fun O => h.own.alloc O
  have HN : Hid (∀ T : TypeId, ∀ j u, ([.int .i64 0, .int .i64 0] : List Value)[j]? = some u → (w.alloc (.cells #[.int .i64 0, .int .i64 0] T)).cell? ((⟨w.heap.size, 0, none⟩ : Addr).add j) = some u) :=
    fun T => World.news_of_block (heap_alloc_new w _)
  have HP : Hid (∀ O w1, (w.alloc O).grownBy w1 (Value.slice none 0 0).ownBlock → w1.cell? ⟨p, o + 2, none⟩ = some (.slice none 0 0) ∧ w1.frozen? ⟨p, o + 2, none⟩ = false) := fun O w1 hg => by
    have hp1 : w1.heap[p]? = some (.cells cur T (0, 0)) := by
      rw [hg.block p (by have := h.lt; simp; omega) (by simp [Value.ownBlock]), Below.heap_alloc w O p h.lt]; exact h.blk
    exact ⟨by rw [cell_of_row w1 p (o + 2) cur T (0, 0) hp1]; exact h.val, by simp [World.frozen?, hp1]⟩
  have hb := h.hbase
  clear h
  go_enter Try.func30, Try.ntmps30
  go_wp2
  refine wp_loop_rounds 1 ?_
  rw [rounds_succ]
  go_wp2_with (at_builtin; (refine wpList_append_lies _ (by rfl) (.tmp 63) (.tmp 65) 61 (by rfl) base 71 i0 (.agg #[.int .i64 0, .int .i64 0]) 2 16 Try.underlying61 hi hz0 hz1 hz2 rfl (by omega) (.slice none 0 0) 0 [] (by rfl) (HO.out _) ⟨w.heap.size, 0, none⟩ 1 1 [.int .i64 0, .int .i64 0] (by rfl) rfl (HN.out _) (by simp [Value.oneCell']) (by omega) (by unfold maxLen; omega) (by omega) (by simp; omega) (w.heap.size + 1) (by simp) ?_; intro g cap w1 hown1 hgrow hat hlt1; obtain ⟨hc1, hf1⟩ := HP.out _ _ hgrow))
  obtain ⟨L, hM⟩ := Tal.mid H.out hown1 hgrow hat
  have M : Hid (Mid w (w1.setCell ⟨p, o + 2, none⟩ (.slice (some ⟨g, 0, none⟩) (([] : SL).length + 1) cap)) base p o T cur (.slice none 0 0) [] g cap L) := hM
  clear hM hown1 hgrow hc1 hf1 hat hlt1 hi hz0 hz1 hz2
  simp only [List.length_nil, Nat.zero_add] at M
  generalize w1.setCell ⟨p, o + 2, none⟩ (.slice (some ⟨g, 0, none⟩) 1 cap) = W2 at M ⊢
  obtain ⟨W3, _, he, cW, ⟨u1, c1⟩, ⟨u2, c2⟩, hf, hcnt⟩ := M.out.ins (by rw [H.out.val]; rfl) 0 (Nat.zero_le _) st n
  have he' := he rfl
  subst he'
  have FIN : Hid (Cnt w ((W2.drew.setCell ⟨g, 0, none⟩ (.int .i64 st)).setCell ⟨g, 1, none⟩ (.int .i64 n)) base p o T cur (.slice none 0 0) (.slice (some ⟨g, 0, none⟩) 1 cap) [(st, n)]) := hcnt
  have cW' : W2.cell? ⟨p, o + 2, none⟩ = some (.slice (some ⟨g, 0, none⟩) 1 cap) := cW
  have c1' : W2.cell? ⟨g, 0, none⟩ = some u1 := c1
  have c2' : W2.cell? ⟨g, 1, none⟩ = some u2 := c2
  have f1 : W2.frozen? ⟨g, 0, none⟩ = false := hf 0
  have f2 : W2.frozen? ⟨g, 1, none⟩ = false := hf 1
  have hc1 : 1 ≤ cap := by have := M.out.hcap; simpa using this
  clear he cW c1 c2 hf hcnt
  have hcp := fun wx d a dc sl sc => run_copy_noneK (P := Try.prog) wx 61 61 3 71 2 d a dc sl sc Try.underlying61 size71
  simp only [goInt] at hcp
  have hw1 : IntKind.i64.wrap 1 = 1 := by decide
  have hw2 : IntKind.i64.wrap (0 + 1) = 1 := by decide
  by_cases hcap : cap = 1
  · subst hcap
    have sl1 := slice_end g 1 1 rfl
    have sl2 : ∀ wx, (Instr.slice 61 (.slice (some ⟨g, 0, none⟩) 1 1) (some (.int .i64 0)) none none).run Try.prog wx = .ok (.slice (some ⟨g, 0, none⟩) 1 1) wx := slice_from g 1 1 0 0 rfl (by omega) (by omega)
    go_region_held3 (fun w' => w'.cell? ⟨p, o + 2, none⟩ = some (.slice (some ⟨g, 0, none⟩) 1 1)) (go_keep) (fail)
    clear sl1 sl2 hcp hw1 hw2
    go_wp2
    go_end0
    exact ⟨rfl, _, FIN.out⟩
  · have sl1 : ∀ wx, (Instr.slice 61 (.slice (some ⟨g, 0, none⟩) 1 cap) (some (.int .i64 1)) none none).run Try.prog wx = .ok (.slice (some ⟨g, 2, none⟩) 0 (cap - 1)) wx := slice_from g 1 cap 1 1 rfl (by omega) (by omega)
    have sl2 : ∀ wx, (Instr.slice 61 (.slice (some ⟨g, 0, none⟩) 1 cap) (some (.int .i64 0)) none none).run Try.prog wx = .ok (.slice (some ⟨g, 0, none⟩) 1 cap) wx := slice_from g 1 cap 0 0 rfl (by omega) (by omega)
    go_region_held3 (fun w' => w'.cell? ⟨p, o + 2, none⟩ = some (.slice (some ⟨g, 0, none⟩) 1 cap)) (go_keep) (fail)
    clear sl1 sl2 hcp hw1 hw2
    go_wp2
    go_end0
    exact ⟨rfl, _, FIN.out⟩

-- Some statuses: the slice has a row.
set_option maxHeartbeats 8000000 in
theorem count_slice (w : World) (base p o g0 cap0 len : Nat) (T : TypeId) (cur : Array Value) (xs : SL) (st n : Int) (hl : xs.length = len) (h : Tal w base p o T cur (.slice (some ⟨g0, 0, none⟩) len cap0) xs)
    (hlen : len ≤ 1000) (hC : ∀ x ∈ xs, 0 ≤ x.2 ∧ x.2 ≤ 2000000000000000000) (hn : 0 ≤ n ∧ n ≤ 2000000000000000000) :
    Calls Try.prog 30 #[.pointer (some ⟨p, o, none⟩), .int .i64 st, .int .i64 n] w fun e w' => e = .returned (.tuple #[]) ∧ ∃ v', Cnt w w' base p o T cur (.slice (some ⟨g0, 0, none⟩) len cap0) v' (ins st n xs) := by
  obtain ⟨i0, hi, hz0, hz1, hz2⟩ := info_parts info71
  have hv := h.cell
  have H : Hid (Tal w base p o T cur (.slice (some ⟨g0, 0, none⟩) len cap0) xs) := h
  have HS : Hid (∀ i (hi : i < xs.length), w.cell? ⟨g0, i * 2, none⟩ = some (.int .i64 xs[i].1) ∧ w.cell? ⟨g0, i * 2 + 1, none⟩ = some (.int .i64 xs[i].2)) := fun i hi => by
    subst hl
    exact ⟨by rw [h.own.cellAt (i * 2) (by omega)]; exact (cellsOf_at xs i hi).1, by rw [h.own.cellAt (i * 2 + 1) (by omega)]; exact (cellsOf_at xs i hi).2⟩
  have HG : Hid (∀ i, w.frozen? ⟨g0, i, none⟩ = false) := fun i => by
    rcases h.own.2 with ⟨h', _⟩ | ⟨g', cap', c, h', hb, hg, h4, h5, h6, h7⟩
    · simp at h'
    · simp only [Value.slice.injEq, Option.some.injEq, Addr.mk.injEq, and_true] at h'
      obtain ⟨rfl, _⟩ := h'
      simp [World.frozen?, hg]
  have HO : Hid (∀ O, (w.alloc O).ownsRow base 71 2 (.slice (some ⟨g0, 0, none⟩) len cap0) len (cellsOf xs)) := fun O => by subst hl; exact h.own.alloc O
  have HN : Hid (∀ T : TypeId, ∀ j u, ([.int .i64 0, .int .i64 0] : List Value)[j]? = some u → (w.alloc (.cells #[.int .i64 0, .int .i64 0] T)).cell? ((⟨w.heap.size, 0, none⟩ : Addr).add j) = some u) :=
    fun T => World.news_of_block (heap_alloc_new w _)
  have HP : Hid (∀ O w1, (w.alloc O).grownBy w1 (Value.slice (some ⟨g0, 0, none⟩) len cap0).ownBlock → w1.cell? ⟨p, o + 2, none⟩ = some (.slice (some ⟨g0, 0, none⟩) len cap0) ∧ w1.frozen? ⟨p, o + 2, none⟩ = false) := fun O w1 hg => by
    have hp1 : w1.heap[p]? = some (.cells cur T (0, 0)) := by
      rw [hg.block p (by have := h.lt; simp; omega) h.ne, Below.heap_alloc w O p h.lt]; exact h.blk
    exact ⟨by rw [cell_of_row w1 p (o + 2) cur T (0, 0) hp1]; exact h.val, by simp [World.frozen?, hp1]⟩
  have HM : Hid (∀ g cap w1 O, w1.ownsRow base 71 2 (.slice (some ⟨g, 0, none⟩) (len + 1) cap) (len + 1) (cellsOf xs ++ [.int .i64 0, .int .i64 0]) → (w.alloc O).grownBy w1 (Value.slice (some ⟨g0, 0, none⟩) len cap0).ownBlock → ((Value.slice (some ⟨g0, 0, none⟩) len cap0).ownBlock = some g ∨ g = w.heap.size + 1) →
      ∃ L, Mid w (w1.setCell ⟨p, o + 2, none⟩ (.slice (some ⟨g, 0, none⟩) (len + 1) cap)) base p o T cur (.slice (some ⟨g0, 0, none⟩) len cap0) xs g cap L) := fun g cap w1 O h1 h2 h3 => by
    subst hl; exact h.mid h1 h2 h3
  have MI : Hid (∀ W g cap L, Mid w W base p o T cur (.slice (some ⟨g0, 0, none⟩) len cap0) xs g cap L → ∀ k, k ≤ len →
      ∃ W3, (k < len → (Builtin.copy_ #[61, 61] 3 #[.slice (some ⟨g, (k + 1) * 2, none⟩) (len - k) (cap - (k + 1)), .slice (some ⟨g, k * 2, none⟩) (len + 1 - k) (cap - k)]).run Try.prog W.drew = .ok (.int .i64 ((len - k : Nat) : Int)) W3) ∧
      (k = len → W3 = W.drew) ∧ W3.cell? ⟨p, o + 2, none⟩ = some (.slice (some ⟨g, 0, none⟩) (len + 1) cap) ∧
      (∃ u, W3.cell? ⟨g, k * 2, none⟩ = some u) ∧ (∃ u, W3.cell? ⟨g, k * 2 + 1, none⟩ = some u) ∧ (∀ j, W3.frozen? ⟨g, j, none⟩ = false) ∧
      Cnt w ((W3.setCell ⟨g, k * 2, none⟩ (.int .i64 st)).setCell ⟨g, k * 2 + 1, none⟩ (.int .i64 n)) base p o T cur (.slice (some ⟨g0, 0, none⟩) len cap0) (.slice (some ⟨g, 0, none⟩) (len + 1) cap) (xs.take k ++ (st, n) :: xs.drop k)) := fun W g cap L M k hk => by
    subst hl; exact M.ins (by rw [h.val]; rfl) k hk st n
  have MC : Hid (∀ W g cap L, Mid w W base p o T cur (.slice (some ⟨g0, 0, none⟩) len cap0) xs g cap L → len + 1 ≤ cap) := fun W g cap L M => by
    subst hl; exact M.hcap
  have MV : Hid (∀ W g cap L, Mid w W base p o T cur (.slice (some ⟨g0, 0, none⟩) len cap0) xs g cap L → W.cell? ⟨p, o + 2, none⟩ = some (.slice (some ⟨g, 0, none⟩) (len + 1) cap)) := fun W g cap L M => by
    subst hl
    rw [cell_of_row W p (o + 2) _ T (0, 0) M.blk]
    have := (Array.getElem?_eq_some_iff.1 h.val).1
    simp [this]
  have MF : Hid (∀ k (hk : k < xs.length), Cnt w (w.setCell ⟨g0, k * 2 + 1, none⟩ (.int .i64 (xs[k].2 + n))) base p o T cur (.slice (some ⟨g0, 0, none⟩) len cap0) (.slice (some ⟨g0, 0, none⟩) len cap0) (xs.take k ++ (xs[k].1, xs[k].2 + n) :: xs.drop (k + 1))) := fun k hk => by
    subst hl; exact h.found k hk n
  have HB : Hid (∀ i (hi : i < xs.length), 0 ≤ xs[i].2 ∧ xs[i].2 ≤ 2000000000000000000) := fun i hi => hC _ (List.getElem_mem hi)
  have HL : Hid (xs.length = len) := hl
  have hb := h.hbase
  have n1 := hn.1
  have n2 := hn.2
  clear h hC hn hl
  have hcz := fun wx d a dc sl sc => run_copy_noneK (P := Try.prog) wx 61 61 3 71 2 d a dc sl sc Try.underlying61 size71
  simp only [goInt] at hcz
  go_enter Try.func30, Try.ntmps30
  go_wp2
  go_loop [6] (fun i => ∃ k : Nat, i = .int .i64 k ∧ k ≤ len ∧ ∀ i (h : i < xs.length), i < k → xs[i].1 < st) (fun i => len - (intOf i).toNat)
  case atStart => exact ⟨0, rfl, Nat.zero_le _, fun i h hi => by omega⟩
  case round =>
    obtain ⟨k, rfl, hk, hbef⟩ := hrel
    have BEF : Hid (∀ i (h : i < xs.length), i < k → xs[i].1 < st) := hbef
    clear hbef
    have i1 : (0 : Int) ≤ (k : Int) := by omega
    by_cases hlt : k < len
    · have hkx : k < xs.length := by rw [HL.out]; exact hlt
      obtain ⟨c, c1⟩ := HS.out k hkx
      have b1 := HB.out k hkx
      obtain ⟨s, hsk⟩ : ∃ s, s = xs[k].1 := ⟨_, rfl⟩
      obtain ⟨cc, hck⟩ : ∃ cc, cc = xs[k].2 := ⟨_, rfl⟩
      rw [← hsk] at c
      rw [← hck] at c1 b1
      have b2 := b1.1
      have b3 := b1.2
      have SK : Hid (s = xs[k].1 ∧ cc = xs[k].2) := ⟨hsk, hck⟩
      clear hsk hck b1
      have i2 : (k : Int) < (len : Int) := by omega
      by_cases hst : s < st
      · go_wp2
        go_round
        case rel => exact ⟨k + 1, by go_num, by omega, fun i h hi => by
          rcases Nat.lt_or_ge i k with h' | h'
          · exact BEF.out i h h'
          · obtain rfl : i = k := by omega
            rw [← SK.out.1]; exact hst⟩
        case measure => simp [intOf]; omega
      · have INS := ins_at xs st n k (by omega) BEF.out (fun h => by rw [← SK.out.1]; exact hst)
        rw [dif_pos hkx] at INS
        by_cases heq : s = st
        · have f1 := HG.out (k * 2 + 1)
          have heq' : (s == st) = true := by simp [heq]
          have FIN : Hid (Cnt w (w.setCell ⟨g0, k * 2 + 1, none⟩ (.int .i64 (cc + n))) base p o T cur (.slice (some ⟨g0, 0, none⟩) len cap0) (.slice (some ⟨g0, 0, none⟩) len cap0) (ins st n xs)) := by
            rw [INS, if_pos (by rw [← SK.out.1]; exact heq), SK.out.2]
            exact MF.out k hkx
          clear heq INS SK hkx
          go_wp2
          refine bodyPost_ret (results_none rfl _ _ _) rfl ?_
          exact ⟨rfl, _, FIN.out⟩
        · have heq' : (s == st) = false := by simp [heq]
          have EI : Hid (ins st n xs = xs.take k ++ (st, n) :: xs.drop k) := by show ins st n xs = _; rw [INS, if_neg (by rw [← SK.out.1]; exact heq)]
          clear heq INS SK hkx
          go_wp2_with (at_builtin; (refine wpList_append_lies _ (by rfl) (.tmp 63) (.tmp 65) 61 (by rfl) base 71 i0 (.agg #[.int .i64 0, .int .i64 0]) 2 16 Try.underlying61 hi hz0 hz1 hz2 rfl (by omega) (.slice (some ⟨g0, 0, none⟩) len cap0) len (cellsOf xs) (by rfl) (HO.out _) ⟨w.heap.size, 0, none⟩ 1 1 [.int .i64 0, .int .i64 0] (by rfl) rfl (HN.out _) (by simp [Value.oneCell']) (by omega) (by unfold maxLen; omega) (by omega) (by simp; omega) (w.heap.size + 1) (by simp) ?_; intro g cap w1 hown1 hgrow hat hlt1; obtain ⟨hc1, hf1⟩ := HP.out _ _ hgrow))
          obtain ⟨L, hM⟩ := HM.out _ _ _ _ hown1 hgrow hat
          have M : Hid (Mid w (w1.setCell ⟨p, o + 2, none⟩ (.slice (some ⟨g, 0, none⟩) (len + 1) cap)) base p o T cur (.slice (some ⟨g0, 0, none⟩) len cap0) xs g cap L) := hM
          clear hM hown1 hgrow hc1 hf1 hat hlt1 hi hz0 hz1 hz2
          generalize w1.setCell ⟨p, o + 2, none⟩ (.slice (some ⟨g, 0, none⟩) (len + 1) cap) = W2 at M ⊢
          obtain ⟨W3, hcp, he, cW, ⟨u1, c1⟩, ⟨u2, c2⟩, hf, hcnt⟩ := MI.out W2 g cap L M.out k hk
          have hcap := MC.out W2 g cap L M.out
          have FIN : Hid (Cnt w ((W3.setCell ⟨g, k * 2, none⟩ (.int .i64 st)).setCell ⟨g, k * 2 + 1, none⟩ (.int .i64 n)) base p o T cur (.slice (some ⟨g0, 0, none⟩) len cap0) (.slice (some ⟨g, 0, none⟩) (len + 1) cap) (ins st n xs)) := by rw [EI.out]; exact hcnt
          have f1 : W3.frozen? ⟨g, k * 2, none⟩ = false := hf _
          have f2 : W3.frozen? ⟨g, k * 2 + 1, none⟩ = false := hf _
          have hcp' := hcp hlt
          have cW2 : W2.cell? ⟨p, o + 2, none⟩ = some (.slice (some ⟨g, 0, none⟩) (len + 1) cap) := MV.out W2 g cap L M.out
          clear hcp he hf hcnt
          have hwr : IntKind.i64.wrap ((k : Int) + 1) = (k : Int) + 1 := wrap_in _ ⟨by omega, by omega⟩
          have sl1 : ∀ wx, (Instr.slice 61 (.slice (some ⟨g, 0, none⟩) (len + 1) cap) (some (.int .i64 ((k : Int) + 1))) none none).run Try.prog wx = .ok (.slice (some ⟨g, (k + 1) * 2, none⟩) (len - k) (cap - (k + 1))) wx := fun wx => by
            rw [slice_from g (len + 1) cap (k + 1) ((k : Int) + 1) (by omega) (by omega) (by omega) wx, show len + 1 - (k + 1) = len - k by omega]
          have sl2 := slice_from g (len + 1) cap k (k : Int) rfl (by omega) (by omega)
          clear hcz
          go_region_held3 (fun w' => w'.cell? ⟨p, o + 2, none⟩ = some (.slice (some ⟨g, 0, none⟩) (len + 1) cap)) (go_keep) (fail)
          clear sl1 sl2 hwr hcp'
          have i3 : (k : Int) < (len : Int) + 1 := by omega
          go_wp2
          go_end0
          exact ⟨rfl, _, FIN.out⟩
    · have HK : Hid (k = len) := (by omega : k = len)
      have EI : Hid (ins st n xs = xs.take k ++ (st, n) :: xs.drop k) := by
        show ins st n xs = _
        have e := ins_at xs st n k (by have := HL.out; omega) BEF.out (fun h => by have := HL.out; omega)
        rw [dif_neg (by have := HL.out; omega)] at e
        rw [e, List.take_of_length_le (by have := HL.out; omega), List.drop_eq_nil_of_le (by have := HL.out; omega)]
      go_wp2_with (at_builtin; (refine wpList_append_lies _ (by rfl) (.tmp 63) (.tmp 65) 61 (by rfl) base 71 i0 (.agg #[.int .i64 0, .int .i64 0]) 2 16 Try.underlying61 hi hz0 hz1 hz2 rfl (by omega) (.slice (some ⟨g0, 0, none⟩) len cap0) len (cellsOf xs) (by rfl) (HO.out _) ⟨w.heap.size, 0, none⟩ 1 1 [.int .i64 0, .int .i64 0] (by rfl) rfl (HN.out _) (by simp [Value.oneCell']) (by omega) (by unfold maxLen; omega) (by omega) (by simp; omega) (w.heap.size + 1) (by simp) ?_; intro g cap w1 hown1 hgrow hat hlt1; obtain ⟨hc1, hf1⟩ := HP.out _ _ hgrow))
      obtain ⟨L, hM⟩ := HM.out _ _ _ _ hown1 hgrow hat
      have M : Hid (Mid w (w1.setCell ⟨p, o + 2, none⟩ (.slice (some ⟨g, 0, none⟩) (len + 1) cap)) base p o T cur (.slice (some ⟨g0, 0, none⟩) len cap0) xs g cap L) := hM
      clear hM hown1 hgrow hc1 hf1 hat hlt1 hi hz0 hz1 hz2
      generalize w1.setCell ⟨p, o + 2, none⟩ (.slice (some ⟨g, 0, none⟩) (len + 1) cap) = W2 at M ⊢
      obtain ⟨W3, hcp, he, cW, ⟨u1, c1⟩, ⟨u2, c2⟩, hf, hcnt⟩ := MI.out W2 g cap L M.out k hk
      have hcap := MC.out W2 g cap L M.out
      have he' := he HK.out
      subst he'
      have FIN : Hid (Cnt w ((W2.drew.setCell ⟨g, k * 2, none⟩ (.int .i64 st)).setCell ⟨g, k * 2 + 1, none⟩ (.int .i64 n)) base p o T cur (.slice (some ⟨g0, 0, none⟩) len cap0) (.slice (some ⟨g, 0, none⟩) (len + 1) cap) (ins st n xs)) := by rw [EI.out]; exact hcnt
      have f1 : W2.frozen? ⟨g, k * 2, none⟩ = false := hf _
      have f2 : W2.frozen? ⟨g, k * 2 + 1, none⟩ = false := hf _
      have cW' : W2.cell? ⟨p, o + 2, none⟩ = some (.slice (some ⟨g, 0, none⟩) (len + 1) cap) := cW
      have c1' : W2.cell? ⟨g, k * 2, none⟩ = some u1 := c1
      have c2' : W2.cell? ⟨g, k * 2 + 1, none⟩ = some u2 := c2
      clear hcp he hf hcnt cW c1 c2
      have hwr : IntKind.i64.wrap ((k : Int) + 1) = (k : Int) + 1 := wrap_in _ ⟨by omega, by omega⟩
      have sl2 := slice_from g (len + 1) cap k (k : Int) rfl (by omega) (by omega)
      have i3 : (k : Int) < (len : Int) + 1 := by omega
      by_cases hce : cap = len + 1
      · subst hce
        have sl1 := slice_end g (len + 1) ((k : Int) + 1) (by have := HK.out; omega)
        go_region_held3 (fun w' => w'.cell? ⟨p, o + 2, none⟩ = some (.slice (some ⟨g, 0, none⟩) (len + 1) (len + 1))) (go_keep) (fail)
        clear sl1 sl2 hwr hcz
        go_wp2
        go_end0
        exact ⟨rfl, _, FIN.out⟩
      · have sl1 : ∀ wx, (Instr.slice 61 (.slice (some ⟨g, 0, none⟩) (len + 1) cap) (some (.int .i64 ((k : Int) + 1))) none none).run Try.prog wx = .ok (.slice (some ⟨g, (k + 1) * 2, none⟩) 0 (cap - (k + 1))) wx := fun wx => by
          rw [slice_from g (len + 1) cap (k + 1) ((k : Int) + 1) (by omega) (by omega) (by have := HK.out; omega) wx, show len + 1 - (k + 1) = 0 by have := HK.out; omega]
        go_region_held3 (fun w' => w'.cell? ⟨p, o + 2, none⟩ = some (.slice (some ⟨g, 0, none⟩) (len + 1) cap)) (go_keep) (fail)
        clear sl1 sl2 hwr hcz
        go_wp2
        go_end0
        exact ⟨rfl, _, FIN.out⟩

/-- countStatus: the tally's statuses become 'ins st n xs'. -/
theorem count30 (w : World) (base p o : Nat) (T : TypeId) (cur : Array Value) (v : Value) (xs : SL) (st n : Int) (h : Tal w base p o T cur v xs)
    (hlen : xs.length ≤ 1000) (hC : ∀ x ∈ xs, 0 ≤ x.2 ∧ x.2 ≤ 2000000000000000000) (hn : 0 ≤ n ∧ n ≤ 2000000000000000000) :
    Calls Try.prog 30 #[.pointer (some ⟨p, o, none⟩), .int .i64 st, .int .i64 n] w fun e w' => e = .returned (.tuple #[]) ∧ ∃ v', Cnt w w' base p o T cur v v' (ins st n xs) := by
  rcases h.own.2 with ⟨rfl, h0⟩ | ⟨g, cap, c, rfl, _⟩
  · obtain rfl : xs = [] := List.eq_nil_of_length_eq_zero h0
    exact count_nil w base p o T cur st n h
  · exact count_slice w base p o g cap xs.length T cur xs st n rfl h hlen hC hn
end Go.Proofs.Qxb6608868a.st
