/-
  The walk of FnCheckerAddKeepsCheckersApart (6): a further case (tools/gen_main6.py).
-/
import Derived.Test.Qxb6613596aMain6
namespace Go.Proofs.Qxb6613596a.chk
open Go.RowKit
set_option maxRecDepth 1000000

set_option maxHeartbeats 8000000 in
theorem main6_D (bl ol bt ot bf of N c0 n1 c1 n2 c2 : Nat) (L : Nat → Int) (T : Nat → ByteArray) (F : Nat → Bool) (w : World) (hbl : bl < w.heap.size) (hbt : bt < w.heap.size) (hbf : bf < w.heap.size)
    (h0 : N ≤ 65536) (h1 : n1 ≤ 65536) (h2 : n2 ≤ 65536) (h3 : 8 * N + 16 * n1 + n2 ≤ 1048576) (m1 : ¬ n1 < N) (m2 : ¬ n2 < N)
    (hl : ∀ j, j < N → w.cell? ⟨bl, ol + j, none⟩ = some (.int .i64 (L j))) (ht : ∀ j, j < n1 → w.cell? ⟨bt, ot + j, none⟩ = some (.string (T j))) (hf : ∀ j, j < n2 → w.cell? ⟨bf, of + j, none⟩ = some (.bool (F j))) :
    Calls Try.prog 6 #[.slice (some ⟨bl, ol, none⟩) N c0, .slice (some ⟨bt, ot, none⟩) n1 c1, .slice (some ⟨bf, of, none⟩) n2 c2] w fun e w' => e = .returned (.bool true) ∧ Below w.heap.size w w' := by
  have HE : Hid (Els w (some ⟨bt, ot, none⟩) n1 fun j => .string (T j)) := .inr ⟨bt, ot, rfl, hbt, ht⟩
  have HC : Hid (∀ j, j < n1 → w.cell? ⟨bt, ot + j, none⟩ = some (.string (T j))) := ht
  have HL : Hid (∀ wx, Below w.heap.size w wx → ∀ j, j < N → wx.cell? ⟨bl, ol + j, none⟩ = some (.int .i64 (L j))) := fun wx hx j hj => by rw [hx.cell hbl]; exact hl j hj
  have HT : Hid (∀ wx, Below w.heap.size w wx → ∀ j, j < n1 → wx.cell? ⟨bt, ot + j, none⟩ = some (.string (T j))) := fun wx hx j hj => by rw [hx.cell hbt]; exact ht j hj
  have HF : Hid (∀ wx, Below w.heap.size w wx → ∀ j, j < n2 → wx.cell? ⟨bf, of + j, none⟩ = some (.bool (F j))) := fun wx hx j hj => by rw [hx.cell hbf]; exact hf j hj
  clear hl ht hf
  go_enter Try.func6, Try.ntmps6
  go_wp2_with fail
  refine (bytes13 _ _ _ _ _ _ _ _ _ T _ HE.out).mono ?_
  rintro e w ⟨⟨r, rfl⟩, rfl⟩
  cases r
  · go_wp2
    go_ret
    exact ⟨rfl, Below.refl _ _⟩
  go_wp2
  go_loop [7, 8] (fun z i => ∃ (k : Nat) (m : Int), i = .int .i64 k ∧ k ≤ n1 ∧ z = .int .i64 m) (fun _ i => n1 - (intOf i).toNat)
  case atStart => exact ⟨0, _, rfl, Nat.zero_le _, rfl⟩
  case round =>
    obtain ⟨k, m, rfl, hk, rfl⟩ := hrel
    by_cases hlt : k < n1
    · have c := HC.out k hlt
      generalize T k = s at c
      go_wp2
      all_goals first
        | (go_ret; exact ⟨rfl, Below.refl _ _⟩)
        | (go_round; (case rel => exact ⟨k + 1, _, by go_num, by omega, rfl⟩); (case measure => simp [intOf]; omega))
    · go_wp2_with fail
      refine (new9' w w.heap.size rfl).mono ?_
      rintro e w1 ⟨rfl, rfl⟩
      go_wp2_with fail
      refine (new9' _ (w.heap.size + 1) (by simp)).mono ?_
      rintro e w1 ⟨rfl, rfl⟩
      clear hk hlt
      go_wp2_with fail
      go_loopw [12, 13] (fun f i wr => ∃ (k : Nat), i = .int .i64 k ∧ k ≤ N ∧ f = .int .i64 (sel L T F true k).length ∧ ∃ v1 v2, Chk wr w.heap.size w.heap.size v1 (sel L T F true k) ∧ Chk wr w.heap.size (w.heap.size + 1) v2 (sel L T F false k) ∧ Apart v1 v2 ∧ Below w.heap.size w wr) (fun _ i _ => N - (intOf i).toNat)
      case atStart => exact ⟨0, rfl, Nat.zero_le _, rfl, _, _, (chk_two w).1, (chk_two w).2.1, fun g hg => by simp [Value.ownBlock] at hg, (chk_two w).2.2⟩
      case round =>
        obtain ⟨k, rfl, hk, rfl, v1, v2, hc1, hc2, hap, hbel⟩ := hrel
        have CH1 : Hid (Chk wr w.heap.size w.heap.size v1 (sel L T F true k)) := hc1
        have CH2 : Hid (Chk wr w.heap.size (w.heap.size + 1) v2 (sel L T F false k)) := hc2
        have AP : Hid (Apart v1 v2) := hap
        have BEL : Hid (Below w.heap.size w wr) := hbel
        clear hc1 hc2 hap hbel
        have hsl := sel_len L T F k
        obtain ⟨s1, hs1⟩ : ∃ s1, s1 = (sel L T F true k).length := ⟨_, rfl⟩
        obtain ⟨s2, hs2⟩ : ∃ s2, s2 = (sel L T F false k).length := ⟨_, rfl⟩
        rw [← hs1, ← hs2] at hsl
        have HS1 : Hid (s1 = (sel L T F true k).length) := hs1
        have HS2 : Hid (s2 = (sel L T F false k).length) := hs2
        rw [← hs1]
        have hsk : s1 ≤ k := by omega
        clear hs1 hs2
        by_cases hlt : k < N
        · obtain ⟨l, hl⟩ : ∃ l, l = L k := ⟨_, rfl⟩
          obtain ⟨t, ht⟩ : ∃ t, t = T k := ⟨_, rfl⟩
          have cl : wr.cell? ⟨bl, ol + k, none⟩ = some (.int .i64 l) := by rw [hl]; exact HL.out wr BEL.out k (by omega)
          have ct : wr.cell? ⟨bt, ot + k, none⟩ = some (.string t) := by rw [ht]; exact HT.out wr BEL.out k (by omega)
          have j1 : (0 : Int) ≤ (k : Int) := by omega
          have j2 : (k : Int) < (N : Int) := by omega
          have j3 : (k : Int) < (n1 : Int) := by omega
          have j4 : (k : Int) < (n2 : Int) := by omega
          have SL : Hid (s1 + s2 = k) := hsl
          clear hsl
          cases hfk : F k
          · have cf : wr.cell? ⟨bf, of + k, none⟩ = some (.bool false) := by rw [← hfk]; exact HF.out wr BEL.out k (by omega)
            have HU : Hid (∀ w2 v2', Chk w2 w.heap.size (w.heap.size + 1) v2' (sel L T F false k ++ [(l, t)]) → Upd wr.drew w2 (w.heap.size + 1) v2 v2' → (∃ v1 v2, Chk w2 w.heap.size w.heap.size v1 (sel L T F true (k + 1)) ∧ Chk w2 w.heap.size (w.heap.size + 1) v2 (sel L T F false (k + 1)) ∧ Apart v1 v2 ∧ Below w.heap.size w w2) ∧ s1 = (sel L T F true (k + 1)).length ∧ w2.cell? ⟨bl, ol + k, none⟩ = some (.int .i64 l) ∧ w2.cell? ⟨bt, ot + k, none⟩ = some (.string t)) := fun w2 v2' hc2 hu2 => by
              have hb : Below w.heap.size wr.drew w2 := hu2.below (by omega) CH2.out.above BEL.out.size
              have ho := Chk.other (w := wr.drew) CH2.out CH1.out (by omega) AP.out.symm hu2
              refine ⟨⟨v1, v2', by rw [sel_no (by simp [hfk])]; exact ho.1, by rw [sel_yes hfk, ← hl, ← ht]; exact hc2, ho.2.symm, BEL.out.drew.trans hb⟩, by rw [sel_no (by simp [hfk])]; exact HS1.out, ?_, ?_⟩
              · rw [hb.cell hbl]; exact cl
              · rw [hb.cell hbt]; exact ct
            clear hl ht
            go_wp2
            go_region_held3 (fun w' => w'.cell? ⟨bl, ol + k, none⟩ = some (.int .i64 l) ∧ w'.cell? ⟨bt, ot + k, none⟩ = some (.string t)) (go_keep)
              (first | (go_at_call 10; refine (add10 _ w.heap.size (w.heap.size + 1) v2 (sel L T F false k) l t (by exact CH2.out) (by exact BEL.out.size) (by have := SL.out; have := HS2.out; omega)).mono ?_; rintro e w2 ⟨rfl, v2', hc2, hu2⟩; obtain ⟨hrel, hsn, cl2, ct2⟩ := HU.out w2 v2' hc2 hu2; have HSN : Hid (s1 = (sel L T F true (k + 1)).length) := hsn; clear hc2 hu2 hsn))
            all_goals go_wp2
            go_roundw
            case rel => obtain ⟨v3, v4, r1, r2, r3, r4⟩ := hrel; exact ⟨k + 1, by go_num, by omega, by rw [← HSN.out], v3, v4, r1, r2, r3, r4⟩
            case measure => simp [intOf]; omega
          · have cf : wr.cell? ⟨bf, of + k, none⟩ = some (.bool true) := by rw [← hfk]; exact HF.out wr BEL.out k (by omega)
            have HU : Hid (∀ w2 v1', Chk w2 w.heap.size w.heap.size v1' (sel L T F true k ++ [(l, t)]) → Upd wr.drew w2 w.heap.size v1 v1' → (∃ v1 v2, Chk w2 w.heap.size w.heap.size v1 (sel L T F true (k + 1)) ∧ Chk w2 w.heap.size (w.heap.size + 1) v2 (sel L T F false (k + 1)) ∧ Apart v1 v2 ∧ Below w.heap.size w w2) ∧ s1 + 1 = (sel L T F true (k + 1)).length ∧ w2.cell? ⟨bl, ol + k, none⟩ = some (.int .i64 l) ∧ w2.cell? ⟨bt, ot + k, none⟩ = some (.string t)) := fun w2 v1' hc2 hu2 => by
              have hb : Below w.heap.size wr.drew w2 := hu2.below (by omega) CH1.out.above BEL.out.size
              have ho := Chk.other (w := wr.drew) CH1.out CH2.out (by omega) AP.out hu2
              refine ⟨⟨v1', v2, by rw [sel_yes hfk, ← hl, ← ht]; exact hc2, by rw [sel_no (by simp [hfk])]; exact ho.1, ho.2, BEL.out.drew.trans hb⟩, by rw [sel_yes hfk, List.length_append, ← HS1.out]; rfl, ?_, ?_⟩
              · rw [hb.cell hbl]; exact cl
              · rw [hb.cell hbt]; exact ct
            clear hl ht
            go_wp2
            go_region_held3 (fun w' => w'.cell? ⟨bl, ol + k, none⟩ = some (.int .i64 l) ∧ w'.cell? ⟨bt, ot + k, none⟩ = some (.string t)) (go_keep)
              (first | (go_at_call 10; refine (add10 _ w.heap.size w.heap.size v1 (sel L T F true k) l t (by exact CH1.out) (by exact BEL.out.size) (by have := SL.out; have := HS1.out; omega)).mono ?_; rintro e w2 ⟨rfl, v1', hc2, hu2⟩; obtain ⟨hrel, hsn, cl2, ct2⟩ := HU.out w2 v1' hc2 hu2; have HSN : Hid (s1 + 1 = (sel L T F true (k + 1)).length) := hsn; clear hc2 hu2 hsn))
            all_goals go_wp2
            go_roundw
            case rel => obtain ⟨v3, v4, r1, r2, r3, r4⟩ := hrel; exact ⟨k + 1, by go_num, by omega, by rw [← HSN.out]; go_num, v3, v4, r1, r2, r3, r4⟩
            case measure => simp [intOf]; omega
        · have hkN : k = N := by omega
          subst hkN
          have e2 : (k : Int) - (s1 : Int) = (s2 : Int) := by omega
          have E2 : Hid ((k : Int) - (s1 : Int) = (s2 : Int)) := e2
          clear hk e2 hsl
          go_wp2_with fail
          refine (len11 wr w.heap.size w.heap.size v1 (sel L T F true k) CH1.out).mono ?_
          rintro e wr ⟨rfl, rfl⟩
          rw [← HS1.out]
          go_wp2_with fail
          refine (len11 wr w.heap.size (w.heap.size + 1) v2 (sel L T F false k) CH2.out).mono ?_
          rintro e w2 ⟨rfl, rfl⟩
          rw [← HS2.out]
          have e2 := E2.out
          go_wp2_with fail
          clear e2
          go_loopw [14, 15, 16] (fun x1 x2 i wq => ∃ (j : Nat), i = .int .i64 j ∧ j ≤ k ∧ x1 = .int .i64 (sel L T F true j).length ∧ x2 = .int .i64 (sel L T F false j).length ∧ Below w2.heap.size w2 wq) (fun _ _ i _ => k - (intOf i).toNat)
          case atStart => exact ⟨0, rfl, Nat.zero_le _, rfl, rfl, Below.refl _ _⟩
          case round =>
            obtain ⟨j, rfl, hj, rfl, rfl, hbq⟩ := hrel
            have BQ : Hid (Below w2.heap.size w2 wr) := hbq
            clear hbq HS1 HS2
            have hsl := sel_len L T F j
            obtain ⟨s1, hs1⟩ : ∃ s1, s1 = (sel L T F true j).length := ⟨_, rfl⟩
            obtain ⟨s2, hs2⟩ : ∃ s2, s2 = (sel L T F false j).length := ⟨_, rfl⟩
            rw [← hs1, ← hs2] at hsl
            have HS1 : Hid (s1 = (sel L T F true j).length) := hs1
            have HS2 : Hid (s2 = (sel L T F false j).length) := hs2
            rw [← hs1, ← hs2]
            have hsk1 : s1 ≤ j := by omega
            have hsk2 : s2 ≤ j := by omega
            clear hs1 hs2 hsl
            have BW : Hid (Below w.heap.size w wr) := BEL.out.trans (BQ.out.mono BEL.out.size)
            by_cases hlt' : j < k
            · obtain ⟨l, hl⟩ : ∃ l, l = L j := ⟨_, rfl⟩
              obtain ⟨t, ht⟩ : ∃ t, t = T j := ⟨_, rfl⟩
              have j2 : (j : Int) < (k : Int) := by omega
              have j3 : (j : Int) < (n1 : Int) := by omega
              have j4 : (j : Int) < (n2 : Int) := by omega
              have HW : Hid (∀ w4, Below wr.heap.size wr w4 → w4.cell? ⟨bl, ol + j, none⟩ = some (.int .i64 l) ∧ w4.cell? ⟨bt, ot + j, none⟩ = some (.string t) ∧ Below w2.heap.size w2 w4) := fun w4 h4 => by
                have hb : Below w.heap.size w w4 := BW.out.trans (h4.mono BW.out.size)
                rw [hl, ht]
                exact ⟨HL.out w4 hb j (by omega), HT.out w4 hb j (by omega), BQ.out.trans (h4.mono BQ.out.size)⟩
              cases hfj : F j
              · have cf : Hid (∀ wx, Below w.heap.size w wx → wx.cell? ⟨bf, of + j, none⟩ = some (.bool false)) := fun wx hx => by rw [← hfj]; exact HF.out wx hx j (by omega)
                have PR : Hid (Calls Try.prog 12 #[.pointer (some ⟨w.heap.size + 1, 0, none⟩), .int .i64 s2] wr fun e w' => e = .returned (.tuple #[.int .i64 l, .string t]) ∧ Below wr.heap.size wr w') := by
                  rw [hl, ht, HS2.out]; exact problem12s wr w.heap.size (w.heap.size + 1) v2 L T F false k j hlt' (by omega) hfj (CH2.out.below BQ.out)
                have HS : Hid (s1 = (sel L T F true (j + 1)).length ∧ s2 + 1 = (sel L T F false (j + 1)).length) := by
                  rw [sel_yes hfj, sel_no (b := true) (by simp [hfj]), List.length_append, ← HS1.out, ← HS2.out]; exact ⟨rfl, rfl⟩
                clear hl ht
                have cf1 := cf.out wr BW.out
                go_wp2_with fail
                refine PR.out.mono ?_
                rintro e w4 ⟨rfl, hb4⟩
                obtain ⟨cl, ct, hb5⟩ := HW.out w4 hb4
                have B5 : Hid (Below w2.heap.size w2 w4) := hb5
                clear hb4 hb5 cf1
                go_wp2
                go_roundw
                case rel => exact ⟨j + 1, by go_num, by omega, by rw [← HS.out.1], by rw [← HS.out.2]; go_num, B5.out⟩
                case measure => simp [intOf]; omega
              · have cf : Hid (∀ wx, Below w.heap.size w wx → wx.cell? ⟨bf, of + j, none⟩ = some (.bool true)) := fun wx hx => by rw [← hfj]; exact HF.out wx hx j (by omega)
                have PR : Hid (Calls Try.prog 12 #[.pointer (some ⟨w.heap.size, 0, none⟩), .int .i64 s1] wr fun e w' => e = .returned (.tuple #[.int .i64 l, .string t]) ∧ Below wr.heap.size wr w') := by
                  rw [hl, ht, HS1.out]; exact problem12s wr w.heap.size (w.heap.size) v1 L T F true k j hlt' (by omega) hfj (CH1.out.below BQ.out)
                have HS : Hid (s1 + 1 = (sel L T F true (j + 1)).length ∧ s2 = (sel L T F false (j + 1)).length) := by
                  rw [sel_yes hfj, sel_no (b := false) (by simp [hfj]), List.length_append, ← HS1.out, ← HS2.out]; exact ⟨rfl, rfl⟩
                clear hl ht
                have cf1 := cf.out wr BW.out
                go_wp2_with fail
                refine PR.out.mono ?_
                rintro e w4 ⟨rfl, hb4⟩
                obtain ⟨cl, ct, hb5⟩ := HW.out w4 hb4
                have B5 : Hid (Below w2.heap.size w2 w4) := hb5
                clear hb4 hb5 cf1
                go_wp2
                go_roundw
                case rel => exact ⟨j + 1, by go_num, by omega, by rw [← HS.out.1]; go_num, by rw [← HS.out.2], B5.out⟩
                case measure => simp [intOf]; omega
            · go_wp2
              go_ret
              exact ⟨rfl, BW.out⟩

end Go.Proofs.Qxb6613596a.chk
