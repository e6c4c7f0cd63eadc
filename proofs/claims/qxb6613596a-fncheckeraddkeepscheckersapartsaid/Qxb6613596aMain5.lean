/-
  zzBytes (8) and FnCheckerAddRecordsEveryProblemInOrder (5).
-/
import Derived.Test.Qxb6613596aChk
import Derived.Deep.RegionHeld3
import Derived.Deep.DrawnRows
import Derived.WalkLawsBesides
namespace Go.Proofs.Qxb6613596a.chk
open Go.RowKit

/-- The elements of a slice value of one-cell elements: there are none; or they lie at its address, one behind the other. -/
def Els (w : World) (a : Option Addr) (n : Nat) (f : Nat → Value) : Prop :=
  n = 0 ∨ ∃ b off, a = some ⟨b, off, none⟩ ∧ b < w.heap.size ∧ ∀ j, j < n → w.cell? ⟨b, off + j, none⟩ = some (f j)

/-- Some truth value is returned. -/
def RetB (e : Ending) : Prop := ∃ r : Bool, e = .returned (.bool r)

set_option maxHeartbeats 1000000 in
theorem bytes8 (a0 a1 : Option Addr) (n0 c0 n1 c1 : Nat) (T : Nat → ByteArray) (w : World) (h : Els w a1 n1 fun j => .string (T j)) :
    Calls Try.prog 8 #[.slice a0 n0 c0, .slice a1 n1 c1] w fun e w' => RetB e ∧ w' = w := by
  by_cases h0 : 1048576 < n0
  · clear h
    go_enter Try.func8, Try.ntmps8
    go_wp2
    go_ret
    exact ⟨⟨_, rfl⟩, rfl⟩
  by_cases h1 : 1048576 < n1
  · clear h
    go_enter Try.func8, Try.ntmps8
    go_wp2
    go_ret
    exact ⟨⟨_, rfl⟩, rfl⟩
  by_cases h2 : 1048576 < n0 + n1
  · clear h
    go_enter Try.func8, Try.ntmps8
    go_wp2
    go_ret
    exact ⟨⟨_, rfl⟩, rfl⟩
  rcases h with h | ⟨b, off, rfl, _, hc⟩
  · subst h
    go_enter Try.func8, Try.ntmps8
    go_wp2
    refine wp_loop_rounds 1 ?_
    rw [rounds_succ]
    go_wp2
    go_ret
    exact ⟨⟨_, rfl⟩, rfl⟩
  · have HC : Hid (∀ j, j < n1 → w.cell? ⟨b, off + j, none⟩ = some (.string (T j))) := hc
    clear hc
    go_enter Try.func8, Try.ntmps8
    go_wp2
    go_loop [5, 6] (fun z i => ∃ (k : Nat) (m : Int), i = .int .i64 k ∧ k ≤ n1 ∧ z = .int .i64 m) (fun _ i => n1 - (intOf i).toNat)
    case atStart => exact ⟨0, _, rfl, Nat.zero_le _, rfl⟩
    case round =>
      obtain ⟨k, m, rfl, hk, rfl⟩ := hrel
      by_cases hlt : k < n1
      · have c := HC.out k hlt
        generalize T k = s at c
        go_wp2
        all_goals first
          | (go_ret; exact ⟨⟨_, rfl⟩, rfl⟩)
          | (go_round; (case rel => exact ⟨k + 1, _, by go_num, by omega, rfl⟩); (case measure => simp [intOf]; omega))
      · go_wp2
        go_ret
        exact ⟨⟨_, rfl⟩, rfl⟩

/-- The first k records of the script. -/
def recs (L : Nat → Int) (T : Nat → ByteArray) (k : Nat) : List Rec := (List.range k).map fun i => (L i, T i)
theorem length_recs (L : Nat → Int) (T : Nat → ByteArray) (k : Nat) : (recs L T k).length = k := by simp [recs]
theorem recs_succ (L : Nat → Int) (T : Nat → ByteArray) (k : Nat) : recs L T (k + 1) = recs L T k ++ [(L k, T k)] := by simp [recs, List.range_succ]
theorem recs_at (L : Nat → Int) (T : Nat → ByteArray) (k i : Nat) (h : i < (recs L T k).length) : (recs L T k)[i] = (L i, T i) := by simp [recs]

theorem Upd.below {w w' : World} {p : Nat} {v v' : Value} {base : Nat} (h : Upd w w' p v v') (hp : base ≤ p) (hv : ∀ g, v.ownBlock = some g → base ≤ g) (hb : base ≤ w.heap.size) : Below base w w' :=
  ⟨h.os, h.tape, h.output, h.size, fun k hk => h.block k (by omega) (by omega) (fun e => by have := hv k e.symm; omega)⟩
theorem Chk.above {w : World} {base p : Nat} {v : Value} {xs : List Rec} (h : Chk w base p v xs) : ∀ g, v.ownBlock = some g → base ≤ g := fun g hg => (h.2.lt g hg).1
theorem Chk.drewN {w : World} {base p : Nat} {v : Value} {xs : List Rec} (h : Chk w base p v xs) (q : Nat) : Chk (w.drewN q) base p v xs := h
theorem Chk.below {w w' : World} {base p : Nat} {v : Value} {xs : List Rec} (h : Chk w base p v xs) (hb : Below w.heap.size w w') : Chk w' base p v xs := by
  refine ⟨by rw [hb.block p (lt_of_block h.1)]; exact h.1, ?_⟩
  refine ⟨h.2.1, ?_⟩
  rcases h.2.2 with h2 | ⟨g, cap, cur, hv, hg, hh, r⟩
  · exact .inl h2
  · exact .inr ⟨g, cap, cur, hv, hg, by rw [hb.block g (lt_of_block hh)]; exact hh, r⟩

theorem problem12' (w : World) (base p : Nat) (v : Value) (L : Nat → Int) (T : Nat → ByteArray) (k j : Nat) (hj : j < k) (hk : k ≤ 65536) (h : Chk w base p v (recs L T k)) :
    Calls Try.prog 12 #[.pointer (some ⟨p, 0, none⟩), .int .i64 j] w fun e w' => e = .returned (.tuple #[.int .i64 (L j), .string (T j)]) ∧ Below w.heap.size w w' := by
  have hl := length_recs L T k
  have := problem12 w base p v (recs L T k) j (by omega) (by omega) h
  rw [recs_at L T k j (by omega)] at this
  exact this

set_option maxHeartbeats 1000000 in
theorem main5_big (a0 a1 : Option Addr) (n0 c0 n1 c1 : Nat) (T : Nat → ByteArray) (w : World) (h : Els w a1 n1 fun j => .string (T j)) (hbig : 65536 < n0 ∨ 65536 < n1 ∨ 1048576 < 8 * n0 + 16 * n1) :
    Calls Try.prog 5 #[.slice a0 n0 c0, .slice a1 n1 c1] w fun e w' => e = .returned (.bool true) ∧ Below w.heap.size w w' := by
  have HE : Hid (Els w a1 n1 fun j => .string (T j)) := h
  clear h
  by_cases h0 : 65536 < n0
  · clear hbig
    go_enter Try.func5, Try.ntmps5
    go_wp2_with fail
    refine (bytes8 _ _ _ _ _ _ T _ HE.out).mono ?_
    rintro e w ⟨⟨r, rfl⟩, rfl⟩
    cases r
    all_goals
      go_wp2
      go_ret
      exact ⟨rfl, Below.refl _ _⟩
  by_cases h1 : 65536 < n1
  · clear hbig
    go_enter Try.func5, Try.ntmps5
    go_wp2_with fail
    refine (bytes8 _ _ _ _ _ _ T _ HE.out).mono ?_
    rintro e w ⟨⟨r, rfl⟩, rfl⟩
    cases r
    all_goals
      go_wp2
      go_ret
      exact ⟨rfl, Below.refl _ _⟩
  have h2 : 1048576 < 8 * n0 + 16 * n1 := by omega
  clear hbig
  go_enter Try.func5, Try.ntmps5
  go_wp2_with fail
  refine (bytes8 _ _ _ _ _ _ T _ HE.out).mono ?_
  rintro e w ⟨⟨r, rfl⟩, rfl⟩
  cases r
  all_goals
    go_wp2
    go_ret
    exact ⟨rfl, Below.refl _ _⟩

theorem chk_new (w : World) : Chk (w.alloc (.cells #[.slice none 0 0] 42)) w.heap.size w.heap.size (.slice none 0 0) [] :=
  ⟨heap_alloc_new w _, World.ownsRow_nil _ _ _ _⟩

set_option maxHeartbeats 1000000 in
theorem main5_none (a0 a1 : Option Addr) (n0 c0 c1 : Nat) (w : World) (h0 : n0 ≤ 65536) :
    Calls Try.prog 5 #[.slice a0 n0 c0, .slice a1 0 c1] w fun e w' => e = .returned (.bool true) ∧ Below w.heap.size w w' := by
  have HE : Hid (Els w a1 0 fun j => .string ByteArray.empty) := .inl rfl
  by_cases hn : 0 < n0
  all_goals
    go_enter Try.func5, Try.ntmps5
    go_wp2_with fail
    refine (bytes8 _ _ _ _ _ _ _ _ HE.out).mono ?_
    rintro e w ⟨⟨r, rfl⟩, rfl⟩
    cases r
    · go_wp2
      go_ret
      exact ⟨rfl, Below.refl _ _⟩
    go_wp2
    refine wp_loop_rounds 1 ?_
    rw [rounds_succ]
    go_wp2_with fail
    refine (new9 w).mono ?_
    rintro e w1 ⟨rfl, rfl⟩
    go_wp2_with fail
    refine wp_loop_rounds 1 ?_
    rw [rounds_succ]
    go_wp2_with fail
    refine (len11 _ w.heap.size w.heap.size _ [] (chk_new w)).mono ?_
    rintro e w1 ⟨rfl, rfl⟩
    go_wp2_with fail
    refine wp_loop_rounds 1 ?_
    rw [rounds_succ]
    go_wp2
    go_ret
    exact ⟨rfl, (Below.refl _ _).alloc (Nat.le_refl _) _⟩

set_option maxHeartbeats 2000000 in
theorem main5_zero (a0 : Option Addr) (b off c0 n1 c1 : Nat) (T : Nat → ByteArray) (w : World) (hb : b < w.heap.size) (h1 : n1 ≤ 65536)
    (hc : ∀ j, j < n1 → w.cell? ⟨b, off + j, none⟩ = some (.string (T j))) :
    Calls Try.prog 5 #[.slice a0 0 c0, .slice (some ⟨b, off, none⟩) n1 c1] w fun e w' => e = .returned (.bool true) ∧ Below w.heap.size w w' := by
  have HE : Hid (Els w (some ⟨b, off, none⟩) n1 fun j => .string (T j)) := .inr ⟨b, off, rfl, hb, hc⟩
  have HC : Hid (∀ j, j < n1 → w.cell? ⟨b, off + j, none⟩ = some (.string (T j))) := hc
  clear hc
  go_enter Try.func5, Try.ntmps5
  go_wp2_with fail
  refine (bytes8 _ _ _ _ _ _ T _ HE.out).mono ?_
  rintro e w ⟨⟨r, rfl⟩, rfl⟩
  cases r
  · go_wp2
    go_ret
    exact ⟨rfl, Below.refl _ _⟩
  go_wp2
  go_loop [5, 6] (fun z i => ∃ (k : Nat) (m : Int), i = .int .i64 k ∧ k ≤ n1 ∧ z = .int .i64 m) (fun _ i => n1 - (intOf i).toNat)
  case atStart => exact ⟨0, _, rfl, Nat.zero_le _, rfl⟩
  case round =>
    obtain ⟨k, m, rfl, hk, rfl⟩ := hrel
    by_cases hlt : k < n1
    · have c := HC.out k hlt
      generalize T k = s at c
      go_wp2
      all_goals first
        | (go_ret; exact ⟨rfl, Below.refl _ _⟩)
        | (go_round; (case rel => exact ⟨k + 1, _, by go_num, by omega, rfl⟩); (case measure => simp [intOf]; omega))
    · go_wp2_with fail
      refine (new9 w).mono ?_
      rintro e w1 ⟨rfl, rfl⟩
      go_wp2_with fail
      refine wp_loop_rounds 1 ?_
      rw [rounds_succ]
      go_wp2_with fail
      refine (len11 _ w.heap.size w.heap.size _ [] (chk_new w)).mono ?_
      rintro e w1 ⟨rfl, rfl⟩
      go_wp2_with fail
      refine wp_loop_rounds 1 ?_
      rw [rounds_succ]
      go_wp2
      go_ret
      exact ⟨rfl, (Below.refl _ _).alloc (Nat.le_refl _) _⟩

set_option maxHeartbeats 4000000 in
theorem main5_A (bl ol bt ot n0 c0 N c1 : Nat) (L : Nat → Int) (T : Nat → ByteArray) (w : World) (hbl : bl < w.heap.size) (hbt : bt < w.heap.size)
    (h0 : n0 ≤ 65536) (h1 : N ≤ 65536) (h3 : 8 * n0 + 16 * N ≤ 1048576) (hlt0 : N < n0)
    (hl : ∀ j, j < n0 → w.cell? ⟨bl, ol + j, none⟩ = some (.int .i64 (L j))) (ht : ∀ j, j < N → w.cell? ⟨bt, ot + j, none⟩ = some (.string (T j))) :
    Calls Try.prog 5 #[.slice (some ⟨bl, ol, none⟩) n0 c0, .slice (some ⟨bt, ot, none⟩) N c1] w fun e w' => e = .returned (.bool true) ∧ Below w.heap.size w w' := by
  have HE : Hid (Els w (some ⟨bt, ot, none⟩) N fun j => .string (T j)) := .inr ⟨bt, ot, rfl, hbt, ht⟩
  have HL : Hid (∀ wx, Below w.heap.size w wx → ∀ j, j < n0 → wx.cell? ⟨bl, ol + j, none⟩ = some (.int .i64 (L j))) := fun wx hx j hj => by rw [hx.cell hbl]; exact hl j hj
  have HT : Hid (∀ wx, Below w.heap.size w wx → ∀ j, j < N → wx.cell? ⟨bt, ot + j, none⟩ = some (.string (T j))) := fun wx hx j hj => by rw [hx.cell hbt]; exact ht j hj
  clear hl ht
  go_enter Try.func5, Try.ntmps5
  go_wp2_with fail
  refine (bytes8 _ _ _ _ _ _ T _ HE.out).mono ?_
  rintro e w ⟨⟨r, rfl⟩, rfl⟩
  cases r
  · go_wp2
    go_ret
    exact ⟨rfl, Below.refl _ _⟩
  go_wp2
  go_loop [5, 6] (fun z i => ∃ (k : Nat) (m : Int), i = .int .i64 k ∧ k ≤ N ∧ z = .int .i64 m) (fun _ i => N - (intOf i).toNat)
  case atStart => exact ⟨0, _, rfl, Nat.zero_le _, rfl⟩
  case round =>
    obtain ⟨k, m, rfl, hk, rfl⟩ := hrel
    by_cases hlt : k < N
    · have c := HT.out w (Below.refl _ _) k hlt
      generalize T k = s at c
      go_wp2
      all_goals first
        | (go_ret; exact ⟨rfl, Below.refl _ _⟩)
        | (go_round; (case rel => exact ⟨k + 1, _, by go_num, by omega, rfl⟩); (case measure => simp [intOf]; omega))
    · go_wp2_with fail
      refine (new9 w).mono ?_
      rintro e w1 ⟨rfl, rfl⟩
      clear hk hlt
      go_wp2_with fail
      go_loopw [9] (fun i wr => ∃ (k : Nat), i = .int .i64 k ∧ k ≤ N ∧ ∃ v, Chk wr w.heap.size w.heap.size v (recs L T k) ∧ Below w.heap.size w wr) (fun i _ => N - (intOf i).toNat)
      case atStart => exact ⟨0, rfl, Nat.zero_le _, _, chk_new w, (Below.refl _ _).alloc (Nat.le_refl _) _⟩
      case round =>
        obtain ⟨k, rfl, hk, v, hchk, hbel⟩ := hrel
        have CHK : Hid (Chk wr w.heap.size w.heap.size v (recs L T k)) := hchk
        have BEL : Hid (Below w.heap.size w wr) := hbel
        clear hchk hbel
        by_cases hlt : k < N
        · obtain ⟨l, hl⟩ : ∃ l, l = L k := ⟨_, rfl⟩
          obtain ⟨t, ht⟩ : ∃ t, t = T k := ⟨_, rfl⟩
          have cl : wr.cell? ⟨bl, ol + k, none⟩ = some (.int .i64 l) := by rw [hl]; exact HL.out wr BEL.out k (by omega)
          have ct : wr.cell? ⟨bt, ot + k, none⟩ = some (.string t) := by rw [ht]; exact HT.out wr BEL.out k (by omega)
          have HR : Hid (recs L T (k + 1) = recs L T k ++ [(l, t)]) := by rw [hl, ht]; exact recs_succ L T k
          clear hl ht
          have j1 : (0 : Int) ≤ (k : Int) := by omega
          have j2 : (k : Int) < (N : Int) := by omega
          have j3 : (k : Int) < (n0 : Int) := by omega
          have HU : Hid (∀ w2 v2, Chk w2 w.heap.size w.heap.size v2 (recs L T k ++ [(l, t)]) → Upd wr.drew w2 w.heap.size v v2 → (∃ v, Chk w2 w.heap.size w.heap.size v (recs L T (k + 1)) ∧ Below w.heap.size w w2) ∧ w2.cell? ⟨bl, ol + k, none⟩ = some (.int .i64 l) ∧ w2.cell? ⟨bt, ot + k, none⟩ = some (.string t)) := fun w2 v2 hc2 hu2 => by
            have hb : Below w.heap.size wr.drew w2 := hu2.below (Nat.le_refl _) CHK.out.above BEL.out.size
            refine ⟨⟨v2, by rw [HR.out]; exact hc2, BEL.out.drew.trans hb⟩, ?_, ?_⟩
            · rw [hb.cell hbl]; exact cl
            · rw [hb.cell hbt]; exact ct
          go_wp2
          go_region_held3 (fun w' => w'.cell? ⟨bl, ol + k, none⟩ = some (.int .i64 l) ∧ w'.cell? ⟨bt, ot + k, none⟩ = some (.string t)) (go_keep)
            (first | (go_at_call 10; refine (add10 _ w.heap.size w.heap.size v (recs L T k) l t (by exact CHK.out) (by exact BEL.out.size) (by rw [length_recs]; omega)).mono ?_; rintro e w2 ⟨rfl, v2, hc2, hu2⟩; obtain ⟨hrel, cl2, ct2⟩ := HU.out w2 v2 hc2 hu2; clear hc2 hu2))
          all_goals go_wp2
          go_roundw
          case rel => obtain ⟨v3, hc3, hb3⟩ := hrel; exact ⟨k + 1, by go_num, by omega, v3, hc3, hb3⟩
          case measure => simp [intOf]; omega
        · obtain rfl : k = N := by omega
          clear hk
          go_wp2_with fail
          refine (len11 wr w.heap.size w.heap.size v (recs L T k) CHK.out).mono ?_
          rintro e w2 ⟨rfl, rfl⟩
          rw [length_recs]
          go_wp2_with fail
          go_loopw [10] (fun i wq => ∃ (j : Nat), i = .int .i64 j ∧ j ≤ k ∧ Below w2.heap.size w2 wq) (fun i _ => k - (intOf i).toNat)
          case atStart => exact ⟨0, rfl, Nat.zero_le _, Below.refl _ _⟩
          case round =>
            obtain ⟨j, rfl, hj, hbq⟩ := hrel
            have BQ : Hid (Below w2.heap.size w2 wr) := hbq
            clear hbq
            by_cases hlt' : j < k
            · obtain ⟨l, hl⟩ : ∃ l, l = L j := ⟨_, rfl⟩
              obtain ⟨t, ht⟩ : ∃ t, t = T j := ⟨_, rfl⟩
              have PR : Hid (Calls Try.prog 12 #[.pointer (some ⟨w.heap.size, 0, none⟩), .int .i64 j] wr fun e w' => e = .returned (.tuple #[.int .i64 l, .string t]) ∧ Below wr.heap.size wr w') := by
                rw [hl, ht]; exact problem12' wr w.heap.size w.heap.size v L T k j hlt' (by omega) (CHK.out.below BQ.out)
              have BW : Hid (Below w.heap.size w wr) := BEL.out.trans (BQ.out.mono BEL.out.size)
              have HW : Hid (∀ w4, Below wr.heap.size wr w4 → w4.cell? ⟨bl, ol + j, none⟩ = some (.int .i64 l) ∧ w4.cell? ⟨bt, ot + j, none⟩ = some (.string t) ∧ Below w2.heap.size w2 w4) := fun w4 h4 => by
                have hb : Below w.heap.size w w4 := BW.out.trans (h4.mono BW.out.size)
                rw [hl, ht]
                exact ⟨HL.out w4 hb j (by omega), HT.out w4 hb j (by omega), BQ.out.trans (h4.mono BQ.out.size)⟩
              clear hl ht
              go_wp2_with fail
              refine PR.out.mono ?_
              rintro e w4 ⟨rfl, hb4⟩
              obtain ⟨cl, ct, hb5⟩ := HW.out w4 hb4
              have B5 : Hid (Below w2.heap.size w2 w4) := hb5
              clear hb4 hb5
              go_wp2
              go_roundw
              case rel => exact ⟨j + 1, by go_num, by omega, B5.out⟩
              case measure => simp [intOf]; omega
            · go_wp2
              go_ret
              exact ⟨rfl, BEL.out.trans (BQ.out.mono BEL.out.size)⟩

set_option maxHeartbeats 4000000 in
theorem main5_B (bl ol bt ot N c0 n1 c1 : Nat) (L : Nat → Int) (T : Nat → ByteArray) (w : World) (hbl : bl < w.heap.size) (hbt : bt < w.heap.size)
    (h0 : N ≤ 65536) (h1 : n1 ≤ 65536) (h3 : 8 * N + 16 * n1 ≤ 1048576) (hlt0 : ¬ n1 < N)
    (hl : ∀ j, j < N → w.cell? ⟨bl, ol + j, none⟩ = some (.int .i64 (L j))) (ht : ∀ j, j < n1 → w.cell? ⟨bt, ot + j, none⟩ = some (.string (T j))) :
    Calls Try.prog 5 #[.slice (some ⟨bl, ol, none⟩) N c0, .slice (some ⟨bt, ot, none⟩) n1 c1] w fun e w' => e = .returned (.bool true) ∧ Below w.heap.size w w' := by
  have HE : Hid (Els w (some ⟨bt, ot, none⟩) n1 fun j => .string (T j)) := .inr ⟨bt, ot, rfl, hbt, ht⟩
  have HL : Hid (∀ wx, Below w.heap.size w wx → ∀ j, j < N → wx.cell? ⟨bl, ol + j, none⟩ = some (.int .i64 (L j))) := fun wx hx j hj => by rw [hx.cell hbl]; exact hl j hj
  have HT : Hid (∀ wx, Below w.heap.size w wx → ∀ j, j < n1 → wx.cell? ⟨bt, ot + j, none⟩ = some (.string (T j))) := fun wx hx j hj => by rw [hx.cell hbt]; exact ht j hj
  clear hl ht
  go_enter Try.func5, Try.ntmps5
  go_wp2_with fail
  refine (bytes8 _ _ _ _ _ _ T _ HE.out).mono ?_
  rintro e w ⟨⟨r, rfl⟩, rfl⟩
  cases r
  · go_wp2
    go_ret
    exact ⟨rfl, Below.refl _ _⟩
  go_wp2
  go_loop [5, 6] (fun z i => ∃ (k : Nat) (m : Int), i = .int .i64 k ∧ k ≤ n1 ∧ z = .int .i64 m) (fun _ i => n1 - (intOf i).toNat)
  case atStart => exact ⟨0, _, rfl, Nat.zero_le _, rfl⟩
  case round =>
    obtain ⟨k, m, rfl, hk, rfl⟩ := hrel
    by_cases hlt : k < n1
    · have c := HT.out w (Below.refl _ _) k hlt
      generalize T k = s at c
      go_wp2
      all_goals first
        | (go_ret; exact ⟨rfl, Below.refl _ _⟩)
        | (go_round; (case rel => exact ⟨k + 1, _, by go_num, by omega, rfl⟩); (case measure => simp [intOf]; omega))
    · go_wp2_with fail
      refine (new9 w).mono ?_
      rintro e w1 ⟨rfl, rfl⟩
      clear hk hlt
      go_wp2_with fail
      go_loopw [9] (fun i wr => ∃ (k : Nat), i = .int .i64 k ∧ k ≤ N ∧ ∃ v, Chk wr w.heap.size w.heap.size v (recs L T k) ∧ Below w.heap.size w wr) (fun i _ => N - (intOf i).toNat)
      case atStart => exact ⟨0, rfl, Nat.zero_le _, _, chk_new w, (Below.refl _ _).alloc (Nat.le_refl _) _⟩
      case round =>
        obtain ⟨k, rfl, hk, v, hchk, hbel⟩ := hrel
        have CHK : Hid (Chk wr w.heap.size w.heap.size v (recs L T k)) := hchk
        have BEL : Hid (Below w.heap.size w wr) := hbel
        clear hchk hbel
        by_cases hlt : k < N
        · obtain ⟨l, hl⟩ : ∃ l, l = L k := ⟨_, rfl⟩
          obtain ⟨t, ht⟩ : ∃ t, t = T k := ⟨_, rfl⟩
          have cl : wr.cell? ⟨bl, ol + k, none⟩ = some (.int .i64 l) := by rw [hl]; exact HL.out wr BEL.out k (by omega)
          have ct : wr.cell? ⟨bt, ot + k, none⟩ = some (.string t) := by rw [ht]; exact HT.out wr BEL.out k (by omega)
          have HR : Hid (recs L T (k + 1) = recs L T k ++ [(l, t)]) := by rw [hl, ht]; exact recs_succ L T k
          clear hl ht
          have j1 : (0 : Int) ≤ (k : Int) := by omega
          have j2 : (k : Int) < (N : Int) := by omega
          have j3 : (k : Int) < (n1 : Int) := by omega
          have HU : Hid (∀ w2 v2, Chk w2 w.heap.size w.heap.size v2 (recs L T k ++ [(l, t)]) → Upd wr.drew w2 w.heap.size v v2 → (∃ v, Chk w2 w.heap.size w.heap.size v (recs L T (k + 1)) ∧ Below w.heap.size w w2) ∧ w2.cell? ⟨bl, ol + k, none⟩ = some (.int .i64 l) ∧ w2.cell? ⟨bt, ot + k, none⟩ = some (.string t)) := fun w2 v2 hc2 hu2 => by
            have hb : Below w.heap.size wr.drew w2 := hu2.below (Nat.le_refl _) CHK.out.above BEL.out.size
            refine ⟨⟨v2, by rw [HR.out]; exact hc2, BEL.out.drew.trans hb⟩, ?_, ?_⟩
            · rw [hb.cell hbl]; exact cl
            · rw [hb.cell hbt]; exact ct
          go_wp2
          go_region_held3 (fun w' => w'.cell? ⟨bl, ol + k, none⟩ = some (.int .i64 l) ∧ w'.cell? ⟨bt, ot + k, none⟩ = some (.string t)) (go_keep)
            (first | (go_at_call 10; refine (add10 _ w.heap.size w.heap.size v (recs L T k) l t (by exact CHK.out) (by exact BEL.out.size) (by rw [length_recs]; omega)).mono ?_; rintro e w2 ⟨rfl, v2, hc2, hu2⟩; obtain ⟨hrel, cl2, ct2⟩ := HU.out w2 v2 hc2 hu2; clear hc2 hu2))
          all_goals go_wp2
          go_roundw
          case rel => obtain ⟨v3, hc3, hb3⟩ := hrel; exact ⟨k + 1, by go_num, by omega, v3, hc3, hb3⟩
          case measure => simp [intOf]; omega
        · obtain rfl : k = N := by omega
          clear hk
          go_wp2_with fail
          refine (len11 wr w.heap.size w.heap.size v (recs L T k) CHK.out).mono ?_
          rintro e w2 ⟨rfl, rfl⟩
          rw [length_recs]
          go_wp2_with fail
          go_loopw [10] (fun i wq => ∃ (j : Nat), i = .int .i64 j ∧ j ≤ k ∧ Below w2.heap.size w2 wq) (fun i _ => k - (intOf i).toNat)
          case atStart => exact ⟨0, rfl, Nat.zero_le _, Below.refl _ _⟩
          case round =>
            obtain ⟨j, rfl, hj, hbq⟩ := hrel
            have BQ : Hid (Below w2.heap.size w2 wr) := hbq
            clear hbq
            by_cases hlt' : j < k
            · obtain ⟨l, hl⟩ : ∃ l, l = L j := ⟨_, rfl⟩
              obtain ⟨t, ht⟩ : ∃ t, t = T j := ⟨_, rfl⟩
              have PR : Hid (Calls Try.prog 12 #[.pointer (some ⟨w.heap.size, 0, none⟩), .int .i64 j] wr fun e w' => e = .returned (.tuple #[.int .i64 l, .string t]) ∧ Below wr.heap.size wr w') := by
                rw [hl, ht]; exact problem12' wr w.heap.size w.heap.size v L T k j hlt' (by omega) (CHK.out.below BQ.out)
              have BW : Hid (Below w.heap.size w wr) := BEL.out.trans (BQ.out.mono BEL.out.size)
              have HW : Hid (∀ w4, Below wr.heap.size wr w4 → w4.cell? ⟨bl, ol + j, none⟩ = some (.int .i64 l) ∧ w4.cell? ⟨bt, ot + j, none⟩ = some (.string t) ∧ Below w2.heap.size w2 w4) := fun w4 h4 => by
                have hb : Below w.heap.size w w4 := BW.out.trans (h4.mono BW.out.size)
                rw [hl, ht]
                exact ⟨HL.out w4 hb j (by omega), HT.out w4 hb j (by omega), BQ.out.trans (h4.mono BQ.out.size)⟩
              clear hl ht
              go_wp2_with fail
              refine PR.out.mono ?_
              rintro e w4 ⟨rfl, hb4⟩
              obtain ⟨cl, ct, hb5⟩ := HW.out w4 hb4
              have B5 : Hid (Below w2.heap.size w2 w4) := hb5
              clear hb4 hb5
              go_wp2
              go_roundw
              case rel => exact ⟨j + 1, by go_num, by omega, B5.out⟩
              case measure => simp [intOf]; omega
            · go_wp2
              go_ret
              exact ⟨rfl, BEL.out.trans (BQ.out.mono BEL.out.size)⟩
end Go.Proofs.Qxb6613596a.chk
