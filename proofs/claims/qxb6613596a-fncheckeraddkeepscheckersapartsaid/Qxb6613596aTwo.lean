/-
  Two checkers side by side: an add to one leaves the other; what each holds of a script; zzBytes (13).
-/
import Derived.Test.Qxb6613596aMain5
namespace Go.Proofs.Qxb6613596a.chk
open Go.RowKit

/-- The two slices do not lie in one row. -/
def Apart (v1 v2 : Value) : Prop := ∀ g, v1.ownBlock = some g → v2.ownBlock ≠ some g
theorem Apart.symm {v1 v2 : Value} (h : Apart v1 v2) : Apart v2 v1 := fun g h2 h1 => h g h1 h2

theorem Chk.row_ne {w : World} {base p p' : Nat} {v v' : Value} {xs xs' : List Rec} (h : Chk w base p v xs) (h' : Chk w base p' v' xs') : some p' ≠ v.ownBlock := by
  intro hp
  rcases h.2.2 with ⟨rfl, _⟩ | ⟨g, cap, cur, rfl, _, hg, _⟩
  · simp [Value.ownBlock] at hp
  · simp [Value.ownBlock] at hp
    subst hp
    have := h'.1.symm.trans hg
    simp at this

theorem Chk.other {w w' : World} {base p1 p2 : Nat} {v1 v1' v2 : Value} {xs1 xs2 : List Rec} (h1 : Chk w base p1 v1 xs1) (h2 : Chk w base p2 v2 xs2) (hp : p2 ≠ p1) (ha : Apart v1 v2) (hu : Upd w w' p1 v1 v1') :
    Chk w' base p2 v2 xs2 ∧ Apart v1' v2 := by
  refine ⟨⟨by rw [hu.block p2 (lt_of_block h2.1) hp (h1.row_ne h2)]; exact h2.1, h2.2.1, ?_⟩, ?_⟩
  · rcases h2.2.2 with hn | ⟨g, cap, cur, hv, hg, hh, r⟩
    · exact .inl hn
    · refine .inr ⟨g, cap, cur, hv, hg, ?_, r⟩
      rw [hu.block g (lt_of_block hh) (fun e => ?_) (fun e => ?_)]
      · exact hh
      · subst e
        exact h2.row_ne h1 (by rw [hv]; rfl)
      · exact ha g e.symm (by rw [hv]; rfl)
  · intro g hg h
    rcases hu.row with e | ⟨g', hlt, e⟩
    · exact ha g (by rw [← e]; exact hg) h
    · rw [hg] at e
      obtain rfl : g = g' := by simpa using e
      have := (h2.2.lt g h).2
      omega

/-- The records among the first k whose flag is b. -/
def sel (L : Nat → Int) (T : Nat → ByteArray) (F : Nat → Bool) (b : Bool) : Nat → List Rec
  | 0 => []
  | k + 1 => if F k = b then sel L T F b k ++ [(L k, T k)] else sel L T F b k
theorem sel_yes {L : Nat → Int} {T : Nat → ByteArray} {F : Nat → Bool} {b : Bool} {k : Nat} (h : F k = b) : sel L T F b (k + 1) = sel L T F b k ++ [(L k, T k)] := by rw [sel, if_pos h]
theorem sel_no {L : Nat → Int} {T : Nat → ByteArray} {F : Nat → Bool} {b : Bool} {k : Nat} (h : F k ≠ b) : sel L T F b (k + 1) = sel L T F b k := by rw [sel, if_neg h]
theorem sel_len (L : Nat → Int) (T : Nat → ByteArray) (F : Nat → Bool) : ∀ k, (sel L T F true k).length + (sel L T F false k).length = k
  | 0 => rfl
  | k + 1 => by
    have ih := sel_len L T F k
    cases h : F k
    · rw [sel_no (b := true) (by simp [h]), sel_yes h]; simp; omega
    · rw [sel_no (b := false) (by simp [h]), sel_yes h]; simp; omega
theorem sel_prefix (L : Nat → Int) (T : Nat → ByteArray) (F : Nat → Bool) (b : Bool) (k : Nat) : ∀ d, ∃ r, sel L T F b (k + d) = sel L T F b k ++ r
  | 0 => ⟨[], by simp⟩
  | d + 1 => by
    obtain ⟨r, hr⟩ := sel_prefix L T F b k d
    by_cases h : F (k + d) = b
    · exact ⟨r ++ [(L (k + d), T (k + d))], by rw [← Nat.add_assoc, sel_yes h, hr, List.append_assoc]⟩
    · exact ⟨r, by rw [← Nat.add_assoc, sel_no h, hr]⟩
theorem sel_at {L : Nat → Int} {T : Nat → ByteArray} {F : Nat → Bool} {b : Bool} {i N : Nat} (hi : i < N) (hf : F i = b) :
    ∃ h : (sel L T F b i).length < (sel L T F b N).length, (sel L T F b N)[(sel L T F b i).length] = (L i, T i) := by
  obtain ⟨r, hr⟩ := sel_prefix L T F b (i + 1) (N - (i + 1))
  rw [show i + 1 + (N - (i + 1)) = N by omega, sel_yes hf] at hr
  refine ⟨by rw [hr]; simp, ?_⟩
  simp [hr]

theorem problem12s (w : World) (base p : Nat) (v : Value) (L : Nat → Int) (T : Nat → ByteArray) (F : Nat → Bool) (b : Bool) (N i : Nat) (hi : i < N) (hN : N ≤ 65536) (hf : F i = b) (h : Chk w base p v (sel L T F b N)) :
    Calls Try.prog 12 #[.pointer (some ⟨p, 0, none⟩), .int .i64 (sel L T F b i).length] w fun e w' => e = .returned (.tuple #[.int .i64 (L i), .string (T i)]) ∧ Below w.heap.size w w' := by
  obtain ⟨hlt, he⟩ := sel_at (L := L) (T := T) hi hf
  have hl := sel_len L T F N
  have := problem12 w base p v (sel L T F b N) _ hlt (by cases b <;> omega) h
  rw [he] at this
  exact this

set_option maxHeartbeats 400000 in
theorem new9' (w : World) (p : Nat) (hp : w.heap.size = p) : Calls Try.prog 9 #[] w fun e w' => e = .returned (.pointer (some ⟨p, 0, none⟩)) ∧ w' = w.alloc (.cells #[.slice none 0 0] 42) := by
  subst hp; exact new9 w

set_option maxHeartbeats 1000000 in
theorem bytes13 (a0 a1 a2 : Option Addr) (n0 c0 n1 c1 n2 c2 : Nat) (T : Nat → ByteArray) (w : World) (h : Els w a1 n1 fun j => .string (T j)) :
    Calls Try.prog 13 #[.slice a0 n0 c0, .slice a1 n1 c1, .slice a2 n2 c2] w fun e w' => RetB e ∧ w' = w := by
  by_cases h0 : 1048576 < n0
  · clear h
    go_enter Try.func13, Try.ntmps13
    go_wp2
    go_ret
    exact ⟨⟨_, rfl⟩, rfl⟩
  by_cases h1 : 1048576 < n1
  · clear h
    go_enter Try.func13, Try.ntmps13
    go_wp2
    go_ret
    exact ⟨⟨_, rfl⟩, rfl⟩
  by_cases h2 : 1048576 < n0 + n1
  · clear h
    go_enter Try.func13, Try.ntmps13
    go_wp2
    go_ret
    exact ⟨⟨_, rfl⟩, rfl⟩
  by_cases h4 : 1048576 < n2
  all_goals
    rcases h with h | ⟨b, off, rfl, _, hc⟩
    · subst h
      go_enter Try.func13, Try.ntmps13
      go_wp2
      refine wp_loop_rounds 1 ?_
      rw [rounds_succ]
      go_wp2
      all_goals (go_ret; exact ⟨⟨_, rfl⟩, rfl⟩)
    · have HC : Hid (∀ j, j < n1 → w.cell? ⟨b, off + j, none⟩ = some (.string (T j))) := hc
      clear hc
      go_enter Try.func13, Try.ntmps13
      go_wp2
      go_loop [7, 8] (fun z i => ∃ (k : Nat) (m : Int), i = .int .i64 k ∧ k ≤ n1 ∧ z = .int .i64 m) (fun _ i => n1 - (intOf i).toNat)
      case atStart => exact ⟨0, _, rfl, Nat.zero_le _, rfl⟩
      case round =>
        obtain ⟨k, m, rfl, hk, rfl⟩ := hrel
        by_cases hlt : k < n1
        · have c := HC.out k hlt
          generalize T k = s at c
          go_wp2
          all_goals first
            | (go_ret; exact ⟨⟨_, rfl⟩, rfl⟩)
            | (go_round; (case rel => exact ⟨k + 1, _, by go_num, by omega, rfl⟩); (case measure => simp [intOf]; omega))
        · go_wp2
          all_goals (go_ret; exact ⟨⟨_, rfl⟩, rfl⟩)
end Go.Proofs.Qxb6613596a.chk
