/-
  The window: ZZnewWindow (17), ZZsetBucket (18), ZZcountStatus (19).
-/
import Derived.Test.Qxb6608868aSmall
namespace Go.Proofs.Qxb6608868a.st
open Go.RowKit
set_option maxRecDepth 100000

/-- A new window's cells. -/
def winL (org : Int) : List Value := .int .i64 org :: (List.replicate 10 (.int .i64 0 :: talL 0 0 (.slice none 0 0))).flatten

theorem zero68 (w : World) : (zeroValue 68).run Try.prog w = .ok (.agg (winL 0).toArray) w := by kernel_rfl

set_option maxHeartbeats 4000000 in
theorem new17 (org : Int) (w : World) :
    Calls Try.prog 17 #[.int .i64 org] w fun e w' => e = .returned (.pointer (some ⟨w.heap.size, 0, none⟩)) ∧ w' = w.alloc (.cells (winL org).toArray 68) := by
  have hz := zero68
  have hne : ¬ (winL 0).toArray = #[] := by simp [winL]
  have hset : (winL 0).toArray.setIfInBounds 0 (.int .i64 org) = (winL org).toArray := by simp [winL]
  go_enter Try.func17, Try.ntmps17
  go_wp2
  go_ret
  exact ⟨rfl, rfl⟩

set_option maxHeartbeats 1000000 in
theorem set18 (w : World) (pw i : Nat) (s r e : Int) (u0 u1 u2 : Value) (hi : i < 10)
    (c0 : w.cell? ⟨pw, 1 + i * 63, none⟩ = some u0) (c1 : w.cell? ⟨pw, 1 + i * 63 + 1, none⟩ = some u1) (c2 : w.cell? ⟨pw, 1 + i * 63 + 1 + 1, none⟩ = some u2)
    (f0 : w.frozen? ⟨pw, 1 + i * 63, none⟩ = false) (f1 : w.frozen? ⟨pw, 1 + i * 63 + 1, none⟩ = false) (f2 : w.frozen? ⟨pw, 1 + i * 63 + 1 + 1, none⟩ = false) :
    Calls Try.prog 18 #[.pointer (some ⟨pw, 0, none⟩), .int .i64 i, .int .i64 s, .int .i64 r, .int .i64 e] w fun en w' => en = .returned (.tuple #[]) ∧
      w' = ((w.setCell ⟨pw, 1 + i * 63, none⟩ (.int .i64 s)).setCell ⟨pw, 1 + i * 63 + 1, none⟩ (.int .i64 r)).setCell ⟨pw, 1 + i * 63 + 1 + 1, none⟩ (.int .i64 e) := by
  have j1 : (0 : Int) ≤ (i : Int) := by omega
  have j2 : (i : Int) < 10 := by omega
  go_enter Try.func18, Try.ntmps18
  go_wp2
  go_end0
  exact ⟨rfl, rfl⟩

/-- A window at block pw, whole. -/
structure WinS (w : World) (pw : Nat) (org : Int) (sl rq er : Nat → Int) (V : Nat → Value) (X : Nat → SL) (cur : Array Value) : Prop where
  blk : w.heap[pw]? = some (.cells cur 68 (0, 0))
  size : cur.size = 631
  c0 : cur[0]? = some (.int .i64 org)
  slot : ∀ j, j < 10 → cur[1 + j * 63]? = some (.int .i64 (sl j))
  rqc : ∀ j, j < 10 → cur[1 + j * 63 + 1]? = some (.int .i64 (rq j))
  erc : ∀ j, j < 10 → cur[1 + j * 63 + 1 + 1]? = some (.int .i64 (er j))
  vc : ∀ j, j < 10 → cur[1 + j * 63 + 1 + 2]? = some (V j)
  lat : ∀ j, j < 10 → ∀ g, g < 58 → cur[1 + j * 63 + 1 + 3 + 1 + g]? = some (.pointer none)
  sts : ∀ j, j < 10 → (V j = .slice none 0 0 ∧ X j = []) ∨ ∃ g cu st c cc, V j = .slice (some ⟨g, 0, none⟩) 1 cu ∧ X j = [(st, c)] ∧ w.heap[g]? = some (.cells cc 71 (0, 0)) ∧ cc[0]? = some (.int .i64 st) ∧ cc[1]? = some (.int .i64 c)

/-- Nothing that was there has turned but block pw. -/
structure Wr (w w' : World) (pw : Nat) : Prop where
  os : w'.os = w.os
  tape : w'.tape = w.tape
  output : w'.output = w.output
  size : w.heap.size ≤ w'.heap.size
  block : ∀ k, k < w.heap.size → k ≠ pw → w'.heap[k]? = w.heap[k]?

theorem winL_at (org : Int) (j o : Nat) (hj : j < 10) (ho : o < 63) : (winL org)[1 + j * 63 + o]? = (.int .i64 0 :: talL 0 0 (.slice none 0 0))[o]? := by
  have hl : (.int .i64 0 :: talL 0 0 (.slice none 0 0) : List Value).length = 63 := rfl
  unfold winL
  rw [show 1 + j * 63 + o = (j * 63 + o) + 1 by omega, List.getElem?_cons_succ]
  generalize (.int .i64 0 :: talL 0 0 (.slice none 0 0) : List Value) = B at *
  have key : ∀ (n j : Nat), j < n → ((List.replicate n B).flatten)[j * 63 + o]? = B[o]? := by
    intro n
    induction n with
    | zero => intro j hj; omega
    | succ n ih =>
      intro j hj
      rw [List.replicate_succ, List.flatten_cons]
      cases j with
      | zero => rw [List.getElem?_append_left (by omega)]; simp
      | succ j =>
        rw [List.getElem?_append_right (by omega), hl, show (j + 1) * 63 + o - 63 = j * 63 + o by omega]
        exact ih j (by omega)
  exact key 10 j hj

theorem winL_len (org : Int) : (winL org).length = 631 := rfl

theorem WinS.new (w : World) (pw : Nat) (org : Int) (h : w.heap[pw]? = some (.cells (winL org).toArray 68 (0, 0))) :
    WinS w pw org (fun _ => 0) (fun _ => 0) (fun _ => 0) (fun _ => .slice none 0 0) (fun _ => []) (winL org).toArray := by
  have A : ∀ j o, j < 10 → o < 63 → (winL org).toArray[1 + j * 63 + o]? = (.int .i64 0 :: talL 0 0 (.slice none 0 0))[o]? := fun j o hj ho => by
    rw [List.getElem?_toArray]; exact winL_at org j o hj ho
  refine ⟨h, by simpa using winL_len org, rfl, fun j hj => A j 0 hj (by omega), fun j hj => A j 1 hj (by omega), fun j hj => A j 2 hj (by omega), fun j hj => A j 3 hj (by omega), fun j hj g hg => ?_, fun j hj => .inl ⟨rfl, rfl⟩⟩
  have := A j (5 + g) hj (by omega)
  rw [show 1 + j * 63 + 1 + 3 + 1 + g = 1 + j * 63 + (5 + g) by omega, this]
  show (.int .i64 0 :: .int .i64 0 :: .int .i64 0 :: .slice none 0 0 :: .int .i64 0 :: nils : List Value)[5 + g]? = _
  rw [show 5 + g = g + 1 + 1 + 1 + 1 + 1 by omega]
  simp only [List.getElem?_cons_succ]
  exact nils_at g hg

/-- Another block's writes leave a window. -/
theorem WinS.keep {w w' : World} {pw : Nat} {org : Int} {sl rq er : Nat → Int} {V : Nat → Value} {X : Nat → SL} {cur : Array Value} (h : WinS w pw org sl rq er V X cur) (hk : ∀ k, k < w.heap.size → (k = pw ∨ ∃ cc, w.heap[k]? = some (.cells cc 71 (0, 0))) → w'.heap[k]? = w.heap[k]?) : WinS w' pw org sl rq er V X cur := by
  refine ⟨by rw [hk pw (lt_of_block h.blk) (.inl rfl)]; exact h.blk, h.size, h.c0, h.slot, h.rqc, h.erc, h.vc, h.lat, fun j hj => ?_⟩
  rcases h.sts j hj with h' | ⟨g, cu, st, c, cc, hv, hx, hg, k0, k1⟩
  · exact .inl h'
  · exact .inr ⟨g, cu, st, c, cc, hv, hx, by rw [hk g (lt_of_block hg) (.inr ⟨cc, hg⟩)]; exact hg, k0, k1⟩
theorem WinS.below {w w' : World} {pw : Nat} {org : Int} {sl rq er : Nat → Int} {V : Nat → Value} {X : Nat → SL} {cur : Array Value} (h : WinS w pw org sl rq er V X cur) (hb : Below w.heap.size w w') : WinS w' pw org sl rq er V X cur :=
  h.keep fun k hk _ => hb.block k hk
theorem WinS.other {w w' : World} {pw p' : Nat} {org : Int} {sl rq er : Nat → Int} {V : Nat → Value} {X : Nat → SL} {cur c' : Array Value} (h : WinS w pw org sl rq er V X cur) (hw : Wr w w' p') (hne : pw ≠ p') (hp : w.heap[p']? = some (.cells c' 68 (0, 0))) : WinS w' pw org sl rq er V X cur :=
  h.keep fun k hk hor => hw.block k hk (by
    rcases hor with rfl | ⟨cc, hcc⟩
    · exact hne
    · rintro rfl
      have := hcc.symm.trans hp
      simp at this)

def upd {α : Type} (f : Nat → α) (b : Nat) (x : α) : Nat → α := fun j => if j = b then x else f j
theorem upd_same {α : Type} (f : Nat → α) (b : Nat) (x : α) : upd f b x b = x := if_pos rfl
theorem upd_other {α : Type} (f : Nat → α) (b j : Nat) (x : α) (h : j ≠ b) : upd f b x j = f j := if_neg h

theorem set_at (cur : Array Value) (a k : Nat) (u : Value) (h : k ≠ a) : (cur.setIfInBounds a u)[k]? = cur[k]? := by
  rw [Array.getElem?_setIfInBounds, if_neg (Ne.symm h)]
theorem set_same (cur : Array Value) (a : Nat) (u : Value) (h : a < cur.size) : (cur.setIfInBounds a u)[a]? = some u := by
  rw [Array.getElem?_setIfInBounds, if_pos rfl, if_pos h]

set_option maxHeartbeats 1000000 in
theorem WinS.set {w : World} {pw : Nat} {org : Int} {sl rq er : Nat → Int} {V : Nat → Value} {X : Nat → SL} {cur : Array Value} (h : WinS w pw org sl rq er V X cur) (b : Nat) (hb : b < 10) (s r e : Int) :
    Calls Try.prog 18 #[.pointer (some ⟨pw, 0, none⟩), .int .i64 b, .int .i64 s, .int .i64 r, .int .i64 e] w fun en w' => en = .returned (.tuple #[]) ∧ Wr w w' pw ∧ ∃ cur', WinS w' pw org (upd sl b s) (upd rq b r) (upd er b e) V X cur' := by
  have fz : ∀ k, w.frozen? ⟨pw, k, none⟩ = false := fun k => by simp [World.frozen?, h.blk]
  have ce : ∀ k, w.cell? ⟨pw, k, none⟩ = cur[k]? := fun k => cell_of_row w pw k cur 68 (0, 0) h.blk
  refine (set18 w pw b s r e _ _ _ hb ((ce _).trans (h.slot b hb)) ((ce _).trans (h.rqc b hb)) ((ce _).trans (h.erc b hb)) (fz _) (fz _) (fz _)).mono ?_
  rintro en w' ⟨rfl, rfl⟩
  have e1 : w.setCell ⟨pw, 1 + b * 63, none⟩ (.int .i64 s) = w.setRow pw (cur.setIfInBounds (1 + b * 63) (.int .i64 s)) := setCell_eq_setRow w pw _ cur 68 (0, 0) _ h.blk
  have h1 := setRow_heap w pw _ (cur.setIfInBounds (1 + b * 63) (.int .i64 s)) 68 (0, 0) h.blk
  rw [e1, setCell_eq_setRow _ pw _ _ 68 (0, 0) _ h1, setRow_setRow]
  have h2 := setRow_heap w pw _ ((cur.setIfInBounds (1 + b * 63) (.int .i64 s)).setIfInBounds (1 + b * 63 + 1) (.int .i64 r)) 68 (0, 0) h.blk
  rw [setCell_eq_setRow _ pw _ _ 68 (0, 0) _ h2, setRow_setRow]
  have h3 := setRow_heap w pw _ (((cur.setIfInBounds (1 + b * 63) (.int .i64 s)).setIfInBounds (1 + b * 63 + 1) (.int .i64 r)).setIfInBounds (1 + b * 63 + 1 + 1) (.int .i64 e)) 68 (0, 0) h.blk
  have hs := h.size
  refine ⟨rfl, ⟨rfl, rfl, rfl, by simp, fun k hk hkp => setRow_other w pw k _ hkp⟩, _, ⟨h3, by simpa using hs, ?_, ?_, ?_, ?_, ?_, ?_, ?_⟩⟩
  · rw [set_at _ _ _ _ (by omega), set_at _ _ _ _ (by omega), set_at _ _ _ _ (by omega)]; exact h.c0
  · intro j hj
    by_cases e : j = b
    · subst e; rw [upd_same, set_at _ _ _ _ (by omega), set_at _ _ _ _ (by omega), set_same _ _ _ (by omega)]
    · rw [upd_other _ _ _ _ e, set_at _ _ _ _ (by omega), set_at _ _ _ _ (by omega), set_at _ _ _ _ (by omega)]; exact h.slot j hj
  · intro j hj
    by_cases e : j = b
    · subst e; rw [upd_same, set_at _ _ _ _ (by omega), set_same _ _ _ (by simp; omega)]
    · rw [upd_other _ _ _ _ e, set_at _ _ _ _ (by omega), set_at _ _ _ _ (by omega), set_at _ _ _ _ (by omega)]; exact h.rqc j hj
  · intro j hj
    by_cases e : j = b
    · subst e; rw [upd_same, set_same _ _ _ (by simp; omega)]
    · rw [upd_other _ _ _ _ e, set_at _ _ _ _ (by omega), set_at _ _ _ _ (by omega), set_at _ _ _ _ (by omega)]; exact h.erc j hj
  · intro j hj
    rw [set_at _ _ _ _ (by omega), set_at _ _ _ _ (by omega), set_at _ _ _ _ (by omega)]; exact h.vc j hj
  · intro j hj g hg
    rw [set_at _ _ _ _ (by omega), set_at _ _ _ _ (by omega), set_at _ _ _ _ (by omega)]; exact h.lat j hj g hg
  · intro j hj
    rcases h.sts j hj with h' | ⟨g, cu, st, c, cc, hv, hx, hg, k0, k1⟩
    · exact .inl h'
    · refine .inr ⟨g, cu, st, c, cc, hv, hx, ?_, k0, k1⟩
      rw [setRow_other w pw g _ (by rintro rfl; have := hg.symm.trans h.blk; simp at this)]; exact hg

theorem WinS.read {w : World} {pw : Nat} {org : Int} {sl rq er : Nat → Int} {V : Nat → Value} {X : Nat → SL} {cur : Array Value} (h : WinS w pw org sl rq er V X cur) : WinR w pw org sl rq er V X := by
  have ce : ∀ k, w.cell? ⟨pw, k, none⟩ = cur[k]? := fun k => cell_of_row w pw k cur 68 (0, 0) h.blk
  refine ⟨(ce _).trans h.c0, fun j hj => (ce _).trans (h.slot j hj), fun j hj => ⟨(ce _).trans (h.rqc j hj), (ce _).trans (h.erc j hj), (ce _).trans (h.vc j hj), fun i u hi => ?_, ?_⟩⟩
  · have hi' : i < 58 := (List.getElem?_eq_some_iff.1 hi).1
    rw [ce, h.lat j hj i hi', ← nils_at i hi']; exact hi
  · rcases h.sts j hj with h' | ⟨g, cu, st, c, cc, hv, hx, hg, k0, k1⟩
    · exact .inl h'
    · exact .inr ⟨g, cu, st, c, hv, hx, by rw [cell_of_row w g 0 cc 71 (0, 0) hg]; exact k0, by rw [cell_of_row w g 1 cc 71 (0, 0) hg]; exact k1⟩

set_option maxHeartbeats 1000000 in
theorem WinS.count {w : World} {pw : Nat} {org : Int} {sl rq er : Nat → Int} {V : Nat → Value} {X : Nat → SL} {cur : Array Value} (h : WinS w pw org sl rq er V X cur) (b : Nat) (hb : b < 10) (hV : V b = .slice none 0 0) (st n : Int) (hn : 0 ≤ n ∧ n ≤ 1099511627776) :
    Calls Try.prog 19 #[.pointer (some ⟨pw, 0, none⟩), .int .i64 b, .int .i64 st, .int .i64 n] w fun en w' => en = .returned (.tuple #[]) ∧ Wr w w' pw ∧ ∃ v' cur', WinS w' pw org sl rq er (upd V b v') (upd X b [(st, n)]) cur' := by
  have hT : Tal w w.heap.size pw (1 + b * 63 + 1) 68 cur (.slice none 0 0) [] := ⟨h.blk, by rw [h.vc b hb, hV], by decide, World.ownsRow_nil _ _ _ _, Nat.le_refl _⟩
  have CO : Hid (Calls Try.prog 30 #[.pointer (some ⟨pw, 1 + b * 63 + 1, none⟩), .int .i64 st, .int .i64 n] w fun en w' => en = .returned (.tuple #[]) ∧ Wr w w' pw ∧ ∃ v' cur', WinS w' pw org sl rq er (upd V b v') (upd X b [(st, n)]) cur') := by
    refine (count30 w w.heap.size pw (1 + b * 63 + 1) 68 cur _ [] st n hT (by simp) (fun x hx => by simp at hx) ⟨hn.1, by omega⟩).mono ?_
    rintro en w' ⟨rfl, v', hc⟩
    have hs := h.size
    refine ⟨rfl, ⟨hc.os, hc.tape, hc.output, hc.size, fun k hk hkp => hc.block k hk hkp (by simp [Value.ownBlock])⟩, v', _, ⟨hc.blk, by simpa using hs, ?_, ?_, ?_, ?_, ?_, ?_, ?_⟩⟩
    · rw [set_at _ _ _ _ (by omega)]; exact h.c0
    · intro j hj; rw [set_at _ _ _ _ (by omega)]; exact h.slot j hj
    · intro j hj; rw [set_at _ _ _ _ (by omega)]; exact h.rqc j hj
    · intro j hj; rw [set_at _ _ _ _ (by omega)]; exact h.erc j hj
    · intro j hj
      by_cases e : j = b
      · subst e; rw [upd_same, set_same _ _ _ (by omega)]
      · rw [upd_other _ _ _ _ e, set_at _ _ _ _ (by omega)]; exact h.vc j hj
    · intro j hj g hg; rw [set_at _ _ _ _ (by omega)]; exact h.lat j hj g hg
    · intro j hj
      by_cases e : j = b
      · subst e
        rw [upd_same, upd_same]
        have ho : w'.ownsRow w.heap.size 71 2 v' 1 [.int .i64 st, .int .i64 n] := hc.own
        rcases ho.2 with ⟨_, h1⟩ | ⟨g, cap, c, rfl, hg, hh, _, _, _, ht⟩
        · omega
        · have e0 : c.toList[0]? = some (.int .i64 st) := by
            have : (c.toList.take (1 * 2))[0]? = some (.int .i64 st) := by rw [ht]; rfl
            rwa [List.getElem?_take, if_pos (by omega)] at this
          have e1 : c.toList[1]? = some (.int .i64 n) := by
            have : (c.toList.take (1 * 2))[1]? = some (.int .i64 n) := by rw [ht]; rfl
            rwa [List.getElem?_take, if_pos (by omega)] at this
          exact .inr ⟨g, cap, st, n, c, rfl, rfl, hh, by simpa using e0, by simpa using e1⟩
      · rw [upd_other _ _ _ _ e, upd_other _ _ _ _ e]
        rcases h.sts j hj with h' | ⟨g, cu, st', c, cc, hv, hx, hg, k0, k1⟩
        · exact .inl h'
        · refine .inr ⟨g, cu, st', c, cc, hv, hx, ?_, k0, k1⟩
          rw [hc.block g (lt_of_block hg) (by rintro rfl; have := hg.symm.trans h.blk; simp at this) (by simp [Value.ownBlock])]; exact hg
  clear hT h hV hn
  have j1 : (0 : Int) ≤ (b : Int) := by omega
  have j2 : (b : Int) < 10 := by omega
  go_enter Try.func19, Try.ntmps19
  go_wp2_with fail
  refine CO.out.mono ?_
  rintro en w1 ⟨rfl, hh⟩
  have HH : Hid (Wr w w1 pw ∧ ∃ v' cur', WinS w1 pw org sl rq er (upd V b v') (upd X b [(st, n)]) cur') := hh
  clear hh
  go_wp2_with fail
  go_end0
  exact ⟨rfl, HH.out⟩
end Go.Proofs.Qxb6608868a.st
