/-
  tally.merge (34).
-/
import Derived.Test.Qxb6608868aCnt
import Derived.Test.Qxb6608868aLat
import Derived.RegionTactic
import Derived.BigRegion
import Derived.Deep.QuietTactic
import Derived.BigQuiet
namespace Go.Proofs.Qxb6608868a.st
open Go.RowKit
set_option maxRecDepth 100000

/-- A tally's cells. -/
def talL (r e : Int) (v : Value) : List Value := .int .i64 r :: .int .i64 e :: v :: .int .i64 0 :: nils

/-- A tally alone in its block. -/
structure TalT (w : World) (base pt : Nat) (r e : Int) (v : Value) (xs : SL) : Prop where
  blk : w.heap[pt]? = some (.cells (talL r e v).toArray 63 (0, 0))
  own : w.ownsRow base 71 2 v xs.length (cellsOf xs)
  hbase : base ≤ w.heap.size

/-- A tally that is merged from: at offset ou of block pu; at most one status. -/
structure Src (w : World) (pu ou : Nat) (ru eu : Int) (vu : Value) (ys : SL) : Prop where
  c0 : w.cell? ⟨pu, ou, none⟩ = some (.int .i64 ru)
  c1 : w.cell? ⟨pu, ou + 1, none⟩ = some (.int .i64 eu)
  c2 : w.cell? ⟨pu, ou + 2, none⟩ = some vu
  lat : w.rangeAt pu (ou + 3 + 1) nils
  sts : (vu = .slice none 0 0 ∧ ys = []) ∨ ∃ g cu st c, vu = .slice (some ⟨g, 0, none⟩) 1 cu ∧ ys = [(st, c)] ∧ w.cell? ⟨g, 0, none⟩ = some (.int .i64 st) ∧ w.cell? ⟨g, 1, none⟩ = some (.int .i64 c)

/-- What the merge leaves. -/
structure Mrg (w w' : World) (base pt : Nat) (v v' : Value) (r' e' : Int) (zs : SL) : Prop where
  os : w'.os = w.os
  tape : w'.tape = w.tape
  output : w'.output = w.output
  size : w.heap.size ≤ w'.heap.size
  blk : w'.heap[pt]? = some (.cells (talL r' e' v').toArray 63 (0, 0))
  own : w'.ownsRow base 71 2 v' zs.length (cellsOf zs)
  block : ∀ k, k < w.heap.size → k ≠ pt → some k ≠ v.ownBlock → w'.heap[k]? = w.heap[k]?
  row : v'.ownBlock = v.ownBlock ∨ ∃ g, w.heap.size ≤ g ∧ v'.ownBlock = some g

theorem TalT.ne {w : World} {base pt : Nat} {r e : Int} {v : Value} {xs : SL} (h : TalT w base pt r e v xs) : some pt ≠ v.ownBlock := by
  intro hp
  rcases h.own.2 with ⟨rfl, _⟩ | ⟨g, cap, c, rfl, _, hg, _⟩
  · simp [Value.ownBlock] at hp
  · simp [Value.ownBlock] at hp
    subst hp
    have := h.blk.symm.trans hg
    simp at this

/-- Behind the two sums. -/
theorem TalT.sums {w : World} {base pt : Nat} {r e : Int} {v : Value} {xs : SL} (h : TalT w base pt r e v xs) (r' e' : Int) :
    Mrg w ((w.setCell ⟨pt, 0, none⟩ (.int .i64 r')).setCell ⟨pt, 1, none⟩ (.int .i64 e')).drew.drew base pt v v r' e' xs := by
  have e1 : w.setCell ⟨pt, 0, none⟩ (.int .i64 r') = w.setRow pt (talL r' e v).toArray := by
    rw [setCell_eq_setRow w pt 0 _ 63 (0, 0) _ h.blk]; rfl
  have h1 := setRow_heap w pt _ (talL r' e v).toArray 63 (0, 0) h.blk
  have e2 : (w.setRow pt (talL r' e v).toArray).setCell ⟨pt, 1, none⟩ (.int .i64 e') = w.setRow pt (talL r' e' v).toArray := by
    rw [setCell_eq_setRow _ pt 1 _ 63 (0, 0) _ h1, setRow_setRow]; rfl
  rw [e1, e2]
  refine ⟨rfl, rfl, rfl, by simp, setRow_heap w pt _ _ 63 (0, 0) h.blk, ?_, fun k hk hkp hkv => setRow_other w pt k _ hkp, .inl rfl⟩
  refine ⟨h.own.1, ?_⟩
  rcases h.own.2 with hn | ⟨g, cap, c, rfl, hb, hg, rest⟩
  · exact .inl hn
  · refine .inr ⟨g, cap, c, rfl, hb, ?_, rest⟩
    show (w.setRow pt _).heap[g]? = _
    rw [setRow_other w pt g _ (fun e => h.ne (by rw [← e]; rfl))]
    exact hg

theorem Mrg.tal {w w' : World} {base pt : Nat} {v v' : Value} {r' e' : Int} {zs : SL} (h : Mrg w w' base pt v v' r' e' zs) (hb : base ≤ w.heap.size) : TalT w' base pt r' e' v' zs :=
  ⟨h.blk, h.own, Nat.le_trans hb h.size⟩

/-- A cell of another block than the tally's and its row's. -/
theorem Mrg.cell {w w' : World} {base pt : Nat} {v v' : Value} {r' e' : Int} {zs : SL} (h : Mrg w w' base pt v v' r' e' zs) {p o : Nat} (hp : p < w.heap.size) (h1 : p ≠ pt) (h2 : some p ≠ v.ownBlock) : w'.cell? ⟨p, o, none⟩ = w.cell? ⟨p, o, none⟩ :=
  World.cell?_of_block (h.block p hp h1 h2)

/-- Behind one status more. -/
theorem Mrg.count {w W W' : World} {base pt : Nat} {v v' : Value} {r' e' : Int} {xs zs : SL} (h : Mrg w W base pt v v r' e' xs) (O : Obj) (hc : Cnt (W.alloc O) W' base pt 0 63 (talL r' e' v).toArray v v' zs) : Mrg w W' base pt v v' r' e' zs := by
  have hs : (W.alloc O).heap.size = W.heap.size + 1 := by simp
  have h0 := h.size
  refine ⟨hc.os.trans h.os, hc.tape.trans h.tape, hc.output.trans h.output, ?_, ?_, hc.own, fun k hk hkp hkv => ?_, ?_⟩
  · have := hc.size; omega
  · exact hc.blk
  · rw [hc.block k (by omega) hkp hkv, Below.heap_alloc W O k (by omega)]
    exact h.block k hk hkp hkv
  · rcases hc.row with h' | ⟨g, hg, h'⟩
    · exact .inl h'
    · exact .inr ⟨g, by omega, h'⟩

set_option maxHeartbeats 4000000 in
theorem merge_none (w : World) (base pt : Nat) (r e : Int) (v : Value) (xs : SL) (pu ou : Nat) (ru eu : Int) (ht : TalT w base pt r e v xs) (hu : Src w pu ou ru eu (.slice none 0 0) [])
    (hne : pu ≠ pt) (hnv : some pu ≠ v.ownBlock) (b1 : 0 ≤ r ∧ r ≤ 1000000000000000) (b2 : 0 ≤ e ∧ e ≤ 1000000000000000) (b3 : 0 ≤ ru ∧ ru ≤ 1000000000000000) (b4 : 0 ≤ eu ∧ eu ≤ 1000000000000000) :
    Calls Try.prog 34 #[.pointer (some ⟨pt, 0, none⟩), .pointer (some ⟨pu, ou, none⟩)] w fun en w' => en = .returned (.tuple #[]) ∧ Mrg w w' base pt v v (r + ru) (e + eu) xs := by
  obtain ⟨b11, b12⟩ := b1
  obtain ⟨b21, b22⟩ := b2
  obtain ⟨b31, b32⟩ := b3
  obtain ⟨b41, b42⟩ := b4
  have d0 := hu.c0
  have d1 := hu.c1
  have d2 := hu.c2
  have c0 : w.cell? ⟨pt, 0, none⟩ = some (.int .i64 r) := by rw [cell_of_row w pt 0 _ 63 (0, 0) ht.blk]; rfl
  have c1 : w.cell? ⟨pt, 1, none⟩ = some (.int .i64 e) := by rw [cell_of_row w pt 1 _ 63 (0, 0) ht.blk]; rfl
  have f0 : w.frozen? ⟨pt, 0, none⟩ = false := by simp [World.frozen?, ht.blk]
  have f1 : w.frozen? ⟨pt, 1, none⟩ = false := by simp [World.frozen?, ht.blk]
  have SU : Hid (Mrg w ((w.setCell ⟨pt, 0, none⟩ (.int .i64 (r + ru))).setCell ⟨pt, 1, none⟩ (.int .i64 (e + eu))).drew.drew base pt v v (r + ru) (e + eu) xs) := ht.sums _ _
  have LA : Hid (∀ w', Mrg w w' base pt v v (r + ru) (e + eu) xs → w'.rangeAt pu (ou + 3 + 1) nils) := fun w' h j u hj => by
    have hc := hu.lat j u hj
    rw [h.cell (World.block_lt_of_cell? w _ hc) hne hnv]; exact hc
  clear ht hu
  go_enter Try.func34, Try.ntmps34
  go_wp2
  go_region
  go_wp2
  go_region
  go_wp2
  generalize ((w.setCell ⟨pt, 0, none⟩ (.int .i64 (r + ru))).setCell ⟨pt, 1, none⟩ (.int .i64 (e + eu))).drew.drew = W at SU ⊢
  refine wp_loop_rounds 1 ?_
  rw [rounds_succ]
  go_wp2
  go_region_held3 (fun _ => True) (trivial) (first | (go_at_call 29; refine (lat29 _ pu (ou + 3) _ (by exact LA.out W SU.out)).mono ?_; rintro e w2 ⟨rfl, rfl⟩))
  go_wp2
  go_end0
  exact ⟨rfl, ⟨SU.out.os, SU.out.tape, SU.out.output, SU.out.size, SU.out.blk, SU.out.own, SU.out.block, SU.out.row⟩⟩

set_option maxHeartbeats 4000000 in
theorem merge_one (w : World) (base pt : Nat) (r e : Int) (v : Value) (xs : SL) (pu ou g cu : Nat) (ru eu st c : Int) (ht : TalT w base pt r e v xs) (hu : Src w pu ou ru eu (.slice (some ⟨g, 0, none⟩) 1 cu) [(st, c)])
    (k0 : w.cell? ⟨g, 0, none⟩ = some (.int .i64 st)) (k1 : w.cell? ⟨g, 1, none⟩ = some (.int .i64 c))
    (hne : pu ≠ pt) (hnv : some pu ≠ v.ownBlock) (hgt : g ≠ pt) (b1 : 0 ≤ r ∧ r ≤ 1000000000000000) (b2 : 0 ≤ e ∧ e ≤ 1000000000000000) (b3 : 0 ≤ ru ∧ ru ≤ 1000000000000000) (b4 : 0 ≤ eu ∧ eu ≤ 1000000000000000)
    (hlen : xs.length ≤ 1000) (hC : ∀ x ∈ xs, 0 ≤ x.2 ∧ x.2 ≤ 2000000000000000000) (hn : 0 ≤ c ∧ c ≤ 2000000000000000000) :
    Calls Try.prog 34 #[.pointer (some ⟨pt, 0, none⟩), .pointer (some ⟨pu, ou, none⟩)] w fun en w' => en = .returned (.tuple #[]) ∧ ∃ v', Mrg w w' base pt v v' (r + ru) (e + eu) (ins st c xs) := by
  obtain ⟨b11, b12⟩ := b1
  obtain ⟨b21, b22⟩ := b2
  obtain ⟨b31, b32⟩ := b3
  obtain ⟨b41, b42⟩ := b4
  have d0 := hu.c0
  have d1 := hu.c1
  have d2 := hu.c2
  have c0 : w.cell? ⟨pt, 0, none⟩ = some (.int .i64 r) := by rw [cell_of_row w pt 0 _ 63 (0, 0) ht.blk]; rfl
  have c1 : w.cell? ⟨pt, 1, none⟩ = some (.int .i64 e) := by rw [cell_of_row w pt 1 _ 63 (0, 0) ht.blk]; rfl
  have f0 : w.frozen? ⟨pt, 0, none⟩ = false := by simp [World.frozen?, ht.blk]
  have f1 : w.frozen? ⟨pt, 1, none⟩ = false := by simp [World.frozen?, ht.blk]
  have SU : Hid (Mrg w ((w.setCell ⟨pt, 0, none⟩ (.int .i64 (r + ru))).setCell ⟨pt, 1, none⟩ (.int .i64 (e + eu))).drew.drew base pt v v (r + ru) (e + eu) xs) := ht.sums _ _
  have LA : Hid (∀ w' v' zs, Mrg w w' base pt v v' (r + ru) (e + eu) zs → w'.rangeAt pu (ou + 3 + 1) nils) := fun w' v' zs h j u hj => by
    have hc := hu.lat j u hj
    rw [h.cell (World.block_lt_of_cell? w _ hc) hne hnv]; exact hc
  have CO : Hid (∀ W O, Mrg w W base pt v v (r + ru) (e + eu) xs → Calls Try.prog 30 #[.pointer (some ⟨pt, 0, none⟩), .int .i64 st, .int .i64 c] (W.alloc O) fun en w' => en = .returned (.tuple #[]) ∧ ∃ v', Mrg w w' base pt v v' (r + ru) (e + eu) (ins st c xs)) := fun W O h => by
    have htW := h.tal ht.hbase
    have ha : Tal (W.alloc O) base pt 0 63 (talL (r + ru) (e + eu) v).toArray v xs :=
      ⟨by rw [Below.heap_alloc W O pt (lt_of_block htW.blk)]; exact htW.blk, rfl, by decide, htW.own.alloc O, by have := htW.hbase; simp; omega⟩
    refine (count30 (W.alloc O) base pt 0 63 _ v xs st c ha hlen hC hn).mono ?_
    rintro en w' ⟨rfl, v', hc⟩
    exact ⟨rfl, v', h.count O hc⟩
  have GC : Hid (∀ W, W = ((w.setCell ⟨pt, 0, none⟩ (.int .i64 (r + ru))).setCell ⟨pt, 1, none⟩ (.int .i64 (e + eu))).drew.drew → W.cell? ⟨g, 0, none⟩ = some (.int .i64 st) ∧ W.cell? ⟨g, 1, none⟩ = some (.int .i64 c)) := fun W hW => by
    subst hW
    refine ⟨?_, ?_⟩
    · show ((w.setCell _ _).setCell _ _).cell? _ = _
      rw [World.cell?_setCell_other _ _ _ _ (fun h => hgt (congrArg Addr.block h).symm), World.cell?_setCell_other _ _ _ _ (fun h => hgt (congrArg Addr.block h).symm)]; exact k0
    · show ((w.setCell _ _).setCell _ _).cell? _ = _
      rw [World.cell?_setCell_other _ _ _ _ (fun h => hgt (congrArg Addr.block h).symm), World.cell?_setCell_other _ _ _ _ (fun h => hgt (congrArg Addr.block h).symm)]; exact k1
  clear ht hu k0 k1 hC hn
  go_enter Try.func34, Try.ntmps34
  go_wp2
  go_region
  go_wp2
  go_region
  go_wp2
  have gc := GC.out _ rfl
  clear GC
  generalize ((w.setCell ⟨pt, 0, none⟩ (.int .i64 (r + ru))).setCell ⟨pt, 1, none⟩ (.int .i64 (e + eu))).drew.drew = W at SU gc ⊢
  obtain ⟨k0, k1⟩ := gc
  refine wp_loop_rounds 2 ?_
  rw [rounds_succ]
  go_wp2_with fail
  refine (CO.out W _ SU.out).mono ?_
  rintro en w2 ⟨rfl, v', hm⟩
  have MR : Hid (Mrg w w2 base pt v v' (r + ru) (e + eu) (ins st c xs)) := hm
  clear hm
  go_wp2_with fail
  rw [rounds_succ]
  go_wp2
  go_region_held3 (fun _ => True) (trivial) (first | (go_at_call 29; refine (lat29 _ pu (ou + 3) _ (by exact LA.out w2 _ _ MR.out)).mono ?_; rintro e w3 ⟨rfl, rfl⟩))
  go_wp2
  go_end0
  exact ⟨rfl, v', ⟨MR.out.os, MR.out.tape, MR.out.output, MR.out.size, MR.out.blk, MR.out.own, MR.out.block, MR.out.row⟩⟩

/-- tally.merge. -/
theorem merge34 (w : World) (base pt : Nat) (r e : Int) (v : Value) (xs : SL) (pu ou : Nat) (ru eu : Int) (vu : Value) (ys : SL) (ht : TalT w base pt r e v xs) (hu : Src w pu ou ru eu vu ys)
    (hne : pu ≠ pt) (hnv : some pu ≠ v.ownBlock) (hgt : ∀ g, vu.ownBlock = some g → g ≠ pt) (b1 : 0 ≤ r ∧ r ≤ 1000000000000000) (b2 : 0 ≤ e ∧ e ≤ 1000000000000000) (b3 : 0 ≤ ru ∧ ru ≤ 1000000000000000) (b4 : 0 ≤ eu ∧ eu ≤ 1000000000000000)
    (hlen : xs.length ≤ 1000) (hC : ∀ x ∈ xs, 0 ≤ x.2 ∧ x.2 ≤ 2000000000000000000) (hn : ∀ x ∈ ys, 0 ≤ x.2 ∧ x.2 ≤ 2000000000000000000) :
    Calls Try.prog 34 #[.pointer (some ⟨pt, 0, none⟩), .pointer (some ⟨pu, ou, none⟩)] w fun en w' => en = .returned (.tuple #[]) ∧ ∃ v', Mrg w w' base pt v v' (r + ru) (e + eu) (ys.foldl (fun acc x => ins x.1 x.2 acc) xs) := by
  rcases hu.sts with ⟨rfl, rfl⟩ | ⟨g, cu, st, c, rfl, rfl, k0, k1⟩
  · refine (merge_none w base pt r e v xs pu ou ru eu ht hu hne hnv b1 b2 b3 b4).mono ?_
    rintro en w' ⟨rfl, h⟩
    exact ⟨rfl, v, h⟩
  · exact merge_one w base pt r e v xs pu ou g cu ru eu st c ht hu k0 k1 hne hnv (hgt g rfl) b1 b2 b3 b4 hlen hC (hn (st, c) (by simp))
end Go.Proofs.Qxb6608868a.st
