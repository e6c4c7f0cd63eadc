/-
  slotAt (33), window.sum (31), ZZsum (20).
-/
import Derived.Test.Qxb6608868aMrg
namespace Go.Proofs.Qxb6608868a.st
open Go.RowKit
set_option maxRecDepth 100000

set_option maxHeartbeats 400000 in
theorem slot33 (o n : Int) (w : World) (h0 : 0 ≤ o) (h1 : o ≤ n) (h2 : n ≤ 9223372036854775807) :
    Calls Try.prog 33 #[.int .i64 o, .int .i64 n] w fun e w' => e = .returned (.int .i64 ((n - o) / 1000000000)) ∧ w' = w := by
  go_enter Try.func33, Try.ntmps33
  go_wp2
  go_ret
  exact ⟨rfl, rfl⟩

/-- A window's cells, as the sum reads them. -/
structure WinR (w : World) (pw : Nat) (org : Int) (sl rq er : Nat → Int) (V : Nat → Value) (X : Nat → SL) : Prop where
  c0 : w.cell? ⟨pw, 0, none⟩ = some (.int .i64 org)
  slot : ∀ j, j < 10 → w.cell? ⟨pw, 1 + j * 63, none⟩ = some (.int .i64 (sl j))
  tal : ∀ j, j < 10 → Src w pw (1 + j * 63 + 1) (rq j) (er j) (V j) (X j)

def sumTo (C : Nat → Bool) (f : Nat → Int) : Nat → Int
  | 0 => 0
  | k + 1 => if C k then sumTo C f k + f k else sumTo C f k
def stsTo (C : Nat → Bool) (X : Nat → SL) : Nat → SL
  | 0 => []
  | k + 1 => if C k then (X k).foldl (fun acc x => ins x.1 x.2 acc) (stsTo C X k) else stsTo C X k

theorem zero63 : (Try.prog.info? 63).map (·.zero) = some (some (.agg (talL 0 0 (.slice none 0 0)).toArray)) := by kernel_rfl
theorem size63 : (Try.prog.info? 63).map (·.size) = some 62 := by kernel_rfl

/-! ### a store of many cells: the rest of the world -/
theorem setCells_other (w : World) (b j : Nat) : ∀ (vs : List Value) (o : Nat), j ≠ b → (w.setCells b o vs).heap[j]? = w.heap[j]?
  | vs, o, hj => by
    induction vs generalizing w o with
    | nil => rfl
    | cons v r ih => rw [World.setCells, ih, Below.heap_setCell _ _ _ _ hj]
theorem setCells_size (w : World) (b o : Nat) (vs : List Value) : (w.setCells b o vs).heap.size = w.heap.size := by
  induction vs generalizing w o with
  | nil => rfl
  | cons v r ih => rw [World.setCells, ih]; simp [World.setCell]
theorem setCells_os (w : World) (b o : Nat) (vs : List Value) : (w.setCells b o vs).os = w.os := by
  induction vs generalizing w o with
  | nil => rfl
  | cons v r ih => rw [World.setCells, ih]; rfl
theorem setCells_tape (w : World) (b o : Nat) (vs : List Value) : (w.setCells b o vs).tape = w.tape := by
  induction vs generalizing w o with
  | nil => rfl
  | cons v r ih => rw [World.setCells, ih]; rfl
theorem setCells_output (w : World) (b o : Nat) (vs : List Value) : (w.setCells b o vs).output = w.output := by
  induction vs generalizing w o with
  | nil => rfl
  | cons v r ih => rw [World.setCells, ih]; rfl
theorem results_cell {fn : Func} {p : Tmp} {ty : TypeId} (h : fn.results = #[.cell p ty]) (tmps : Array Value) (P : Program) (w : World) :
    (results fn tmps).run P w = ((asAddr (tmps.getD p undef)).run P w).andThen fun a w₁ => (loadVar ty a).run P w₁ := by
  simp only [results, h]
  simp [Sem.run_bind, Result.andThen]

/-- A whole block stored anew. -/
theorem setCells_whole (W : World) (g : Nat) (cur : Array Value) (vs : List Value) (t : TypeId) (hg : W.heap[g]? = some (.cells cur t (0, 0))) (hl : vs.length = cur.size) (h1 : vs.toArray.all (·.oneCell') = true) :
    (W.setCells g 0 vs).heap[g]? = some (.cells vs.toArray t (0, 0)) := by
  have ho : ∀ v ∈ vs, v.oneCell' = true := fun v hv => (Array.all_eq_true_iff_forall_mem.1 h1) v (by simpa using hv)
  have a := run_storeCells_at Try.prog g 0 t vs 0 cur W hg (by omega) ho
  have hi : ∀ j, j < vs.length → (W.cell? ⟨g, 0 + j, none⟩).isSome = true := fun j hj => by
    rw [cell_of_row W g (0 + j) cur t (0, 0) hg]; simp; omega
  have b := run_storeCells_cells (P := Try.prog) g 0 vs 0 W (fun j hj => by simpa using hi j hj) (fun j hj => by simp [World.frozen?, hg]) ho
  rw [a] at b
  have e : W.setRow g (cur.toList.take (0 + 0) ++ vs ++ cur.toList.drop (0 + 0 + vs.length)).toArray = W.setCells g 0 vs := by simpa using b
  rw [← e, setRow_heap W g cur _ t (0, 0) hg]
  rw [List.drop_eq_nil_of_le (by simp; omega)]
  simp

theorem talL_one (r e : Int) (v : Value) (hv : v.oneCell' = true) : (talL r e v).toArray.all (·.oneCell') = true := by
  refine all_oneCell_toArray (fun x hx => ?_)
  rcases List.mem_cons.1 hx with rfl | hx
  · rfl
  rcases List.mem_cons.1 hx with rfl | hx
  · rfl
  rcases List.mem_cons.1 hx with rfl | hx
  · exact hv
  rcases List.mem_cons.1 hx with rfl | hx
  · rfl
  rw [List.eq_of_mem_replicate hx]; rfl

/-! ### bounds -/
theorem ins_len (st n : Int) : ∀ xs : SL, (ins st n xs).length ≤ xs.length + 1
  | [] => by simp [ins]
  | (s, c) :: r => by
    have := ins_len st n r
    unfold ins
    split
    · simp; omega
    · split <;> simp
theorem ins_bd (st n B b : Int) (hn : 0 ≤ n ∧ n ≤ b) : ∀ xs : SL, (∀ x ∈ xs, 0 ≤ x.2 ∧ x.2 ≤ B) → 0 ≤ B → ∀ x ∈ ins st n xs, 0 ≤ x.2 ∧ x.2 ≤ B + b
  | [], _, hB, x, hx => by
    simp [ins] at hx
    subst hx
    exact ⟨hn.1, by have := hn.2; show n ≤ B + b; omega⟩
  | (s, c) :: r, h, hB, x, hx => by
    have hc := h (s, c) (by simp)
    have hr : ∀ x ∈ r, 0 ≤ x.2 ∧ x.2 ≤ B := fun y hy => h y (by simp [hy])
    have hcs : 0 ≤ c ∧ c ≤ B := hc
    unfold ins at hx
    split at hx
    · rcases List.mem_cons.1 hx with rfl | hx
      · exact ⟨hcs.1, by show c ≤ B + b; omega⟩
      · exact ins_bd st n B b hn r hr hB x hx
    · split at hx
      · rcases List.mem_cons.1 hx with rfl | hx
        · exact ⟨by show 0 ≤ c + n; omega, by show c + n ≤ B + b; omega⟩
        · have := hr x hx; omega
      · rcases List.mem_cons.1 hx with rfl | hx
        · exact ⟨hn.1, by show n ≤ B + b; omega⟩
        · have := h x hx; omega

/-- The numbers that go in are of moderate size. -/
structure Sized (rq er : Nat → Int) (X : Nat → SL) : Prop where
  rq : ∀ j, j < 10 → 0 ≤ rq j ∧ rq j ≤ 1099511627776
  er : ∀ j, j < 10 → 0 ≤ er j ∧ er j ≤ 1099511627776
  one : ∀ j, j < 10 → (X j).length ≤ 1
  cnt : ∀ j, j < 10 → ∀ x ∈ X j, 0 ≤ x.2 ∧ x.2 ≤ 1099511627776

theorem sum_bd (C : Nat → Bool) (f : Nat → Int) (h : ∀ j, j < 10 → 0 ≤ f j ∧ f j ≤ 1099511627776) : ∀ k, k ≤ 10 → 0 ≤ sumTo C f k ∧ sumTo C f k ≤ k * 1099511627776
  | 0, _ => by simp [sumTo]
  | k + 1, hk => by
    have ih := sum_bd C f h k (by omega)
    have := h k (by omega)
    unfold sumTo
    split <;> (refine ⟨by omega, by omega⟩)
theorem sts_bd (C : Nat → Bool) (X : Nat → SL) (h1 : ∀ j, j < 10 → (X j).length ≤ 1) (h2 : ∀ j, j < 10 → ∀ x ∈ X j, 0 ≤ x.2 ∧ x.2 ≤ 1099511627776) :
    ∀ k, k ≤ 10 → (stsTo C X k).length ≤ k ∧ ∀ x ∈ stsTo C X k, 0 ≤ x.2 ∧ x.2 ≤ k * 1099511627776
  | 0, _ => by simp [stsTo]
  | k + 1, hk => by
    obtain ⟨i1, i2⟩ := sts_bd C X h1 h2 k (by omega)
    have e1 := h1 k (by omega)
    have e2 := h2 k (by omega)
    unfold stsTo
    split
    · match hX : X k, e1, e2 with
      | [], _, _ =>
        simp only [List.foldl_nil]
        exact ⟨by omega, fun x hx => by have := i2 x hx; refine ⟨by omega, by omega⟩⟩
      | [(st, n)], _, e2 =>
        simp only [List.foldl_cons, List.foldl_nil]
        have hn := e2 (st, n) (by simp)
        refine ⟨by have := ins_len st n (stsTo C X k); omega, fun x hx => ?_⟩
        have := ins_bd st n (k * 1099511627776) 1099511627776 hn _ i2 (by omega) x hx
        refine ⟨this.1, by have := this.2; omega⟩
    · exact ⟨by omega, fun x hx => by have := i2 x hx; refine ⟨by omega, by omega⟩⟩

/-- The state of the sum behind k buckets. -/
structure SumSt (w wr : World) (r e : Int) (v : Value) (zs : SL) : Prop where
  tal : TalT wr (w.heap.size + 2) (w.heap.size + 1) r e v zs
  bel : Below w.heap.size w wr
  res : wr.heap[w.heap.size]? = some (.cells (talL 0 0 (.slice none 0 0)).toArray 63 (0, 0))

theorem SumSt.start (w : World) : SumSt w ((w.alloc (.cells (talL 0 0 (.slice none 0 0)).toArray 63)).alloc (.cells (talL 0 0 (.slice none 0 0)).toArray 63)) 0 0 (.slice none 0 0) [] := by
  have hs : (w.alloc (.cells (talL 0 0 (.slice none 0 0)).toArray 63)).heap.size = w.heap.size + 1 := by simp
  refine ⟨⟨?_, World.ownsRow_nil _ _ _ _, by simp⟩, ((Below.refl _ _).alloc (Nat.le_refl _) _).alloc (by omega) _, ?_⟩
  · have := heap_alloc_new (w.alloc (.cells (talL 0 0 (.slice none 0 0)).toArray 63)) (.cells (talL 0 0 (.slice none 0 0)).toArray 63)
    rwa [hs] at this
  · rw [Below.heap_alloc _ _ _ (by omega)]; exact heap_alloc_new w _

theorem SumSt.step {w wr w2 : World} {r e r' e' : Int} {v v' : Value} {xs zs : SL} (h : SumSt w wr r e v xs) (hm : Mrg wr w2 (w.heap.size + 2) (w.heap.size + 1) v v' r' e' zs) : SumSt w w2 r' e' v' zs := by
  have hrow : ∀ g, v.ownBlock = some g → w.heap.size + 2 ≤ g := fun g hg => (h.tal.own.lt g hg).1
  have hb := h.tal.hbase
  refine ⟨hm.tal hb, h.bel.trans ⟨hm.os, hm.tape, hm.output, hm.size, fun k hk => hm.block k (by omega) (by omega) (fun e => by have := hrow k e.symm; omega)⟩, ?_⟩
  rw [hm.block w.heap.size (by omega) (by omega) (fun e => by have := hrow _ e.symm; omega)]
  exact h.res

theorem Src.below {w wr : World} {pu ou : Nat} {ru eu : Int} {vu : Value} {ys : SL} (h : Src w pu ou ru eu vu ys) (hb : Below w.heap.size w wr) : Src wr pu ou ru eu vu ys := by
  have hp := World.block_lt_of_cell? w _ h.c0
  have hp' : pu < w.heap.size := hp
  refine ⟨by rw [hb.cell hp']; exact h.c0, by rw [hb.cell hp']; exact h.c1, by rw [hb.cell hp']; exact h.c2, fun j u hj => by rw [hb.cell hp']; exact h.lat j u hj, ?_⟩
  rcases h.sts with h' | ⟨g, cu, st, c, hv, hy, k0, k1⟩
  · exact .inl h'
  · have hg : g < w.heap.size := World.block_lt_of_cell? w _ k0
    exact .inr ⟨g, cu, st, c, hv, hy, by rw [hb.cell hg]; exact k0, by rw [hb.cell hg]; exact k1⟩
theorem Src.lt {w : World} {pu ou : Nat} {ru eu : Int} {vu : Value} {ys : SL} (h : Src w pu ou ru eu vu ys) : ∀ g, vu.ownBlock = some g → g < w.heap.size := by
  intro g hg
  rcases h.sts with ⟨rfl, _⟩ | ⟨g', cu, st, c, rfl, _, k0, _⟩
  · simp [Value.ownBlock] at hg
  · simp [Value.ownBlock] at hg
    subst hg
    exact World.block_lt_of_cell? w _ k0

set_option maxHeartbeats 4000000 in
theorem sum31 (w : World) (pw : Nat) (org now : Int) (sl rq er : Nat → Int) (V : Nat → Value) (X : Nat → SL) (h : WinR w pw org sl rq er V X) (hz : Sized rq er X) (h0 : 0 ≤ org) (h1 : org ≤ now) (h2 : now ≤ 9223372036854775807)
    (C : Nat → Bool) (hC : ∀ j, C j = decide ((now - org) / 1000000000 - 10 < sl j ∧ sl j ≤ (now - org) / 1000000000)) :
    Calls Try.prog 31 #[.pointer (some ⟨pw, 0, none⟩), .int .i64 now] w fun en w' => ∃ v, en = .returned (.agg (talL (sumTo C rq 10) (sumTo C er 10) v).toArray) ∧ Below w.heap.size w w' ∧ w'.ownsRow w.heap.size 71 2 v (stsTo C X 10).length (cellsOf (stsTo C X 10)) := by
  have c0 := h.c0
  have hpw : pw < w.heap.size := World.block_lt_of_cell? w _ c0
  have H : Hid (WinR w pw org sl rq er V X) := h
  have HZ : Hid (Sized rq er X) := hz
  have HC : Hid (∀ j, C j = decide ((now - org) / 1000000000 - 10 < sl j ∧ sl j ≤ (now - org) / 1000000000)) := hC
  clear h hz hC
  go_enter Try.func31, Try.ntmps31
  go_wp2_with fail
  refine (slot33 _ _ _ h0 h1 h2).mono ?_
  rintro en w1 ⟨rfl, rfl⟩
  go_wp2_with fail
  go_loopw [15] (fun i wr => ∃ (k : Nat) (v : Value), i = .int .i64 k ∧ k ≤ 10 ∧ SumSt w wr (sumTo C rq k) (sumTo C er k) v (stsTo C X k)) (fun i _ => 10 - (intOf i).toNat)
  case atStart => exact ⟨0, _, rfl, by omega, SumSt.start w⟩
  case round =>
    obtain ⟨k, v, rfl, hk, hst⟩ := hrel
    have ST : Hid (SumSt w wr (sumTo C rq k) (sumTo C er k) v (stsTo C X k)) := hst
    clear hst
    have s0 : 0 ≤ (now - org) / 1000000000 ∧ (now - org) / 1000000000 ≤ 9223372036 := by omega
    by_cases hlt : k < 10
    · obtain ⟨s, hs⟩ : ∃ s, s = sl k := ⟨_, rfl⟩
      have cs : wr.cell? ⟨pw, 1 + k * 63, none⟩ = some (.int .i64 s) := by rw [ST.out.bel.cell hpw, hs]; exact H.out.slot k hlt
      have CK := HC.out k
      rw [← hs] at CK
      clear hs c0
      have j1 : (0 : Int) ≤ (k : Int) := by omega
      have j2 : (k : Int) < 10 := by omega
      by_cases t1 : (now - org) / 1000000000 - 10 < s
      · by_cases t2 : s ≤ (now - org) / 1000000000
        · have EC : Hid (C k = true) := by show C k = true; rw [CK]; simp [t1, t2]
          have MG : Hid (Calls Try.prog 34 #[.pointer (some ⟨w.heap.size + 1, 0, none⟩), .pointer (some ⟨pw, 1 + k * 63 + 1, none⟩)] wr fun en w' => en = .returned (.tuple #[]) ∧ ∃ v', SumSt w w' (sumTo C rq (k + 1)) (sumTo C er (k + 1)) v' (stsTo C X (k + 1))) := by
            have hT := ST.out.tal
            have hS := H.out.tal k hlt
            have rb := sum_bd C rq HZ.out.rq k hk
            have eb := sum_bd C er HZ.out.er k hk
            obtain ⟨lb, cb⟩ := sts_bd C X HZ.out.one HZ.out.cnt k hk
            have rk := HZ.out.rq k hlt
            have ek := HZ.out.er k hlt
            refine (merge34 wr (w.heap.size + 2) (w.heap.size + 1) _ _ v _ pw (1 + k * 63 + 1) (rq k) (er k) (V k) (X k) hT (hS.below ST.out.bel) (by omega) (fun e => by have := (hT.own.lt pw e.symm).1; omega) (fun g hg => by have := hS.lt g hg; omega)
              ⟨by omega, by omega⟩ ⟨by omega, by omega⟩ ⟨by omega, by omega⟩ ⟨by omega, by omega⟩ (by omega) (fun x hx => by have := cb x hx; omega) (fun x hx => by have := HZ.out.cnt k hlt x hx; omega)).mono ?_
            rintro en w' ⟨rfl, v', hm⟩
            refine ⟨rfl, v', ?_⟩
            have e1 : sumTo C rq (k + 1) = sumTo C rq k + rq k := by rw [sumTo, if_pos EC.out]
            have e2 : sumTo C er (k + 1) = sumTo C er k + er k := by rw [sumTo, if_pos EC.out]
            have e3 : stsTo C X (k + 1) = (X k).foldl (fun acc x => ins x.1 x.2 acc) (stsTo C X k) := by rw [stsTo, if_pos EC.out]
            rw [e1, e2, e3]
            exact ST.out.step hm
          clear CK
          go_wp2_with fail
          refine MG.out.mono ?_
          rintro en w2 ⟨rfl, v', hm⟩
          have MM : Hid (SumSt w w2 (sumTo C rq (k + 1)) (sumTo C er (k + 1)) v' (stsTo C X (k + 1))) := hm
          clear hm
          go_wp2
          go_roundw
          case rel => exact ⟨k + 1, v', by go_num, by omega, MM.out⟩
          case measure => simp [intOf]; omega
        · have EC : Hid (C k = false) := by show C k = false; rw [CK]; simp [t2]
          clear CK
          go_wp2
          go_roundw
          case rel => exact ⟨k + 1, v, by go_num, by omega, by rw [sumTo, sumTo, stsTo, if_neg (by rw [EC.out]; simp), if_neg (by rw [EC.out]; simp), if_neg (by rw [EC.out]; simp)]; exact ST.out⟩
          case measure => simp [intOf]; omega
      · have EC : Hid (C k = false) := by show C k = false; rw [CK]; simp [t1]
        clear CK
        have t1' : decide ((now - org) / 1000000000 - 10 < s) = false := by simpa using t1
        go_wp2
        go_roundw
        case rel => exact ⟨k + 1, v, by go_num, by omega, by rw [sumTo, sumTo, stsTo, if_neg (by rw [EC.out]; simp), if_neg (by rw [EC.out]; simp), if_neg (by rw [EC.out]; simp)]; exact ST.out⟩
        case measure => simp [intOf]; omega
    · obtain ⟨r, hr⟩ : ∃ r, r = sumTo C rq k := ⟨_, rfl⟩
      obtain ⟨e, he⟩ : ∃ e, e = sumTo C er k := ⟨_, rfl⟩
      have T0 : Hid (SumSt w wr r e v (stsTo C X k)) := by rw [hr, he]; exact ST.out
      have RA : Hid (wr.rangeAt (w.heap.size + 1) 0 (talL r e v)) := fun j u hj => by
        rw [cell_of_row wr (w.heap.size + 1) (0 + j) _ 63 (0, 0) T0.out.tal.blk, Nat.zero_add]; simpa using hj
      have TH : Hid (wr.there w.heap.size 0 (talL r e v).toArray.size) := fun j hj => by
        have hj' : j < 62 := hj
        refine ⟨?_, by simp [World.frozen?, T0.out.res]⟩
        rw [cell_of_row wr w.heap.size (0 + j) _ 63 (0, 0) T0.out.res, Nat.zero_add]
        have : j < (talL 0 0 (.slice none 0 0)).length := hj'
        simp [this]
      have ON : Hid ((talL r e v).toArray.all (·.oneCell') = true) := by
        show (talL r e v).toArray.all (·.oneCell') = true
        refine talL_one r e v ?_
        rcases T0.out.tal.own.2 with ⟨rfl, _⟩ | ⟨g, cap, c, rfl, _⟩ <;> rfl
      have FIN : Hid (Below w.heap.size w (wr.setCells w.heap.size 0 (talL r e v)) ∧ (wr.setCells w.heap.size 0 (talL r e v)).ownsRow w.heap.size 71 2 v (stsTo C X k).length (cellsOf (stsTo C X k)) ∧ (wr.setCells w.heap.size 0 (talL r e v)).rangeAt w.heap.size 0 (talL r e v)) := by
        have hb : ∀ j, j ≠ w.heap.size → (wr.setCells w.heap.size 0 (talL r e v)).heap[j]? = wr.heap[j]? := fun j hj => setCells_other wr w.heap.size j _ 0 hj
        refine ⟨T0.out.bel.trans ⟨setCells_os _ _ _ _, setCells_tape _ _ _ _, setCells_output _ _ _ _, by rw [setCells_size]; exact Nat.le_refl _, fun j hj => hb j (by omega)⟩, ⟨T0.out.tal.own.1, ?_⟩, World.rangeAt_setCells_same _ _ _ _ TH.out⟩
        rcases T0.out.tal.own.2 with hn | ⟨g, cap, c, hv, hg, hh, rest⟩
        · exact .inl hn
        · exact .inr ⟨g, cap, c, hv, by omega, by rw [hb g (by omega)]; exact hh, rest⟩
      have hk10 : k = 10 := by omega
      have RS : Hid (r = sumTo C rq 10 ∧ e = sumTo C er 10 ∧ stsTo C X k = stsTo C X 10) := by subst hk10; exact ⟨hr, he, rfl⟩
      clear hr he hk10
      go_wp2_with (first | (refine wpList_load_mid (by rfl) 63 (.tmp 6) (by rfl) (w.heap.size + 1) 0 (by rfl) (talL r e v) _ RA.out Try.underlying63 rfl size63 ?_) | (refine wpList_store_mid (by rfl) 63 (.tmp 4) (.tmp 43) (by rfl) w.heap.size 0 (talL r e v).toArray (by rfl) (by rfl) TH.out size63 ON.out ?_))
      refine bodyPost_ret (v := .agg (talL r e v).toArray) ?_ rfl ?_
      · rw [results_cell Try.results31]
        show ((asAddr (.pointer (some ⟨w.heap.size, 0, none⟩))).run Try.prog _).andThen _ = _
        simp only [asAddr, Sem.run_pure, Result.andThen_ok]
        exact run_loadVar_mid _ w.heap.size 0 63 (talL r e v) _ FIN.out.2.2 Try.underlying63 rfl size63
      · obtain ⟨e1, e2, e3⟩ := RS.out
        refine ⟨v, ?_, FIN.out.1, ?_⟩
        · rw [e1, e2]
        · rw [← e3]; exact FIN.out.2.1

set_option maxHeartbeats 4000000 in
theorem zzsum20 (w : World) (pw : Nat) (org now : Int) (sl rq er : Nat → Int) (V : Nat → Value) (X : Nat → SL) (h : WinR w pw org sl rq er V X) (hz : Sized rq er X) (h0 : 0 ≤ org) (h1 : org ≤ now) (h2 : now ≤ 9223372036854775807)
    (C : Nat → Bool) (hC : ∀ j, C j = decide ((now - org) / 1000000000 - 10 < sl j ∧ sl j ≤ (now - org) / 1000000000)) :
    Calls Try.prog 20 #[.pointer (some ⟨pw, 0, none⟩), .int .i64 now] w fun en w' => ∃ q v, en = .returned (.pointer (some ⟨q, 0, none⟩)) ∧ Below w.heap.size w w' ∧ TalT w' w.heap.size q (sumTo C rq 10) (sumTo C er 10) v (stsTo C X 10) := by
  have SM : Hid (Calls Try.prog 31 #[.pointer (some ⟨pw, 0, none⟩), .int .i64 now] w fun en w' => ∃ v, en = .returned (.agg (talL (sumTo C rq 10) (sumTo C er 10) v).toArray) ∧ Below w.heap.size w w' ∧ w'.ownsRow w.heap.size 71 2 v (stsTo C X 10).length (cellsOf (stsTo C X 10))) :=
    sum31 w pw org now sl rq er V X h hz h0 h1 h2 C hC
  clear h hz hC
  generalize sumTo C rq 10 = r at SM ⊢
  generalize sumTo C er 10 = e at SM ⊢
  generalize stsTo C X 10 = zs at SM ⊢
  go_enter Try.func20, Try.ntmps20
  go_wp2_with fail
  refine SM.out.mono ?_
  rintro en w1 ⟨v, rfl, hb, hown⟩
  have OW : Hid (w1.ownsRow w.heap.size 71 2 v zs.length (cellsOf zs)) := hown
  have BE : Hid (Below w.heap.size w w1) := hb
  have ON : Hid ((talL r e v).toArray.all (·.oneCell') = true) := by
    refine talL_one r e v ?_
    rcases hown.2 with ⟨rfl, _⟩ | ⟨g, cap, c, rfl, _⟩ <;> rfl
  have TH : Hid (∀ O, O = Obj.cells (talL 0 0 (.slice none 0 0)).toArray 63 → (w1.alloc O).there w1.heap.size 0 (talL r e v).toArray.size) := fun O hO j hj => by
    subst hO
    have hj' : j < 62 := hj
    have hh := heap_alloc_new w1 (Obj.cells (talL 0 0 (.slice none 0 0)).toArray 63)
    generalize w1.alloc (Obj.cells (talL 0 0 (.slice none 0 0)).toArray 63) = W at hh ⊢
    refine ⟨?_, by simp [World.frozen?, hh]⟩
    rw [cell_of_row W w1.heap.size (0 + j) _ 63 (0, 0) hh, Nat.zero_add]
    have : j < (talL 0 0 (.slice none 0 0)).length := hj'
    simp [this]
  clear hb hown
  go_wp2_with (refine wpList_store_mid (by rfl) 63 (.tmp 5) (.tmp 8) (by rfl) w1.heap.size 0 (talL r e v).toArray (by rfl) (by rfl) (TH.out _ rfl) size63 ON.out ?_)
  go_ret
  have hw0 : (w1.alloc (Obj.cells (talL 0 0 (.slice none 0 0)).toArray 63)).heap[w1.heap.size]? = some (.cells (talL 0 0 (.slice none 0 0)).toArray 63 (0, 0)) := heap_alloc_new w1 _
  have hrow := setCells_whole _ w1.heap.size _ (talL r e v) 63 hw0 rfl ON.out
  have hoth : ∀ j, j < w1.heap.size → ((w1.alloc (Obj.cells (talL 0 0 (.slice none 0 0)).toArray 63)).setCells w1.heap.size 0 (talL r e v)).heap[j]? = w1.heap[j]? := fun j hj => by
    rw [setCells_other _ _ _ _ _ (by omega), Below.heap_alloc _ _ _ hj]
  have hsz : ((w1.alloc (Obj.cells (talL 0 0 (.slice none 0 0)).toArray 63)).setCells w1.heap.size 0 (talL r e v)).heap.size = w1.heap.size + 1 := by rw [setCells_size]; simp
  have hs1 := BE.out.size
  refine ⟨w1.heap.size, v, rfl, BE.out.trans ⟨setCells_os _ _ _ _, setCells_tape _ _ _ _, setCells_output _ _ _ _, ?_, fun j hj => hoth j (by omega)⟩, ⟨hrow, ⟨OW.out.1, ?_⟩, ?_⟩⟩
  · exact Nat.le_trans (Nat.le_succ _) (Nat.le_of_eq hsz.symm)
  · rcases OW.out.2 with hn | ⟨g, cap, c, hv, hg, hh, rest⟩
    · exact .inl hn
    · exact .inr ⟨g, cap, c, hv, hg, by
        have := hoth g (lt_of_block hh)
        exact this.trans hh, rest⟩
  · exact Nat.le_trans (Nat.le_trans hs1 (Nat.le_succ _)) (Nat.le_of_eq hsz.symm)
end Go.Proofs.Qxb6608868a.st
