/-
  LawS0808AClose: what stands in memory on its way, and the laws that carry it.
-/
import Derived.Test.YbulkpscClose
namespace Go.Proofs.Ybulkpsc
open Go.RowKit

/-! ### the mask -/
theorem mask31 (z : Int) : bits .and .i32 z 2147483647 = z % 2147483648 := by
  show IntKind.i32.wrap (((BitVec.ofInt 32 z) &&& (BitVec.ofInt 32 2147483647)).toNat : Int) = _
  have h1 : (BitVec.ofInt 32 2147483647).toNat = 2 ^ 31 - 1 := by decide
  have h2 : (BitVec.ofInt 32 z).toNat = (z % 4294967296).toNat := by simp [BitVec.toNat_ofInt]
  rw [BitVec.toNat_and, h1, Nat.and_two_pow_sub_one_eq_mod, h2, IntKind.wrap_i32]
  omega

/-- the targets out of what came in -/
def tgt (z : Nat → Int) (k : Nat) : Nat := (z k % 2147483648).toNat
theorem tgt_lt (z : Nat → Int) (k : Nat) : tgt z k < 2 ^ 31 := by unfold tgt; omega
theorem tgt_eq (z : Nat → Int) (k : Nat) : bits .and .i32 (z k) 2147483647 = ((tgt z k : Nat) : Int) := by rw [mask31]; unfold tgt; omega

/-- the slice that came in: what each index comes to -/
structure TsIn (w : World) (a : Option Addr) (len cap b o : Nat) (z : Nat → Int) : Prop where
  ix : ∀ (k : Nat) (wx : World), k < len → (Instr.indexAt 22 (.slice a len cap) (.int .i64 k)).run Yba.prog wx = .ok (.pointer (some ⟨b, o + k, none⟩)) wx
  cell : ∀ k, k < len → w.cell? ⟨b, o + k, none⟩ = some (.int .i32 (z k))
  blk : 0 < len → b < w.heap.size
  nil : a.isSome = false → len = 0

/-! ### the row 'fill' -/
def fillArr (f : Nat → Nat) (k n : Nat) : Array Value := ((List.range n).map fun i => Value.int .i32 (if i < k then (f i : Int) else 0)).toArray
theorem fillArr_get {f : Nat → Nat} {k n i : Nat} (h : i < n) : (fillArr f k n)[i]? = some (.int .i32 (if i < k then (f i : Int) else 0)) := by simp [fillArr, h]
theorem fillArr_size (f : Nat → Nat) (k n : Nat) : (fillArr f k n).size = n := by simp [fillArr]
theorem fillArr_step {f : Nat → Nat} {k n : Nat} : (fillArr f k n).setIfInBounds k (.int .i32 (f k : Int)) = fillArr f (k + 1) n := by
  apply Array.ext_getElem?
  intro i
  rw [Array.getElem?_setIfInBounds]
  by_cases hi : i < n
  · by_cases e : k = i
    · subst e
      rw [if_pos rfl, if_pos (by rw [fillArr_size]; exact hi), fillArr_get hi, if_pos (by omega)]
    · rw [if_neg e, fillArr_get hi, fillArr_get hi]
      by_cases h2 : i < k
      · rw [if_pos h2, if_pos (by omega)]
      · rw [if_neg h2, if_neg (by omega)]
  · by_cases e : k = i
    · subst e
      rw [if_pos rfl, if_neg (by rw [fillArr_size]; exact hi), Array.getElem?_eq_none (by rw [fillArr_size]; omega)]
    · rw [if_neg e, Array.getElem?_eq_none (by rw [fillArr_size]; omega), Array.getElem?_eq_none (by rw [fillArr_size]; omega)]

theorem info21 : (Yba.prog.info? 21).map (fun i => (i.zero, i.size, i.bytes)) = some (some (.int .i32 0), 1, 4) := by kernel_rfl
theorem size21 : (Yba.prog.info? 21).map (·.size) = some 1 := by kernel_rfl
theorem mk22 (f : Nat → Nat) (n : Nat) (h : n ≤ 1024) (w : World) : (Instr.makeSlice 22 (.int .i64 n) (.int .i64 n)).run Yba.prog w = .ok (.slice (some ⟨w.heap.size, 0, none⟩) n n) (w.alloc (.cells (fillArr f 0 n) 21)) := by
  have e : madeCells #[Value.int .i32 0] n = fillArr f 0 n := by
    apply Array.ext_getElem?
    intro i
    by_cases hi : i < n
    · rw [fillArr_get hi, if_neg (by omega)]
      simp [madeCells, hi, Nat.mod_one]
    · rw [Array.getElem?_eq_none (by rw [size_madeCells]; omega), Array.getElem?_eq_none (by rw [fillArr_size]; omega)]
  rw [← e]
  exact run_make_row' 22 21 (.int .i32 0) 4 Yba.underlying22 info21 rfl .i64 .i64 n (by omega) (by omega) w

theorem ix22 {g n c k : Nat} (hk : k < n) (wx : World) : (Instr.indexAt 22 (.slice (some ⟨g, 0, none⟩) n c) (.int .i64 k)).run Yba.prog wx = .ok (.pointer (some ⟨g, k, none⟩)) wx := by
  obtain ⟨i, hi, hs⟩ := Option.map_eq_some_iff.1 size21
  rw [run_indexAt_slice wx 22 ⟨g, 0, none⟩ n c .i64 k (by rw [Yba.underlying22]; simp [Program.elem, Yba.underlying22])]
  rw [if_pos (by omega)]
  simp [Program.elem, Yba.underlying22, sizeOf, typeInfo, hi, hs, Go.WideShapes.add_plain]
theorem ix23 {g n c k : Nat} (hk : k < n) (wx : World) : (Instr.indexAt 23 (.slice (some ⟨g, 0, none⟩) n c) (.int .i64 k)).run Yba.prog wx = .ok (.pointer (some ⟨g, k * 2, none⟩)) wx := by
  obtain ⟨i, hi, hz, hs, hb⟩ := info_parts info28
  rw [run_indexAt_slice wx 23 ⟨g, 0, none⟩ n c .i64 k (by rw [Yba.underlying23]; simp [Program.elem, Yba.underlying23])]
  rw [if_pos (by omega)]
  simp [Program.elem, Yba.underlying23, sizeOf, typeInfo, hi, hs, Go.WideShapes.add_plain]

/-- 'fill' as it stands when it is filled -/
structure Fill (w W : World) (fa : Option Addr) (n : Nat) (f : Nat → Nat) : Prop where
  row : 0 < n → fa = some ⟨w.heap.size, 0, none⟩ ∧ W.heap[w.heap.size]? = some (.cells (fillArr f n n) 21)
  bd : ∀ k, f k < 2 ^ 31
  nle : n ≤ 1024

theorem Fill.into {w W : World} {fa : Option Addr} {n : Nat} {f : Nat → Nat} (h : Fill w W fa n f) : FillIn W fa n w.heap.size f := by
  refine ⟨fun k wx hk => ?_, fun k hk => ?_, h.bd, h.nle, fun hn => ⟨(h.row hn).1, lt_of_heap (h.row hn).2⟩⟩
  · obtain ⟨rfl, _⟩ := h.row (by omega)
    exact ix22 hk wx
  · have := cell_of_heap (h.row (by omega)).2 (fillArr_get hk)
    rw [if_pos hk] at this
    exact this

/-! ### the chunks that stand before -/
def chunks (gs : Nat → Nat) : Nat → List Value
  | 0 => []
  | k + 1 => chunks gs k ++ [.int .u32 ((k : Int) + 1), .slice (some ⟨gs k, 0, none⟩) 1 1]
theorem chunks_len (gs : Nat → Nat) : ∀ k, (chunks gs k).length = k * 2
  | 0 => rfl
  | k + 1 => by simp [chunks, chunks_len gs k]; omega
theorem chunks_get {gs : Nat → Nat} {k : Nat} : ∀ {n : Nat}, k < n → (chunks gs n)[k * 2]? = some (.int .u32 ((k : Int) + 1)) ∧ (chunks gs n)[k * 2 + 1]? = some (.slice (some ⟨gs k, 0, none⟩) 1 1)
  | 0, h => by omega
  | n + 1, h => by
    have hl := chunks_len gs n
    by_cases e : k = n
    · subst e
      rw [chunks, List.getElem?_append_right (by omega), List.getElem?_append_right (by omega), hl]
      simp [show k * 2 + 1 - k * 2 = 1 by omega]
    · obtain ⟨a, b⟩ := chunks_get (gs := gs) (k := k) (n := n) (by omega)
      rw [chunks, List.getElem?_append_left (by omega), List.getElem?_append_left (by omega)]
      exact ⟨a, b⟩
theorem chunks_congr {gs gs' : Nat → Nat} : ∀ {n : Nat}, (∀ i, i < n → gs i = gs' i) → chunks gs n = chunks gs' n
  | 0, _ => rfl
  | n + 1, h => by rw [chunks, chunks, chunks_congr fun i hi => h i (by omega), h n (by omega)]

/-- memory at the head of the second loop's round k -/
structure Chs (w W : World) (fa : Option Addr) (n : Nat) (f : Nat → Nat) (k : Nat) (v : Value) (gs : Nat → Nat) : Prop where
  fill : Fill w W fa n f
  own : W.ownsRow w.heap.size 28 2 v k (chunks gs k)
  words : ∀ i, i < k → W.heap[gs i]? = some (.cells #[.int .u64 ((i : Int) + 7)] 25)
  below : Below w.heap.size w W

theorem Chs.step {w W w2 : World} {fa : Option Addr} {n k : Nat} {f gs : Nat → Nat} {v v' : Value} {O : Obj} (h : Chs w W fa n f k v gs)
    (hown : w2.ownsRow w.heap.size 28 2 v' (k + 1) (chunks gs k ++ [.int .u32 ((k : Int) + 1), .slice (some ⟨W.heap.size, 0, none⟩) 1 1]))
    (hg : ((W.alloc (.cells #[.int .u64 ((k : Int) + 7)] 25)).alloc O).grownBy w2 v.ownBlock) : ∃ gs', Chs w w2 fa n f (k + 1) v' gs' := by
  have hkeep : ∀ (j : Nat) (C : Array Value) (t : TypeId), W.heap[j]? = some (.cells C t) → t ≠ 28 → w2.heap[j]? = some (.cells C t) := fun j C t hj ht => by
    have hl := lt_of_heap hj
    rw [hg.block j (by simp; omega) (own2_ne h.own hj ht), Below.heap_alloc _ _ _ (by simp; omega), Below.heap_alloc _ _ _ hl]
    exact hj
  have hb := h.below.size
  refine ⟨fun i => if i < k then gs i else W.heap.size, ⟨fun hn => ⟨(h.fill.row hn).1, hkeep _ _ _ (h.fill.row hn).2 (by decide)⟩, h.fill.bd, h.fill.nle⟩, ?_, fun i hi => ?_, ?_⟩
  · rw [chunks, chunks_congr (gs' := gs) fun i hi => by simp [hi]]
    simpa using hown
  · by_cases hk : i < k
    · simp only [hk, if_true]
      exact hkeep _ _ _ (h.words i hk) (by decide)
    · obtain rfl : i = k := by omega
      simp only [Nat.lt_irrefl, if_false]
      have h1 : (W.alloc (.cells #[.int .u64 ((i : Int) + 7)] 25)).heap[W.heap.size]? = some (.cells #[.int .u64 ((i : Int) + 7)] 25) := heap_new _ _
      have hne : some W.heap.size ≠ v.ownBlock := fun e => by
        obtain ⟨cur, hcur⟩ := own2_type h.own e.symm
        have := lt_of_heap hcur
        omega
      rw [hg.block _ (by simp; omega) hne, Below.heap_alloc _ _ _ (by simp)]
      exact h1
  · exact ((h.below.alloc (by omega) _).alloc (by simp; omega) _).grown hg (by simp; omega) (fun j hj => (h.own.lt j hj).1)

/-- the make of 'packed' -/
theorem listMake {ops : Array Oper} {rest : List Oper} {o : Oper} {a : Act} {Q : Exit → Act → World → Prop} (w0 w : World) (hgd : o.guard = none) (l c : Operand) (ho : o.op = Op.makeSlice 23 l c) (np : Nat) (hl : a.eval l = .int .i64 0) (hc : a.eval c = .int .i64 (np : Int)) (hnp : np ≤ 5)
    (fa : Option Addr) (n : Nat) (f : Nat → Nat) (hF : Fill w0 w fa n f) (hb : Below w0.heap.size w0 w)
    (h : ∀ w', Chs w0 w' fa n f 0 (.slice (some ⟨w.heap.size, 0, none⟩) 0 np) (fun _ => 0) → wpList Yba.prog ops Q rest (a.put o.dst (.slice (some ⟨w.heap.size, 0, none⟩) 0 np)) w') :
    wpList Yba.prog ops Q (o :: rest) a w := by
  obtain ⟨i0, hi, hz0, hz1, hz2⟩ := info_parts info28
  have hz := hb.size
  refine wpList_make_own w hgd l c 23 ho w0.heap.size 28 i0 (.agg #[.int .u32 0, .slice none 0 0]) 2 Yba.underlying23 hi hz0 hz1 .i64 .i64 np np hl hc rfl (by rw [hz2]; omega) (by unfold maxLen; omega) hz ?_
  intro w' hown hg
  have hblk : ∀ j, j < w.heap.size → w'.heap[j]? = w.heap[j]? := fun j hj => hg.block j hj (by simp)
  exact h w' ⟨⟨fun hn => ⟨(hF.row hn).1, by rw [hblk _ (lt_of_heap (hF.row hn).2)]; exact (hF.row hn).2⟩, hF.bd, hF.nle⟩, hown, fun i hi => by omega, hb.trans ⟨hg.os, hg.tape, hg.output, hg.size, fun j hj => hblk j (by omega)⟩⟩

/-! ### behind close: what the rest of the law reads, cell by cell -/
structure Fin (w W : World) (L : Nat) (fa : Option Addr) (n : Nat) (f : Nat → Nat) (np m : Nat) (pa : Option Addr) (pc G : Nat) (gs : Nat → Nat) : Prop where
  l3 : W.cell? ⟨L, 3, none⟩ = some (.slice pa m pc)
  l4 : W.cell? ⟨L, 4, none⟩ = some (.slice none 0 0)
  ix : ∀ (k : Nat) (wx : World), k < m → (Instr.indexAt 23 (.slice pa m pc) (.int .i64 k)).run Yba.prog wx = .ok (.pointer (some ⟨G, k * 2, none⟩)) wx
  row : ∀ k, k < np → W.cell? ⟨G, k * 2, none⟩ = some (.int .u32 ((k : Int) + 1)) ∧ W.cell? ⟨G, k * 2 + 1, none⟩ = some (.slice (some ⟨gs k, 0, none⟩) 1 1) ∧ W.cell? ⟨gs k, 0, none⟩ = some (.int .u64 ((k : Int) + 7))
  le : np ≤ m
  fill : FillIn W fa n w.heap.size f
  below : Below w.heap.size w W

theorem lt_of_cell {W : World} {a : Addr} {v : Value} (h : W.cell? a = some v) : a.block < W.heap.size := by
  unfold World.cell? at h
  cases hq : W.heap[a.block]? with
  | none => simp [hq] at h
  | some o => exact lt_of_heap hq

theorem cell_later {W W' : World} {a : Addr} {v : Value} (h : W.cell? a = some v) (hb : Below W.heap.size W W') : W'.cell? a = some v := by
  rw [hb.cell (lt_of_cell h)]; exact h

theorem Fin.later {w W W' : World} {L : Nat} {fa : Option Addr} {n : Nat} {f : Nat → Nat} {np m : Nat} {pa : Option Addr} {pc G : Nat} {gs : Nat → Nat} (h : Fin w W L fa n f np m pa pc G gs) (hb : Below W.heap.size W W') : Fin w W' L fa n f np m pa pc G gs := by
  refine ⟨cell_later h.l3 hb, cell_later h.l4 hb, h.ix, fun k hk => ⟨cell_later (h.row k hk).1 hb, cell_later (h.row k hk).2.1 hb, cell_later (h.row k hk).2.2 hb⟩, h.le, ⟨h.fill.ix, fun k hk => cell_later (h.fill.cell k hk) hb, h.fill.bd, h.fill.nle, fun hn => ⟨(h.fill.head hn).1, Nat.lt_of_lt_of_le (h.fill.head hn).2 hb.size⟩⟩, h.below.trans (hb.mono h.below.size)⟩

/-- the row's cells out of 'ownsRow' -/
theorem own_row {W : World} {base : Nat} {v : Value} {m : Nat} {xs : List Value} (h : W.ownsRow base 28 2 v m xs) :
    ∃ pa pc G, v = .slice pa m pc ∧ (∀ (k : Nat) (wx : World), k < m → (Instr.indexAt 23 (.slice pa m pc) (.int .i64 k)).run Yba.prog wx = .ok (.pointer (some ⟨G, k * 2, none⟩)) wx) ∧ ∀ j u, xs[j]? = some u → W.cell? ⟨G, j, none⟩ = some u := by
  rcases h.2 with ⟨rfl, rfl⟩ | ⟨g, cap, cur, hv, hg, hh, hle, hm, hcs, htk⟩
  · refine ⟨none, 0, 0, rfl, fun k wx hk => absurd hk (by omega), fun j u hj => ?_⟩
    have := (List.getElem?_eq_some_iff.1 hj).1
    have h1 := h.1
    omega
  · refine ⟨_, cap, g, hv, fun k wx hk => ix23 hk wx, fun j u hj => ?_⟩
    have hj2 : j < m * 2 := by
      have := (List.getElem?_eq_some_iff.1 hj).1
      rw [h.1] at this; exact this
    rw [← htk, List.getElem?_take_of_lt hj2] at hj
    exact cell_of_heap hh (by simpa using hj)

theorem fin_none {w W W' : World} {L : Nat} {fa : Option Addr} {f gs : Nat → Nat} {np : Nat} {v : Value} (h : Chs w W fa 0 f np v gs)
    (hL : W'.heap[L]? = some (.cells (arcs v (.slice none 0 0)) 32)) (hblk : ∀ j, j < W.heap.size → W'.heap[j]? = W.heap[j]?) (hos : W'.os = W.os) (htp : W'.tape = W.tape) (hout : W'.output = W.output) (hsz : W.heap.size ≤ W'.heap.size) :
    ∃ pa pc G, Fin w W' L fa 0 f np np pa pc G gs := by
  have hbW : Below W.heap.size W W' := ⟨hos, htp, hout, hsz, hblk⟩
  obtain ⟨pa, pc, G, rfl, hix, hrow⟩ := own_row h.own
  refine ⟨pa, pc, G, cell_of_heap hL rfl, cell_of_heap hL rfl, hix, fun k hk => ?_, Nat.le_refl _, ⟨fun k wx hk => absurd hk (by omega), fun k hk => absurd hk (by omega), h.fill.bd, by omega, fun hn => absurd hn (by omega)⟩, h.below.trans (hbW.mono h.below.size)⟩
  obtain ⟨c1, c2⟩ := chunks_get (gs := gs) hk
  exact ⟨cell_later (hrow _ _ c1) hbW, cell_later (hrow _ _ c2) hbW, cell_later (cell_of_heap (h.words k hk) rfl) hbW⟩

/-- the new chunk -/
structure NewChunk (W : World) (n : Nat) (f : Nat → Nat) (np G gw : Nat) : Prop where
  c0 : W.cell? ⟨G, np * 2, none⟩ = some (.int .u32 (wide f n))
  c1 : W.cell? ⟨G, np * 2 + 1, none⟩ = some (.slice (some ⟨gw, 0, none⟩) (nwords n (wide f n)) (nwords n (wide f n)))
  words : ∀ i, i < nwords n (wide f n) → W.cell? ⟨gw, i, none⟩ = some (.int .u64 (word (NN f (wide f n) n) i))
  lt : gw < W.heap.size

theorem NewChunk.later {W W' : World} {n : Nat} {f : Nat → Nat} {np G gw : Nat} (h : NewChunk W n f np G gw) (hb : Below W.heap.size W W') : NewChunk W' n f np G gw :=
  ⟨cell_later h.c0 hb, cell_later h.c1 hb, fun i hi => cell_later (h.words i hi) hb, Nat.lt_of_lt_of_le h.lt hb.size⟩

theorem fin_some {w W W1 W' : World} {L : Nat} {fa : Option Addr} {n : Nat} {f gs : Nat → Nat} {np : Nat} {va : Option Addr} {vc : Nat} {e : Ending} (h : Chs w W fa n f np (.slice va np vc) gs)
    (hL : L = W.heap.size) (hW1 : W1 = W.alloc (.cells (arcs (.slice va np vc) (.slice fa n n)) 32)) (hC : Closed W1 L w.heap.size np (.slice va np vc) (chunks gs np) n f e W') :
    ∃ pa pc G gw, Fin w W' L fa n f np (np + 1) pa pc G gs ∧ NewChunk W' n f np G gw := by
  subst hW1
  obtain ⟨he, v', gw, hL', hown', hgw, hblk, hos, htp, hout, hsz⟩ := hC
  simp at hsz
  have hkeep : ∀ (j : Nat) (C : Array Value) (t : TypeId), W.heap[j]? = some (.cells C t) → t ≠ 28 → W'.heap[j]? = some (.cells C t) := fun j C t hj ht => by
    have hl := lt_of_heap hj
    rw [hblk j (by simp; omega) (by omega) (own2_ne h.own hj ht), Below.heap_alloc _ _ _ hl]
    exact hj
  have hb := h.below.size
  obtain ⟨pa, pc, G, rfl, hix, hrow⟩ := own_row hown'
  have hlen := chunks_len gs np
  have hFW : Fill w W' fa n f := ⟨fun hn => ⟨(h.fill.row hn).1, hkeep _ _ _ (h.fill.row hn).2 (by decide)⟩, h.fill.bd, h.fill.nle⟩
  refine ⟨pa, pc, G, gw, ⟨cell_of_heap hL' rfl, cell_of_heap hL' rfl, hix, fun k hk => ?_, by omega, hFW.into, ?_⟩, ⟨?_, ?_, fun i hi => cell_of_heap hgw (wordArr_get hi), lt_of_heap hgw⟩⟩
  · obtain ⟨c1, c2⟩ := chunks_get (gs := gs) hk
    refine ⟨hrow _ _ (by rw [List.getElem?_append_left (by omega)]; exact c1), hrow _ _ (by rw [List.getElem?_append_left (by omega)]; exact c2), cell_of_heap (hkeep _ _ _ (h.words k hk) (by decide)) rfl⟩
  · exact (h.below.alloc hb (.cells (arcs (.slice va np vc) (.slice fa n n)) 32)).trans ⟨hos, htp, hout, by simp; omega, fun k hk => hblk k (by simp; omega) (by omega) (fun e => by have := (h.own.lt k e.symm).1; omega)⟩
  · exact hrow _ _ (by rw [List.getElem?_append_right (by omega), hlen]; simp)
  · exact hrow _ _ (by rw [List.getElem?_append_right (by omega), hlen]; simp [show np * 2 + 1 - np * 2 = 1 by omega])
end Go.Proofs.Ybulkpsc
