/-
  The contract of (*arcList).close (7).
-/
import Derived.Test.YbulkpscPack
import Derived.Deep.RegionLaw
namespace Go.Proofs.Ybulkpsc
open Go.RowKit
theorem info28 : (Yba.prog.info? 28).map (fun i => (i.zero, i.size, i.bytes)) = some (some (.agg #[.int .u32 0, .slice none 0 0]), 2, 32) := by kernel_rfl

theorem chunk_news {w : World} {ad : Addr} {c0 c1 : Value} (h0 : w.cell? (ad.add 0) = some c0) (h1 : w.cell? (ad.add 1) = some c1) : ∀ j u, [c0, c1][j]? = some u → w.cell? (ad.add j) = some u := by
  intro j u hj
  match j, hj with
  | 0, hj => simp at hj; subst hj; exact h0
  | 1, hj => simp at hj; subst hj; exact h1

/-- append of one chunk, as a step of a region that draws -/
theorem stepApp {ops : Array Oper} {o : Oper} {a : Act} {w : World} {K : Act → World → Prop} {Q : Exit → Act → World → Prop} {E : Prop} (hgd : o.guard = none) (s x : Operand)
    (ho : o.op = .call { callee := .builtin .append, args := #[s, x], argTypes := #[23, 23] }) (base np : Nat) (v : Value) (xs : List Value) (hs : a.eval s = v) (hown : w.ownsRow base 28 2 v np xs)
    (ad : Addr) (k : IntKind) (c0 : Int) (sa : Option Addr) (sl sc : Nat) (hx : a.eval x = .slice (some ad) 1 1) (h0 : w.cell? (ad.add 0) = some (.int k c0)) (h1 : w.cell? (ad.add 1) = some (.slice sa sl sc)) (hnp : np ≤ 10) (hbase : base ≤ w.heap.size)
    (h : ∀ v' w', w'.ownsRow base 28 2 v' (np + 1) (xs ++ [.int k c0, .slice sa sl sc]) → w.grownBy w' v.ownBlock → K (a.put o.dst v') w') :
    if Region.wanted o (yielded ops a.tmps) = true then Oper.wp Yba.prog o a w K Q else E := by
  have hw : Region.wanted o (yielded ops a.tmps) = true := by simp [Region.wanted, hgd]
  rw [if_pos hw]
  obtain ⟨i0, hi, hz0, hz1, hz2⟩ := info_parts info28
  exact wp_append_own w s x 23 ho base 28 i0 (.agg #[.int .u32 0, .slice none 0 0]) 2 32 Yba.underlying23 hi hz0 hz1 hz2 rfl (by decide) v np xs hs hown ad 1 1 [.int k c0, .slice sa sl sc] hx rfl (chunk_news h0 h1)
    (by intro u hu; simp at hu; rcases hu with rfl | rfl <;> rfl) (by unfold maxLen; omega) (by omega) hbase (fun v' w' h2 h3 _ => h v' w' h2 h3)

/-- the same in a plain list of operations -/
theorem listApp {ops : Array Oper} {rest : List Oper} {o : Oper} {a : Act} {Q : Exit → Act → World → Prop} (w : World) (hgd : o.guard = none) (s x : Operand)
    (ho : o.op = .call { callee := .builtin .append, args := #[s, x], argTypes := #[23, 23] }) (base np : Nat) (v : Value) (xs : List Value) (hs : a.eval s = v) (hown : w.ownsRow base 28 2 v np xs)
    (ad : Addr) (k : IntKind) (c0 : Int) (sa : Option Addr) (sl sc : Nat) (hx : a.eval x = .slice (some ad) 1 1) (h0 : w.cell? (ad.add 0) = some (.int k c0)) (h1 : w.cell? (ad.add 1) = some (.slice sa sl sc)) (hnp : np ≤ 10) (hbase : base ≤ w.heap.size)
    (h : ∀ v' w', w'.ownsRow base 28 2 v' (np + 1) (xs ++ [.int k c0, .slice sa sl sc]) → w.grownBy w' v.ownBlock → wpList Yba.prog ops Q rest (a.put o.dst v') w') :
    wpList Yba.prog ops Q (o :: rest) a w := by
  obtain ⟨i0, hi, hz0, hz1, hz2⟩ := info_parts info28
  exact wpList_append_own w hgd s x 23 ho base 28 i0 (.agg #[.int .u32 0, .slice none 0 0]) 2 32 Yba.underlying23 hi hz0 hz1 hz2 rfl (by decide) v np xs hs hown ad 1 1 [.int k c0, .slice sa sl sc] hx rfl (chunk_news h0 h1)
    (by intro u hu; simp at hu; rcases hu with rfl | rfl <;> rfl) (by unfold maxLen; omega) (by omega) hbase (fun v' w' h2 h3 _ => h v' w' h2 h3)

/-- the call of pack, as a step of a region that draws -/
theorem stepPack {ops : Array Oper} {o : Oper} {a : Act} {w : World} {K : Act → World → Prop} {Q : Exit → Act → World → Prop} {E : Prop} (hgd : o.guard = none) (x : Operand)
    (ho : o.op = .call { callee := .value (.func 15), args := #[x], argTypes := #[22] }) (v : Value) (hx : a.eval x = v) (R : Ending → World → Prop) (hC : Calls Yba.prog 15 #[v] w R)
    (h : ∀ e w', R e w' → ∃ r, e = .returned r ∧ K (a.put o.dst r) w') :
    if Region.wanted o (yielded ops a.tmps) = true then Oper.wp Yba.prog o a w K Q else E := by
  have hw : Region.wanted o (yielded ops a.tmps) = true := by simp [Region.wanted, hgd]
  rw [if_pos hw]
  have hrun : (execOp a.eval o).run Yba.prog w = .ok (.enter 15 #[v]) w := by
    simp [execOp, ho, resolve, invoke, go_sem]
    rw [← hx]
    cases x <;> simp [Act.eval]
  unfold Oper.wp
  rw [hrun, Oper.upon_enter]
  refine hC.mono fun e w' hR => ?_
  obtain ⟨r, rfl, hK⟩ := h e w' hR
  exact hK

theorem own2_slice {w : World} {base : Nat} {e : TypeId} {size : Nat} {v : Value} {n : Nat} {xs : List Value} (h : w.ownsRow base e size v n xs) : ∃ va vc, v = .slice va n vc := by
  rcases h.2 with ⟨rfl, rfl⟩ | ⟨g, cap, cur, hv, _⟩
  · exact ⟨_, _, rfl⟩
  · exact ⟨_, _, hv⟩
theorem own2_type {w : World} {base : Nat} {e : TypeId} {size : Nat} {v : Value} {n : Nat} {xs : List Value} (h : w.ownsRow base e size v n xs) {k : Nat} (hk : v.ownBlock = some k) : ∃ cur, w.heap[k]? = some (.cells cur e (0, 0)) := by
  rcases h.2 with ⟨rfl, rfl⟩ | ⟨g, cap, cur, hv, hg, hh, _⟩
  · simp [Value.ownBlock] at hk
  · subst hv; simp [Value.ownBlock] at hk; subst hk
    exact ⟨cur, hh⟩
theorem own2_ne {w : World} {base size : Nat} {v : Value} {n L : Nat} {xs : List Value} {C : Array Value} {t : TypeId} (h : w.ownsRow base 28 size v n xs) (hL : w.heap[L]? = some (.cells C t)) (ht : t ≠ 28) : some L ≠ v.ownBlock := by
  intro e
  obtain ⟨cur, hcur⟩ := own2_type h e.symm
  rw [hcur] at hL
  simp at hL
  exact ht hL.2.symm

/-- the five cells of an arcList -/
def arcs (pk fl : Value) : Array Value := #[.int .i32 0, .slice none 0 0, .slice none 0 0, pk, fl]

/-- what close leaves where there is something to pack -/
def Closed (w : World) (L base np : Nat) (v : Value) (xs : List Value) (n : Nat) (f : Nat → Nat) (e : Ending) (w' : World) : Prop :=
  e = .returned (.tuple #[]) ∧ ∃ v' gw, w'.heap[L]? = some (.cells (arcs v' (.slice none 0 0)) 32) ∧ w'.ownsRow base 28 2 v' (np + 1) (xs ++ [.int .u32 (wide f n), .slice (some ⟨gw, 0, none⟩) (nwords n (wide f n)) (nwords n (wide f n))]) ∧
    w'.heap[gw]? = some (.cells (wordArr (NN f (wide f n) n) (nwords n (wide f n))) 25) ∧ (∀ k, k < w.heap.size → k ≠ L → some k ≠ v.ownBlock → w'.heap[k]? = w.heap[k]?) ∧ w'.os = w.os ∧ w'.tape = w.tape ∧ w'.output = w.output ∧ w.heap.size ≤ w'.heap.size

theorem closed_of {w w1 w2 : World} {L base np n gw : Nat} {va va' fa : Option Addr} {vc vc' : Nat} {xs : List Value} {f : Nat → Nat} {O : Obj} (hL : w.heap[L]? = some (.cells (arcs (.slice va np vc) (.slice fa n n)) 32)) (hown : w.ownsRow base 28 2 (.slice va np vc) np xs)
    (hb : Below w.heap.size w.drew w1) (hgw : w.heap.size ≤ gw) (hwd : w1.heap[gw]? = some (.cells (wordArr (NN f (wide f n) n) (nwords n (wide f n))) 25)) (hown1 : w1.ownsRow base 28 2 (.slice va np vc) np xs)
    (hown2 : w2.ownsRow base 28 2 (.slice va' (np + 1) vc') (np + 1) (xs ++ [.int .u32 (wide f n), .slice (some ⟨gw, 0, none⟩) (nwords n (wide f n)) (nwords n (wide f n))])) (hgr : (w1.alloc O).grownBy w2 (Value.slice va np vc).ownBlock) :
    Closed w L base np (.slice va np vc) xs n f (.returned (.tuple #[])) ((w2.setCell ⟨L, 3, none⟩ (.slice va' (np + 1) vc')).setCell ⟨L, 4, none⟩ (.slice none 0 0)) := by
  have hl := lt_of_heap hL
  have hz1 := hb.size
  have hz1' : w.heap.size ≤ w1.heap.size := hz1
  have hz2 := hgr.size
  simp at hz2
  have hL2 : w2.heap[L]? = some (.cells (arcs (.slice va np vc) (.slice fa n n)) 32) := by
    rw [hgr.block L (by simp; omega) (own2_ne hown hL (by decide)), Below.heap_alloc _ _ _ (by omega), hb.block L hl]; exact hL
  have hoth : ∀ k, k ≠ L → ((w2.setCell ⟨L, 3, none⟩ (.slice va' (np + 1) vc')).setCell ⟨L, 4, none⟩ (.slice none 0 0)).heap[k]? = w2.heap[k]? := fun k hk => by
    rw [Below.heap_setCell _ _ _ _ hk, Below.heap_setCell _ _ _ _ hk]
  have hsz : ((w2.setCell ⟨L, 3, none⟩ (.slice va' (np + 1) vc')).setCell ⟨L, 4, none⟩ (.slice none 0 0)).heap.size = w2.heap.size := by simp [World.setCell]
  have hgl := lt_of_heap hwd
  refine ⟨rfl, .slice va' (np + 1) vc', gw, ?_, ?_, ?_, fun k hk hkL hkv => ?_, hgr.os.trans hb.os, hgr.tape.trans hb.tape, hgr.output.trans hb.output, by rw [hsz]; omega⟩
  · rw [heap_put _ (heap_put _ hL2)]
    simp [arcs]
  · refine hown2.kept (row := some L) ⟨rfl, rfl, rfl, by rw [hsz]; exact Nat.le_refl _, fun k _ hk => hoth k (fun e => hk (by rw [e]))⟩ (Or.inr (fun e => own2_ne hown2 hL2 (by decide) e.symm))
  · rw [hoth gw (by omega), hgr.block gw (by simp; omega) (own2_ne hown1 hwd (by decide)), Below.heap_alloc _ _ _ hgl]; exact hwd
  · rw [hoth k hkL, hgr.block k (by simp; omega) hkv, Below.heap_alloc _ _ _ (by omega), hb.block k hk]; rfl

theorem close_any (w : World) (L base np : Nat) (va : Option Addr) (vc : Nat) (xs : List Value) (fa : Option Addr) (n g : Nat) (f : Nat → Nat) (hL : w.heap[L]? = some (.cells (arcs (.slice va np vc) (.slice fa n n)) 32)) (hown : w.ownsRow base 28 2 (.slice va np vc) np xs) (hF : FillIn w fa n g f) (hn : 1 ≤ n) (hnp : np ≤ 5) (hbase : base ≤ w.heap.size) :
    Calls Yba.prog 7 #[.pointer (some ⟨L, 0, none⟩)] w (Closed w L base np (.slice va np vc) xs n f) := by
  have l3 : w.cell? ⟨L, 3, none⟩ = some (.slice va np vc) := cell_of_heap hL rfl
  have l4 : w.cell? ⟨L, 4, none⟩ = some (.slice fa n n) := cell_of_heap hL rfl
  have lf : ∀ j, w.frozen? ⟨L, j, none⟩ = false := fun j => by simp [World.frozen?, hL]
  have hl := lt_of_heap hL
  have hFd : FillIn w.drew fa n g f := ⟨hF.ix, hF.cell, hF.bd, hF.nle, hF.head⟩
  have hnl := hF.nle
  have hn0 : (0 : Int) < n := by omega
  have HL : Hid (w.heap[L]? = some (.cells (arcs (.slice va np vc) (.slice fa n n)) 32)) := hL
  clear hL
  go_enter Yba.func7, Yba.ntmps7
  go_wp2
  go_region_law (first
    | (refine stepPack rfl (.tmp 16) rfl _ rfl (Packed w.drew n f) (pack_any w.drew fa n g f hFd hn) ?_; rintro e w1 ⟨gw, rfl, hgw, hwd, hb⟩; refine ⟨_, rfl, ?_⟩; have c3 : w1.cell? ⟨L, 3, none⟩ = some (.slice va np vc) := (by rw [hb.cell (p := ⟨L, 3, none⟩) hl]; exact l3); have hown1 : w1.ownsRow base 28 2 (.slice va np vc) np xs := hown.kept (row := none) ⟨hb.os, hb.tape, hb.output, hb.size, fun k hk _ => hb.block k hk⟩ (by cases (Value.slice va np vc).ownBlock <;> simp); have hz1 : w.heap.size ≤ w1.heap.size := hb.size; have hl1 : L < w1.heap.size := Nat.lt_of_lt_of_le hl hz1)
    | (refine stepApp rfl (.tmp 12) (.tmp 18) rfl base np _ xs rfl (hown1.alloc _) ⟨w1.heap.size, 0, none⟩ .u32 (wide f n : Nat) (some ⟨gw, 0, none⟩) (nwords n (wide f n)) (nwords n (wide f n)) rfl (by go_simp) (by go_simp) (by omega) (by simp; omega) ?_; intro v' w2 hown2 hgr2; obtain ⟨va', vc', hv'⟩ := own2_slice hown2; rw [hv'] at hown2 ⊢; have hL2 : w2.heap[L]? = w.heap[L]? := (by rw [hgr2.block L (by simp; omega) (own2_ne hown HL.out (by decide)), Below.heap_alloc _ _ _ (by omega), hb.block L hl]; rfl); have d3 : w2.cell? ⟨L, 3, none⟩ = some (.slice va np vc) := (World.cell?_of_block (w := w) hL2).trans l3; have d4 : w2.cell? ⟨L, 4, none⟩ = some (.slice fa n n) := (World.cell?_of_block (w := w) hL2).trans l4; have df : ∀ j, w2.frozen? ⟨L, j, none⟩ = false := (fun j => (World.frozen?_of_block (w := w) hL2).trans (lf j)); clear hL2; have HC : Hid (Closed w L base np (.slice va np vc) xs n f _ _) := closed_of HL.out hown hb hgw hwd hown1 hown2 hgr2))
  all_goals
    clear hown1 hgr2 hown2 hwd hb
    go_wp2
    go_end0
    exact HC.out

/-- close with nothing to pack -/
theorem close_none (w : World) (L : Nat) (pk : Value) (fa : Option Addr) (hL : w.heap[L]? = some (.cells (arcs pk (.slice fa 0 0)) 32)) :
    Calls Yba.prog 7 #[.pointer (some ⟨L, 0, none⟩)] w fun e w' => e = .returned (.tuple #[]) ∧ w'.heap[L]? = some (.cells (arcs pk (.slice none 0 0)) 32) ∧ (∀ k, k ≠ L → w'.heap[k]? = w.heap[k]?) ∧ w'.os = w.os ∧ w'.tape = w.tape ∧ w'.output = w.output ∧ w'.heap.size = w.heap.size := by
  have l4 : w.cell? ⟨L, 4, none⟩ = some (.slice fa 0 0) := cell_of_heap hL rfl
  have lf : ∀ j, w.frozen? ⟨L, j, none⟩ = false := fun j => by simp [World.frozen?, hL]
  have HL : Hid (w.heap[L]? = some (.cells (arcs pk (.slice fa 0 0)) 32)) := hL
  clear hL
  go_enter Yba.func7, Yba.ntmps7
  go_wp2
  go_end0
  refine ⟨rfl, ?_, fun k hk => Below.heap_setCell _ _ _ _ hk, rfl, rfl, rfl, by simp [World.setCell]⟩
  rw [heap_put _ HL.out]
  simp [arcs]
end Go.Proofs.Ybulkpsc
