/-
  The contract of '(*Topology).AddSpout' (9).
-/
import Derived.Test.YbulkpoiChecked
import Derived.WalkKit
import Derived.ProofKit
import Derived.WalkLawsBesides
import Derived.Laws.EntriesVeiled
namespace Go.Proofs.Ybulkpoi
open Go.RowKit

theorem info43 : (Yba.prog.info? 43).map (fun i => (i.zero, i.size, i.bytes)) = some (some (.pointer none), 1, 8) := by kernel_rfl

theorem append43 {ops : Array Oper} {rest : List Oper} {o : Oper} {a : Act} {Q : Exit → Act → World → Prop} (w : World) (hgd : o.guard = none) (s x : Operand)
    (ho : o.op = .call { callee := .builtin .append, args := #[s, x], argTypes := #[30, 30] }) (base n : Nat) (v : Value) (xs : List Value) (hs : a.eval s = v) (hown : w.ownsRow base 43 1 v n xs)
    (ad : Addr) (p : Option Addr) (hx : a.eval x = .slice (some ad) 1 1) (hc : w.cell? (ad.add 0) = some (.pointer p)) (hn : n ≤ 2000) (hbase : base ≤ w.heap.size)
    (h : ∀ v' w', w'.ownsRow base 43 1 v' (n + 1) (xs ++ [.pointer p]) → w.grownBy w' v.ownBlock → (v' = .slice none 0 0 ↔ v = .slice none 0 0 ∧ 1 = 0) → wpList Yba.prog ops Q rest (a.put o.dst v') w') :
    wpList Yba.prog ops Q (o :: rest) a w := by
  obtain ⟨i0, hi, hz0, hz1, hz2⟩ := info_parts info43
  refine wpList_append_own w hgd s x 30 ho base 43 i0 (.pointer none) 1 8 Yba.underlying30 hi hz0 hz1 hz2 rfl (by decide) v n xs hs hown ad 1 1 [.pointer p] hx rfl ?_ ?_ ?_ ?_ hbase h
  · intro j u hj
    match j, hj with
    | 0, hj => simp at hj; subst hj; exact hc
  · intro u hu; simp at hu; subst hu; rfl
  · unfold maxLen; omega
  · omega


def topo (v : Value) (acks : Int) : Array Value := #[v, .int .i64 acks, .bool true, .int .i64 0, .bool false, .int .i64 0, .bool false, .map none]
/-- the six cells of a component -/
def comp (name : ByteArray) (par : Int) (fl f : Value) : Array Value := #[.string name, .int .i64 par, fl, f, .nilFunc, .slice none 0 0]
def ptr (b : Nat) : Value := .pointer (some ⟨b, 0, none⟩)

theorem own_slice {w : World} {base : Nat} {e : TypeId} {v : Value} {n : Nat} {xs : List Value} (h : w.ownsRow base e 1 v n xs) : ∃ va vc, v = .slice va n vc := by
  rcases h.2 with ⟨rfl, rfl⟩ | ⟨g, cap, cur, hv, _⟩
  · exact ⟨_, _, rfl⟩
  · exact ⟨_, _, hv⟩
theorem own_ge {w : World} {base : Nat} {e : TypeId} {v : Value} {n : Nat} {xs : List Value} (h : w.ownsRow base e 1 v n xs) {k : Nat} (hk : v.ownBlock = some k) : base ≤ k := by
  rcases h.2 with ⟨rfl, rfl⟩ | ⟨g, cap, cur, hv, hg, _⟩
  · simp [Value.ownBlock] at hk
  · subst hv; simp [Value.ownBlock] at hk; omega

theorem own_lt {w : World} {base : Nat} {e : TypeId} {v : Value} {n : Nat} {xs : List Value} (h : w.ownsRow base e 1 v n xs) {k : Nat} (hk : v.ownBlock = some k) : k < w.heap.size := by
  rcases h.2 with ⟨rfl, rfl⟩ | ⟨g, cap, cur, hv, hg, hh, _⟩
  · simp [Value.ownBlock] at hk
  · subst hv; simp [Value.ownBlock] at hk; subst hk
    exact (Array.getElem?_eq_some_iff.1 hh).1

/-- what AddSpout leaves: T's first cell leads to a row with one pointer more, to a new component; old blocks but T and the row are as they were -/
def Added (w w' : World) (T base n : Nat) (acks : Int) (v : Value) (xs : List Value) (C : Array Value) : Prop :=
  (∃ v', w'.heap[T]? = some (.cells (topo v' acks) 34) ∧ w'.ownsRow base 43 1 v' (n + 1) (xs ++ [ptr w.heap.size])) ∧ w'.heap[w.heap.size]? = some (.cells C 47) ∧
  (∀ k, k < w.heap.size → k ≠ T → some k ≠ v.ownBlock → w'.heap[k]? = w.heap[k]?) ∧ w'.os = w.os ∧ w'.tape = w.tape ∧ w'.output = w.output ∧ w.heap.size < w'.heap.size

theorem added_of {w w1 : World} {T base n : Nat} {acks : Int} {v v' : Value} {xs : List Value} {C D : Array Value} (hT : w.heap[T]? = some (.cells (topo v acks) 34)) (hown : w.ownsRow base 43 1 v n xs) (hTb : T < base) (hbase : base ≤ w.heap.size)
    (hown' : w1.ownsRow base 43 1 v' (n + 1) (xs ++ [.pointer (some ⟨w.heap.size, 0, none⟩)])) (hg : ((w.alloc (.cells C 47)).alloc (.cells D 43)).grownBy w1 v.ownBlock) : Added w (w1.setCell ⟨T, 0, none⟩ v') T base n acks v xs C := by
  have hb : ∀ k, v.ownBlock = some k → base ≤ k := fun k hk => own_ge hown hk
  have hTn : some T ≠ v.ownBlock := fun e => by have := hb T e.symm; omega
  have hTs : T < w.heap.size := by omega
  have h2 : ∀ k, k < w.heap.size → ((w.alloc (.cells C 47)).alloc (.cells D 43)).heap[k]? = w.heap[k]? := fun k hk => by
    rw [Below.heap_alloc _ _ _ (by simp; omega), Below.heap_alloc _ _ _ hk]
  have e1 : w1.heap[T]? = some (.cells (topo v acks) 34) := by
    rw [hg.block T (by simp; omega) hTn, h2 T hTs, hT]
  have hz := hg.size
  simp at hz
  refine ⟨⟨v', ?_, ownsRow_setCell_below hown' hTb v'⟩, ?_, ?_, hg.os, hg.tape, hg.output, ?_⟩
  · simp [World.setCell, Array.getElem?_modify, e1, topo]
  · rw [Below.heap_setCell _ _ _ _ (by simp; omega), hg.block _ (by simp; omega) (fun e => by have := own_lt hown e.symm; omega), Below.heap_alloc _ _ _ (by simp)]
    show (w.heap.push _)[w.heap.size]? = _
    simp
  · intro k hk hkT hkv
    rw [Below.heap_setCell _ _ _ _ hkT, hg.block k (by simp; omega) hkv, h2 k hk]
  · simp [World.setCell]; omega

theorem add_nil (w : World) (T base n : Nat) (va : Option Addr) (vc : Nat) (acks : Int) (xs : List Value) (name : ByteArray) (par : Int) (fa : Option Addr) (fn fc : Nat)
    (hT : w.heap[T]? = some (.cells (topo (.slice va n vc) acks) 34)) (hown : w.ownsRow base 43 1 (.slice va n vc) n xs) (hTb : T < base) (hbase : base ≤ w.heap.size) (hn : n ≤ 2000) :
    Calls Yba.prog 9 #[.pointer (some ⟨T, 0, none⟩), .string name, .int .i64 par, .nilFunc, .slice fa fn fc] w fun e w' => e = .returned (.tuple #[]) ∧ Added w w' T base n acks (.slice va n vc) xs (comp name par (.slice fa fn fc) .nilFunc) := by
  have hc0 : w.cell? ⟨T, 0, none⟩ = some (.slice va n vc) := by simp [World.cell?, hT, topo]
  have hf0 : w.frozen? ⟨T, 0, none⟩ = false := by simp [World.frozen?, hT]
  have HT : Hid (w.heap[T]? = some (.cells (topo (.slice va n vc) acks) 34)) := hT
  clear hT
  go_enter Yba.func9, Yba.ntmps9
  go_wp2_with (at_builtin; refine append43 _ rfl _ _ rfl base n _ xs rfl ((hown.alloc _).alloc _) ⟨w.heap.size + 1, 0, none⟩ (some ⟨w.heap.size, 0, none⟩) rfl (by simp [Addr.add]) hn (by simp; omega) ?_)
  intro v' w1 hown' hgrow _
  have A := added_of HT.out hown hTb hbase hown' hgrow
  obtain ⟨va', vc', hv⟩ := own_slice hown'
  have hTn : some T ≠ (Value.slice va n vc).ownBlock := fun e => by have := own_ge hown e.symm; omega
  have hg1 : w1.heap[T]? = w.heap[T]? := by
    rw [hgrow.block T (by simp; omega) hTn, Below.heap_alloc _ _ _ (by simp; omega), Below.heap_alloc _ _ _ (by omega)]
  have hc1 : w1.cell? ⟨T, 0, none⟩ = some (.slice va n vc) := by rw [World.cell?_of_block (w := w) hg1]; exact hc0
  have hf1 : w1.frozen? ⟨T, 0, none⟩ = false := by rw [World.frozen?_of_block (w := w) hg1]; exact hf0
  have HA : Hid _ := A
  clear A hg1 hown' hgrow hTn hc0 hf0
  rw [hv]
  rw [hv] at HA
  go_wp2
  go_end0
  exact ⟨rfl, HA.out⟩

theorem add_func (w : World) (T base n : Nat) (va : Option Addr) (vc : Nat) (acks : Int) (xs : List Value) (name : ByteArray) (par : Int) (fid : Fn) (fi ca : Array Value) (fa : Option Addr) (fn fc : Nat)
    (hT : w.heap[T]? = some (.cells (topo (.slice va n vc) acks) 34)) (hown : w.ownsRow base 43 1 (.slice va n vc) n xs) (hTb : T < base) (hbase : base ≤ w.heap.size) (hn : n ≤ 2000) :
    Calls Yba.prog 9 #[.pointer (some ⟨T, 0, none⟩), .string name, .int .i64 par, .func fid fi ca, .slice fa fn fc] w fun e w' => e = .returned (.tuple #[]) ∧ Added w w' T base n acks (.slice va n vc) xs (comp name par (.slice fa fn fc) (.func fid fi ca)) := by
  have hc0 : w.cell? ⟨T, 0, none⟩ = some (.slice va n vc) := by simp [World.cell?, hT, topo]
  have hf0 : w.frozen? ⟨T, 0, none⟩ = false := by simp [World.frozen?, hT]
  have HT : Hid (w.heap[T]? = some (.cells (topo (.slice va n vc) acks) 34)) := hT
  clear hT
  go_enter Yba.func9, Yba.ntmps9
  go_wp2_with (at_builtin; refine append43 _ rfl _ _ rfl base n _ xs rfl ((hown.alloc _).alloc _) ⟨w.heap.size + 1, 0, none⟩ (some ⟨w.heap.size, 0, none⟩) rfl (by simp [Addr.add]) hn (by simp; omega) ?_)
  intro v' w1 hown' hgrow _
  have A := added_of HT.out hown hTb hbase hown' hgrow
  obtain ⟨va', vc', hv⟩ := own_slice hown'
  have hTn : some T ≠ (Value.slice va n vc).ownBlock := fun e => by have := own_ge hown e.symm; omega
  have hg1 : w1.heap[T]? = w.heap[T]? := by
    rw [hgrow.block T (by simp; omega) hTn, Below.heap_alloc _ _ _ (by simp; omega), Below.heap_alloc _ _ _ (by omega)]
  have hc1 : w1.cell? ⟨T, 0, none⟩ = some (.slice va n vc) := by rw [World.cell?_of_block (w := w) hg1]; exact hc0
  have hf1 : w1.frozen? ⟨T, 0, none⟩ = false := by rw [World.frozen?_of_block (w := w) hg1]; exact hf0
  have HA : Hid _ := A
  clear A hg1 hown' hgrow hTn hc0 hf0
  rw [hv]
  rw [hv] at HA
  go_wp2
  go_end0
  exact ⟨rfl, HA.out⟩
end Go.Proofs.Ybulkpoi
