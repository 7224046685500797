/-
  LawS0801BAppend: what stands in memory on its way, and the laws that carry it.
-/
import Derived.Test.YbulkpoiAdd
import Derived.Laws.CopyOwn
import Derived.Deep.OwnRows
import Derived.Lib.Builder
namespace Go.Proofs.Ybulkpoi
open Go.RowKit

/-- a slice of strings that came in: what each index comes to -/
structure StrsIn (w : World) (a : Option Addr) (len cap : Nat) (b o : Nat) (ss : Nat → ByteArray) : Prop where
  ix : ∀ (k : Nat) (wx : World), k < len → (Instr.indexAt 29 (.slice a len cap) (.int .i64 k)).run Yba.prog wx = .ok (.pointer (some ⟨b, o + k, none⟩)) wx
  cell : ∀ k, k < len → w.cell? ⟨b, o + k, none⟩ = some (.string (ss k))
  blk : 0 < len → b < w.heap.size ∧ a = some ⟨b, o, none⟩
  nil : a.isSome = false → len = 0

/-- the components that stand after k rounds -/
def Comps (w : World) (ss : Nat → ByteArray) (cs : List Nat) : Prop :=
  ∀ (i c : Nat), cs[i]? = some c → w.heap[c]? = some (.cells (comp (ss i) i (.slice none 0 0) .nilFunc) 47)

/-- what holds of memory from the first loop on: the tag's box, the topology, its row of pointers, the components -/
structure Base (w : World) (acks tag : Int) (ss : Nat → ByteArray) (k : Nat) (v : Value) (cs : List Nat) (wr : World) : Prop where
  len : cs.length = k
  tag : wr.heap[w.heap.size]? = some (.cells #[.int .i64 tag] 3)
  top : wr.heap[w.heap.size + 1]? = some (.cells (topo v acks) 34)
  own : wr.ownsRow (w.heap.size + 2) 43 1 v k (cs.map ptr)
  comps : Comps wr ss cs
  below : Below w.heap.size w wr
  size : w.heap.size + 2 ≤ wr.heap.size

def Inv1 (w : World) (acks tag : Int) (ss : Nat → ByteArray) (k : Nat) (wr : World) : Prop := ∃ (v : Value) (cs : List Nat), Base w acks tag ss k v cs wr

theorem own_type {w : World} {base : Nat} {e : TypeId} {v : Value} {n : Nat} {xs : List Value} (h : w.ownsRow base e 1 v n xs) {k : Nat} (hk : v.ownBlock = some k) : ∃ cur, w.heap[k]? = some (.cells cur e (0, 0)) := by
  rcases h.2 with ⟨rfl, rfl⟩ | ⟨g, cap, cur, hv, hg, hh, _⟩
  · simp [Value.ownBlock] at hk
  · subst hv; simp [Value.ownBlock] at hk; subst hk
    exact ⟨cur, hh⟩

theorem heap_new (w : World) (o : Obj) : (w.alloc o).heap[w.heap.size]? = some o := by
  show (w.heap.push _)[w.heap.size]? = _
  simp

theorem inv1_start (w : World) (acks tag : Int) (ss : Nat → ByteArray) :
    Inv1 w acks tag ss 0 ((w.alloc (.cells #[.int .i64 tag] 3)).alloc (.cells #[.slice none 0 0, .int .i64 acks, .bool true, .int .i64 0, .bool false, .int .i64 0, .bool false, .map none] 34)) := by
  refine ⟨.slice none 0 0, [], rfl, ?_, ?_, World.ownsRow_nil _ _ _ _, ?_, ((Below.refl _ _).alloc (Nat.le_refl _) _).alloc (by simp) _, by simp⟩
  · rw [Below.heap_alloc _ _ _ (by simp)]
    exact heap_new _ _
  · have h := heap_new (w.alloc (.cells #[.int .i64 tag] 3)) (.cells #[.slice none 0 0, .int .i64 acks, .bool true, .int .i64 0, .bool false, .int .i64 0, .bool false, .map none] 34)
    simpa [topo] using h
  · intro i c h; simp at h

/-- a component lies neither in the topology nor in the row -/
theorem Base.comp_ne {w wr : World} {acks tag : Int} {ss : Nat → ByteArray} {k : Nat} {v : Value} {cs : List Nat} (h : Base w acks tag ss k v cs wr) {i c : Nat} (hi : cs[i]? = some c) :
    c < wr.heap.size ∧ c ≠ w.heap.size + 1 ∧ some c ≠ v.ownBlock := by
  have h1 := h.comps i c hi
  refine ⟨(Array.getElem?_eq_some_iff.1 h1).1, ?_, ?_⟩
  · intro e
    subst e
    rw [h.top] at h1
    simp at h1
  · intro e
    obtain ⟨cur, hcur⟩ := own_type h.own e.symm
    rw [hcur] at h1
    simp at h1

/-- one AddSpout more, whatever component it adds -/
theorem Base.added {w wr w' : World} {acks tag : Int} {ss : Nat → ByteArray} {k : Nat} {v : Value} {cs : List Nat} (h : Base w acks tag ss k v cs wr) {C : Array Value}
    (hA : Added wr w' (w.heap.size + 1) (w.heap.size + 2) k acks v (cs.map ptr) C) :
    ∃ v', w'.heap[w.heap.size]? = some (.cells #[.int .i64 tag] 3) ∧ w'.heap[w.heap.size + 1]? = some (.cells (topo v' acks) 34) ∧ w'.ownsRow (w.heap.size + 2) 43 1 v' (k + 1) ((cs ++ [wr.heap.size]).map ptr) ∧
      (∀ (i c : Nat), cs[i]? = some c → w'.heap[c]? = some (.cells (comp (ss i) i (.slice none 0 0) .nilFunc) 47)) ∧ w'.heap[wr.heap.size]? = some (.cells C 47) ∧ Below w.heap.size w w' ∧ w.heap.size + 2 ≤ w'.heap.size ∧
      (∀ j, j < wr.heap.size → j ≠ w.heap.size + 1 → some j ≠ v.ownBlock → w'.heap[j]? = wr.heap[j]?) := by
  obtain ⟨⟨v', hT', hown'⟩, hnew, hblk, hos, htp, hout, hlt⟩ := hA
  have hz := h.size
  have hge : ∀ j, v.ownBlock = some j → w.heap.size + 2 ≤ j := fun j hj => own_ge h.own hj
  have hkeep : ∀ j, j ≤ w.heap.size → w'.heap[j]? = wr.heap[j]? := fun j hj => hblk j (by omega) (by omega) (fun e => by have := hge j e.symm; omega)
  refine ⟨v', ?_, hT', by simpa using hown', ?_, hnew, h.below.trans ⟨hos, htp, hout, by omega, fun j hj => hkeep j (by omega)⟩, by omega, hblk⟩
  · rw [hkeep _ (by omega)]; exact h.tag
  · intro i c hi
    obtain ⟨h1, h2, h3⟩ := h.comp_ne hi
    rw [hblk c h1 h2 h3]
    exact h.comps i c hi

theorem inv1_step {w wr w' : World} {acks tag : Int} {ss : Nat → ByteArray} {k : Nat} {v : Value} {cs : List Nat} (h : Base w acks tag ss k v cs wr)
    (hA : Added wr w' (w.heap.size + 1) (w.heap.size + 2) k acks v (cs.map ptr) (comp (ss k) k (.slice none 0 0) .nilFunc)) : Inv1 w acks tag ss (k + 1) w' := by
  obtain ⟨v', h1, h2, h3, h4, h5, h6, h7, _⟩ := h.added hA
  have hcs := h.len
  refine ⟨v', cs ++ [wr.heap.size], by simp [hcs], h1, h2, h3, ?_, h6, h7⟩
  intro i c hi
  by_cases hl : i < cs.length
  · rw [List.getElem?_append_left hl] at hi
    exact h4 i c hi
  · rw [List.getElem?_append_right (by omega)] at hi
    have : i - cs.length = 0 := by
      have := (List.getElem?_eq_some_iff.1 hi).1
      simp at this; omega
    rw [this] at hi
    simp at hi
    subst hi
    rw [h5]
    have e : i = k := by omega
    subst e; rfl

/-- 'Base' stands while blocks are laid and blocks that are none of its own are written -/
theorem Base.kept {w wr w' : World} {acks tag : Int} {ss : Nat → ByteArray} {k : Nat} {v : Value} {cs : List Nat} (h : Base w acks tag ss k v cs wr)
    (hblk : ∀ j, j < wr.heap.size → w'.heap[j]? = wr.heap[j]?) (hos : w'.os = wr.os) (htp : w'.tape = wr.tape) (hout : w'.output = wr.output) (hlt : wr.heap.size ≤ w'.heap.size) : Base w acks tag ss k v cs w' := by
  have hz := h.size
  refine ⟨h.len, by rw [hblk _ (by omega)]; exact h.tag, by rw [hblk _ (by omega)]; exact h.top, h.own.kept (row := none) ⟨hos, htp, hout, hlt, fun j hj _ => hblk j hj⟩ (by cases v.ownBlock <;> simp), ?_,
    h.below.trans ⟨hos, htp, hout, hlt, fun j hj => hblk j (by omega)⟩, by omega⟩
  intro i c hi
  rw [hblk c (h.comp_ne hi).1]
  exact h.comps i c hi

/-- w' is w with block g written -/
structure Upd (w w' : World) (g : Nat) : Prop where
  size : w'.heap.size = w.heap.size
  os : w'.os = w.os
  tape : w'.tape = w.tape
  output : w'.output = w.output
  block : ∀ j, j ≠ g → w'.heap[j]? = w.heap[j]?

/-- 'copy' over a whole row that the call has made -/
theorem copyAll {ops : Array Oper} {rest : List Oper} {o : Oper} {a : Act} {Q : Exit → Act → World → Prop} (w : World) (hgd : o.guard = none) (d s : Operand) (t e : TypeId)
    (ho : o.op = .call { callee := .builtin .copy, args := #[d, s], argTypes := #[t, t] }) (hu : Yba.prog.underlying t = some (.slice e)) (hsz : (Yba.prog.info? e).map (·.size) = some 1)
    (g n c : Nat) (sp : Option Addr) (hd : a.eval d = .slice (some ⟨g, 0, none⟩) n n) (hs : a.eval s = .slice sp n c) (M : Array Value) (hg : w.heap[g]? = some (.cells M e (0, 0))) (hM : M.size = n)
    (cs : List Value) (hn : cs.length = n) (hpos : 0 < n → ∃ ad, sp = some ad ∧ ∀ j v, cs[j]? = some v → w.cell? (ad.add j) = some v) (h1 : ∀ v ∈ cs, v.oneCell' = true)
    (h : ∀ w', Hid (w'.heap[g]? = some (.cells cs.toArray e (0, 0))) → Upd w w' g → wpList Yba.prog ops Q rest (a.put o.dst (goInt n)) w') :
    wpList Yba.prog ops Q (o :: rest) a w := by
  by_cases h0 : n = 0
  · subst h0
    obtain rfl : cs = [] := List.eq_nil_of_length_eq_zero hn
    obtain rfl : M = #[] := Array.eq_empty_of_size_eq_zero hM
    exact wpList_copy_nothing hgd d s t t ho e hu hsz (some ⟨g, 0, none⟩) sp 0 0 0 c hd hs rfl (h w hg ⟨rfl, rfl, rfl, rfl, fun _ _ => rfl⟩)
  · obtain ⟨ad, rfl, hsrc⟩ := hpos (by omega)
    refine wpList_copy_own hgd d s t t ho e hu hsz g 0 n n ad n c hd hs M e hg cs (by simp [hn]) hsrc (by omega) h1 ?_
    rw [hn]
    refine h _ ?_ ⟨by simp [World.setRow], rfl, rfl, rfl, fun j hj => setRow_other _ _ _ _ hj⟩
    have hr := setRow_heap w g M (M.toList.take 0 ++ (cs ++ M.toList.drop (0 + n))).toArray e (0, 0) hg
    show _ = _
    rw [hr]
    have : M.toList.drop n = [] := List.drop_of_length_le (by simp [hM])
    simp [this]

theorem info9 : (Yba.prog.info? 9).map (fun i => (i.zero, i.size, i.bytes)) = some (some (.string ByteArray.empty), 1, 16) := by kernel_rfl
theorem size43 : (Yba.prog.info? 43).map (·.size) = some 1 := by kernel_rfl
theorem size9 : (Yba.prog.info? 9).map (·.size) = some 1 := by kernel_rfl

theorem mk43 (n : Nat) (h : n ≤ 2000) : ∃ M : Array Value, M.size = n ∧ ∀ w : World, (Instr.makeSlice 30 (.int .i64 n) (.int .i64 n)).run Yba.prog w = .ok (.slice (some ⟨w.heap.size, 0, none⟩) n n) (w.alloc (.cells M 43)) :=
  ⟨_, size_madeCells _ _, fun w => run_make_row' 30 43 (.pointer none) 8 Yba.underlying30 info43 rfl .i64 .i64 n (by omega) (by omega) w⟩
theorem mk9 (n : Nat) (h : n ≤ 2000) : ∃ M : Array Value, M.size = n ∧ ∀ w : World, (Instr.makeSlice 29 (.int .i64 n) (.int .i64 n)).run Yba.prog w = .ok (.slice (some ⟨w.heap.size, 0, none⟩) n n) (w.alloc (.cells M 9)) :=
  ⟨_, size_madeCells _ _, fun w => run_make_row' 29 9 (.string ByteArray.empty) 16 Yba.underlying29 info9 rfl .i64 .i64 n (by omega) (by omega) w⟩

/-- the strings of a slice, as a list of cells -/
def strCells (ss : Nat → ByteArray) (n : Nat) : List Value := (List.range n).map fun i => .string (ss i)
theorem strCells_length (ss : Nat → ByteArray) (n : Nat) : (strCells ss n).length = n := by simp [strCells]
theorem strCells_get {ss : Nat → ByteArray} {n j : Nat} {v : Value} (h : (strCells ss n)[j]? = some v) : j < n ∧ v = .string (ss j) := by
  have hj : j < n := by
    have := (List.getElem?_eq_some_iff.1 h).1
    simpa [strCells] using this
  refine ⟨hj, ?_⟩
  have e : (strCells ss n)[j]? = some (.string (ss j)) := by simp [strCells, hj]
  rw [e] at h
  exact (Option.some.inj h).symm
theorem strCells_at {ss : Nat → ByteArray} {n j : Nat} (h : j < n) : (strCells ss n)[j]? = some (.string (ss j)) := by
  simp [strCells, h]
theorem strCells_one {ss : Nat → ByteArray} {n : Nat} : ∀ v ∈ strCells ss n, v.oneCell' = true := by
  intro v hv
  simp [strCells] at hv
  obtain ⟨i, _, rfl⟩ := hv
  rfl

/-- memory ahead of the law's own AddSpout: 'before' at block bw, 'calls' at cw, 'fs' at fa -/
structure Inv2 (w : World) (acks tag : Int) (s0 : Nat → ByteArray) (l0 : Nat) (v : Value) (cs : List Nat) (bw cw : Nat) (fa : Option Addr) (g3 l3 : Nat) (s3 : Nat → ByteArray) (W : World) : Prop where
  base : Base w acks tag s0 l0 v cs W
  bef : W.heap[bw]? = some (.cells (cs.map ptr).toArray 43)
  befne : some bw ≠ v.ownBlock
  calls : W.heap[cw]? = some (.cells #[.int .i64 0] 3)
  cwge : w.heap.size + 2 ≤ cw
  fld : 0 < l3 → fa = some ⟨g3, 0, none⟩ ∧ W.heap[g3]? = some (.cells (strCells s3 l3).toArray 9)

theorem inv2_nil {w wr w2 : World} {acks tag : Int} {s0 s3 : Nat → ByteArray} {l0 : Nat} {v : Value} {cs : List Nat} {M : Array Value} (h : Base w acks tag s0 l0 v cs wr)
    (hb : w2.heap[wr.heap.size]? = some (.cells (cs.map ptr).toArray 43)) (hu : Upd (wr.alloc (.cells M 43)) w2 wr.heap.size) :
    Inv2 w acks tag s0 l0 v cs wr.heap.size w2.heap.size none 0 0 s3 (w2.alloc (.cells #[.int .i64 0] 3)) := by
  have hz : w2.heap.size = wr.heap.size + 1 := by rw [hu.size]; simp
  have hkeep : ∀ j, j < wr.heap.size → (w2.alloc (.cells #[.int .i64 0] 3)).heap[j]? = wr.heap[j]? := fun j hj => by
    rw [Below.heap_alloc _ _ _ (by omega), hu.block j (by omega), Below.heap_alloc _ _ _ hj]
  have hz2 := h.size
  refine ⟨h.kept hkeep hu.os hu.tape hu.output (by simp; omega), ?_, fun e => by have := own_lt h.own e.symm; omega, heap_new _ _, by omega, fun h => absurd h (by omega)⟩
  rw [Below.heap_alloc _ _ _ (by omega)]; exact hb

theorem inv2_made {w wr w2 w3 : World} {acks tag : Int} {s0 s3 : Nat → ByteArray} {l0 l3 : Nat} {v : Value} {cs : List Nat} {M M3 : Array Value} (h : Base w acks tag s0 l0 v cs wr)
    (hb : w2.heap[wr.heap.size]? = some (.cells (cs.map ptr).toArray 43)) (hu : Upd (wr.alloc (.cells M 43)) w2 wr.heap.size)
    (hb3 : w3.heap[w2.heap.size + 1]? = some (.cells (strCells s3 l3).toArray 9)) (hu3 : Upd ((w2.alloc (.cells #[.int .i64 0] 3)).alloc (.cells M3 9)) w3 (w2.heap.size + 1)) :
    Inv2 w acks tag s0 l0 v cs wr.heap.size w2.heap.size (some ⟨w2.heap.size + 1, 0, none⟩) (w2.heap.size + 1) l3 s3 w3 := by
  have hz : w2.heap.size = wr.heap.size + 1 := by rw [hu.size]; simp
  have hz3 : w3.heap.size = w2.heap.size + 2 := by rw [hu3.size]; simp
  have hkeep : ∀ j, j < w2.heap.size → w3.heap[j]? = w2.heap[j]? := fun j hj => by
    rw [hu3.block j (by omega), Below.heap_alloc _ _ _ (by simp; omega), Below.heap_alloc _ _ _ hj]
  have hkeep2 : ∀ j, j < wr.heap.size → w3.heap[j]? = wr.heap[j]? := fun j hj => by
    rw [hkeep j (by omega), hu.block j (by omega), Below.heap_alloc _ _ _ hj]
  have hz2 := h.size
  refine ⟨h.kept hkeep2 (hu3.os.trans hu.os) (hu3.tape.trans hu.tape) (hu3.output.trans hu.output) (by omega), ?_, fun e => by have := own_lt h.own e.symm; omega, ?_, by omega, fun _ => ⟨rfl, hb3⟩⟩
  · rw [hkeep _ (by omega)]; exact hb
  · rw [hu3.block _ (by omega), Below.heap_alloc _ _ _ (by simp)]
    exact heap_new _ _

/-- memory behind it: what the rest of the law reads, cell by cell -/
structure Inv3 (w : World) (acks tag : Int) (s0 : Nat → ByteArray) (l0 : Nat) (cs : List Nat) (bw cw : Nat) (fa : Option Addr) (g3 l3 : Nat) (s3 : Nat → ByteArray) (name : ByteArray) (par : Int) (f : Value) (g cap nc : Nat) (W : World) : Prop where
  len : cs.length = l0
  tag : W.cell? ⟨w.heap.size, 0, none⟩ = some (.int .i64 tag)
  top0 : W.cell? ⟨w.heap.size + 1, 0, none⟩ = some (.slice (some ⟨g, 0, none⟩) (l0 + 1) cap)
  top1 : W.cell? ⟨w.heap.size + 1, 1, none⟩ = some (.int .i64 acks)
  top2 : W.cell? ⟨w.heap.size + 1, 2, none⟩ = some (.bool true)
  row : ∀ i c : Nat, (cs ++ [nc])[i]? = some c → W.cell? ⟨g, i, none⟩ = some (.pointer (some ⟨c, 0, none⟩))
  bef : ∀ i c : Nat, cs[i]? = some c → W.cell? ⟨bw, i, none⟩ = some (.pointer (some ⟨c, 0, none⟩))
  comps : ∀ i c : Nat, cs[i]? = some c → W.cell? ⟨c, 0, none⟩ = some (.string (s0 i)) ∧ W.cell? ⟨c, 1, none⟩ = some (.int .i64 i) ∧ W.cell? ⟨c, 3, none⟩ = some .nilFunc ∧ W.cell? ⟨c, 4, none⟩ = some .nilFunc
  new : W.cell? ⟨nc, 0, none⟩ = some (.string name) ∧ W.cell? ⟨nc, 1, none⟩ = some (.int .i64 par) ∧ W.cell? ⟨nc, 2, none⟩ = some (.slice fa l3 l3) ∧ W.cell? ⟨nc, 3, none⟩ = some f ∧ W.cell? ⟨nc, 4, none⟩ = some .nilFunc ∧ W.cell? ⟨nc, 5, none⟩ = some (.slice none 0 0)
  calls : W.cell? ⟨cw, 0, none⟩ = some (.int .i64 0) ∧ W.frozen? ⟨cw, 0, none⟩ = false ∧ w.heap.size + 2 ≤ cw
  fld : ∀ i, i < l3 → W.cell? ⟨g3, i, none⟩ = some (.string (s3 i))
  fa : 0 < l3 → fa = some ⟨g3, 0, none⟩
  below : Below w.heap.size w W
  size : w.heap.size + 2 ≤ W.heap.size

theorem cell_of_heap {W : World} {b : Nat} {C : Array Value} {t : TypeId} {j : Nat} {u : Value} (h : W.heap[b]? = some (.cells C t)) (hj : C[j]? = some u) : W.cell? ⟨b, j, none⟩ = some u := by
  simp [World.cell?, h, hj]

theorem inv3_of {w W w' : World} {acks tag : Int} {s0 s3 : Nat → ByteArray} {l0 l3 : Nat} {v : Value} {cs : List Nat} {bw cw g3 : Nat} {fa : Option Addr} {name : ByteArray} {par : Int} {f : Value}
    (h : Inv2 w acks tag s0 l0 v cs bw cw fa g3 l3 s3 W) (hA : Added W w' (w.heap.size + 1) (w.heap.size + 2) l0 acks v (cs.map ptr) (comp name par (.slice fa l3 l3) f)) :
    ∃ g cap, Inv3 w acks tag s0 l0 cs bw cw fa g3 l3 s3 name par f g cap W.heap.size w' := by
  obtain ⟨v', h1, h2, h3, h4, h5, h6, h7, h8⟩ := h.base.added hA
  have hz := h.base.size
  obtain ⟨g, cap, cur, hv, hg, hh, hle, hm, hcs, htk⟩ : ∃ g cap cur, v' = .slice (some ⟨g, 0, none⟩) (l0 + 1) cap ∧ w.heap.size + 2 ≤ g ∧ w'.heap[g]? = some (.cells cur 43 (0, 0)) ∧ l0 + 1 ≤ cap ∧ cap ≤ maxLen ∧ cur.size = cap * 1 ∧ cur.toList.take ((l0 + 1) * 1) = (cs ++ [W.heap.size]).map ptr := by
    rcases h3.2 with ⟨_, hn⟩ | h
    · omega
    · exact h
  subst hv
  have hbw : bw < W.heap.size := (Array.getElem?_eq_some_iff.1 h.bef).1
  have hcw : cw < W.heap.size := (Array.getElem?_eq_some_iff.1 h.calls).1
  have hbwT : bw ≠ w.heap.size + 1 := by
    intro e; have := h.bef; rw [e, h.base.top] at this; simp at this
  have hcwv : some cw ≠ v.ownBlock := by
    intro e
    obtain ⟨cur, hcur⟩ := own_type h.base.own e.symm
    have := h.calls; rw [hcur] at this; simp at this
  have hbw' : w'.heap[bw]? = some (.cells (cs.map ptr).toArray 43) := by rw [h8 bw hbw hbwT h.befne]; exact h.bef
  have hcw' : w'.heap[cw]? = some (.cells #[.int .i64 0] 3) := by rw [h8 cw hcw (by have := h.cwge; omega) hcwv]; exact h.calls
  have hfl : 0 < l3 → w'.heap[g3]? = some (.cells (strCells s3 l3).toArray 9) := by
    intro hl
    have hg3 := (h.fld hl).2
    rw [h8 g3 (Array.getElem?_eq_some_iff.1 hg3).1 ?_ ?_]
    · exact hg3
    · intro e; rw [e, h.base.top] at hg3; simp at hg3
    · intro e
      obtain ⟨cur, hcur⟩ := own_type h.base.own e.symm
      rw [hcur] at hg3; simp at hg3
  refine ⟨g, cap, h.base.len, cell_of_heap h1 rfl, cell_of_heap h2 rfl, cell_of_heap h2 rfl, cell_of_heap h2 rfl, ?_, ?_, ?_, ?_, ⟨cell_of_heap hcw' rfl, by simp [World.frozen?, hcw'], h.cwge⟩, ?_, fun hl => (h.fld hl).1, h6, h7⟩
  · intro i c hi
    refine cell_of_heap hh ?_
    have hi2 : i < l0 + 1 := by
      have := (List.getElem?_eq_some_iff.1 hi).1
      simp [h.base.len] at this; omega
    have e1 : (cur.toList.take ((l0 + 1) * 1))[i]? = some (ptr c) := by
      rw [htk, List.getElem?_map, hi]; rfl
    rw [List.getElem?_take_of_lt (by omega)] at e1
    simpa [ptr] using e1
  · intro i c hi
    exact cell_of_heap hbw' (by simp [hi, ptr])
  · intro i c hi
    have hc := h4 i c hi
    exact ⟨cell_of_heap hc rfl, cell_of_heap hc rfl, cell_of_heap hc rfl, cell_of_heap hc rfl⟩
  · exact ⟨cell_of_heap h5 rfl, cell_of_heap h5 rfl, cell_of_heap h5 rfl, cell_of_heap h5 rfl, cell_of_heap h5 rfl, cell_of_heap h5 rfl⟩
  · intro i hi
    exact cell_of_heap (hfl (by omega)) (by simpa using strCells_at hi)

theorem Inv3.alike {w W W' : World} {acks tag : Int} {s0 s3 : Nat → ByteArray} {l0 l3 : Nat} {cs : List Nat} {bw cw g3 : Nat} {fa : Option Addr} {name : ByteArray} {par : Int} {f : Value} {g cap nc : Nat}
    (h : Inv3 w acks tag s0 l0 cs bw cw fa g3 l3 s3 name par f g cap nc W) (hh : W'.heap = W.heap) (hos : W'.os = W.os) (htp : W'.tape = W.tape) (hout : W'.output = W.output) :
    Inv3 w acks tag s0 l0 cs bw cw fa g3 l3 s3 name par f g cap nc W' := by
  have hc : ∀ a, W'.cell? a = W.cell? a := fun a => World.cell?_of_block (w := W) (by rw [hh])
  have hf : ∀ a, W'.frozen? a = W.frozen? a := fun a => World.frozen?_of_block (w := W) (by rw [hh])
  obtain ⟨k1, k2, k3, k4, k5, k6, k7, k8, k9, k10, k11, k12, k13, k14⟩ := h
  refine ⟨k1, ?_, ?_, ?_, ?_, ?_, ?_, ?_, ?_, ?_, ?_, k12, k13.trans ⟨hos, htp, hout, by rw [hh]; exact Nat.le_refl _, fun _ _ => by rw [hh]⟩, by rw [hh]; exact k14⟩ <;> simp only [hc, hf] <;> assumption

theorem row_cell {w : World} {base n : Nat} {va : Option Addr} {vc : Nat} {xs : List Value} (h : w.ownsRow base 43 1 (.slice va n vc) n xs) (hn : 0 < n) : ∃ ad, va = some ad ∧ ∀ j u, xs[j]? = some u → w.cell? (ad.add j) = some u := by
  rcases h.2 with ⟨_, hn0⟩ | ⟨g, cap, cur, hv, hg, hh, hle, hm, hcs, htk⟩
  · omega
  · injection hv with h1 h2 h3
    subst h1
    refine ⟨_, rfl, fun j u hj => ?_⟩
    have hj2 : j < n * 1 := by
      have := (List.getElem?_eq_some_iff.1 hj).1
      rw [h.1] at this; exact this
    rw [← htk, List.getElem?_take_of_lt hj2] at hj
    rw [Go.WideShapes.add_plain]
    exact cell_of_heap hh (by simpa using hj)

theorem ptrs_one (cs : List Nat) : ∀ v ∈ cs.map ptr, v.oneCell' = true := by
  intro v hv
  simp at hv
  obtain ⟨c, _, rfl⟩ := hv
  rfl

theorem src_cells {w wr w2 : World} {acks tag : Int} {s0 s3 : Nat → ByteArray} {l0 l3 c3 b3 o3 : Nat} {v : Value} {cs : List Nat} {M : Array Value} {a3 : Option Addr} (h3 : StrsIn w a3 l3 c3 b3 o3 s3) (h : Base w acks tag s0 l0 v cs wr)
    (hu : Upd (wr.alloc (.cells M 43)) w2 wr.heap.size) (O O2 : Obj) (hl : 0 < l3) : ∃ ad, a3 = some ad ∧ ∀ j u, (strCells s3 l3)[j]? = some u → ((w2.alloc O).alloc O2).cell? (ad.add j) = some u := by
  obtain ⟨hb, ha⟩ := h3.blk hl
  refine ⟨_, ha, fun j u hj => ?_⟩
  obtain ⟨hj2, rfl⟩ := strCells_get hj
  rw [Go.WideShapes.add_plain, ← h3.cell j hj2]
  refine World.cell?_of_block (w := w) ?_
  have hz : w2.heap.size = wr.heap.size + 1 := by rw [hu.size]; simp
  have hz2 := h.size
  show ((w2.alloc O).alloc O2).heap[b3]? = w.heap[b3]?
  rw [Below.heap_alloc _ _ _ (by simp; omega), Below.heap_alloc _ _ _ (by omega), hu.block _ (by omega), Below.heap_alloc _ _ _ (by omega)]
  exact h.below.block _ hb


theorem neq43 (a : Addr) (w : World) : (binOp .neq 43 (.pointer (some a)) (.pointer (some a))).run Yba.prog w = .ok (.bool false) w := by
  have h : (Yba.prog.info? 47).isSome = true := by kernel_rfl
  obtain ⟨j, hj⟩ := Option.isSome_iff_exists.1 h
  exact Lib.run_neq_ptr_same w a Yba.underlying43 hj

theorem neq42 (w : World) : (binOp .neq 42 .nilFunc .nilFunc).run Yba.prog w = .ok (.bool false) w := by
  have h : ∀ d : Nat, (Op.equalIn (d + 1) 42 .nilFunc .nilFunc).run Yba.prog w = .ok true w := fun d => by
    simp [Op.equalIn, run_underlying Yba.underlying42]
  simp only [binOp]
  simp [Op.equal, Op.maxDepth, h 9999]
theorem neq44 (w : World) : (binOp .neq 44 .nilFunc .nilFunc).run Yba.prog w = .ok (.bool false) w := by
  have h : ∀ d : Nat, (Op.equalIn (d + 1) 44 .nilFunc .nilFunc).run Yba.prog w = .ok true w := fun d => by
    simp [Op.equalIn, run_underlying Yba.underlying44]
  simp only [binOp]
  simp [Op.equal, Op.maxDepth, h 9999]
theorem eql42 (f : Fn) (x y : Array Value) (w : World) : (binOp .eql 42 (.func f x y) .nilFunc).run Yba.prog w = .ok (.bool false) w := by
  have h : ∀ d : Nat, (Op.equalIn (d + 1) 42 (.func f x y) .nilFunc).run Yba.prog w = .ok false w := fun d => by
    simp [Op.equalIn, run_underlying Yba.underlying42]
  simp only [binOp]
  simp [Op.equal, Op.maxDepth, h 9999]
end Go.Proofs.Ybulkpoi
