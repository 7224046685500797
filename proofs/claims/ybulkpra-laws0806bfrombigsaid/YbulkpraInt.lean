/-
  Contracts on *big.Int: NewInt (5), Lsh (4), Set (7), Neg (6).
-/
import Derived.Test.YbulkpraShift
import Derived.Deep.RegionWith
import Derived.LaidEqlPtr
namespace Go.Proofs.Ybulkpra
open Go.RowKit

/-- a big.Int at block X: its sign, its words -/
structure IntAt (w : World) (X : Nat) (neg : Bool) (a : Option Addr) (n c g : Nat) (ws : Nat → Int) : Prop where
  blk : w.heap[X]? = some (.cells #[.bool neg, .slice a n c] 27)
  nat : NatIn w a n c g ws
  nil : n = 0 → a = none ∧ c = 0

/-- block Z alone has turned among those that were there -/
structure Kept (Z : Nat) (w w' : World) : Prop where
  os : w'.os = w.os
  tape : w'.tape = w.tape
  output : w'.output = w.output
  size : w.heap.size ≤ w'.heap.size
  block : ∀ k, k < w.heap.size → k ≠ Z → w'.heap[k]? = w.heap[k]?

theorem Kept.below {Z B : Nat} {w0 w w' : World} (h : Kept Z w w') (hb : Below B w0 w) (h1 : B ≤ Z) (h2 : B ≤ w.heap.size) : Below B w0 w' :=
  hb.trans ⟨h.os, h.tape, h.output, h.size, fun k hk => h.block k (by omega) (by omega)⟩

theorem cell_of_heap {W : World} {b : Nat} {C : Array Value} {t : TypeId} {j : Nat} {u : Value} (h : W.heap[b]? = some (.cells C t)) (hj : C[j]? = some u) : W.cell? ⟨b, j, none⟩ = some u := by
  simp [World.cell?, h, hj]
theorem lt_of_heap {W : World} {b : Nat} {o : Obj} (h : W.heap[b]? = some o) : b < W.heap.size := (Array.getElem?_eq_some_iff.1 h).1

theorem NatIn.drew1 {w : World} {a : Option Addr} {n c g : Nat} {ws : Nat → Int} (h : NatIn w a n c g ws) : NatIn w.drew a n c g ws := ⟨h.ix, h.cell, h.bd, h.nle, h.head⟩

theorem NatIn.ne {w : World} {a : Option Addr} {n c g Z : Nat} {ws : Nat → Int} {b : Bool} (h : NatIn w a n c g ws) (hZ : w.cell? ⟨Z, 0, none⟩ = some (.bool b)) (hn : 0 < n) : g ≠ Z := by
  intro e
  have h1 := h.cell 0 hn
  rw [e, hZ] at h1
  simp at h1

theorem NatIn.kept {w w' : World} {a : Option Addr} {n c g : Nat} {ws : Nat → Int} (h : NatIn w a n c g ws) (hk : 0 < n → w'.heap[g]? = w.heap[g]?) (hs : w.heap.size ≤ w'.heap.size) : NatIn w' a n c g ws :=
  ⟨h.ix, fun k hkn => by rw [World.cell?_of_block (w := w) (hk (by omega))]; exact h.cell k hkn, h.bd, h.nle, fun hn => ⟨(h.head hn).1, Nat.lt_of_lt_of_le (h.head hn).2 hs⟩⟩

theorem IntAt.kept {w w' : World} {X Z : Nat} {neg : Bool} {a : Option Addr} {n c g : Nat} {ws : Nat → Int} (h : IntAt w X neg a n c g ws) (hk : Kept Z w w') (hXZ : X ≠ Z) (hZ : ∃ b, w.cell? ⟨Z, 0, none⟩ = some (.bool b)) : IntAt w' X neg a n c g ws := by
  obtain ⟨b, hZ⟩ := hZ
  exact ⟨by rw [hk.block X (lt_of_heap h.blk) hXZ]; exact h.blk, h.nat.kept (fun hn => hk.block g (h.nat.head hn).2 (h.nat.ne hZ hn)) hk.size, h.nil⟩

theorem IntAt.below {w w' : World} {X : Nat} {neg : Bool} {a : Option Addr} {n c g : Nat} {ws : Nat → Int} (h : IntAt w X neg a n c g ws) (hk : Below w.heap.size w w') : IntAt w' X neg a n c g ws :=
  ⟨by rw [hk.block X (lt_of_heap h.blk)]; exact h.blk, h.nat.kept (fun hn => hk.block g (h.nat.head hn).2) hk.size, h.nil⟩

/-- the two stores that fill an Int -/
theorem put2 {w w1 : World} {Z : Nat} {b neg : Bool} {s0 : Value} {a : Option Addr} {n c g : Nat} {ws : Nat → Int} (hZ : w.heap[Z]? = some (.cells #[.bool b, s0] 27)) (hb : Below w.heap.size w.drew w1) (hN : NatIn w1 a n c g ws) (hnil : n = 0 → a = none ∧ c = 0) :
    IntAt ((w1.setCell ⟨Z, 1, none⟩ (.slice a n c)).setCell ⟨Z, 0, none⟩ (.bool neg)) Z neg a n c g ws ∧ Kept Z w ((w1.setCell ⟨Z, 1, none⟩ (.slice a n c)).setCell ⟨Z, 0, none⟩ (.bool neg)) := by
  have hz := lt_of_heap hZ
  have h1 : w1.heap[Z]? = some (.cells #[.bool b, s0] 27) := by rw [hb.block Z hz]; exact hZ
  have hoth : ∀ k, k ≠ Z → ((w1.setCell ⟨Z, 1, none⟩ (.slice a n c)).setCell ⟨Z, 0, none⟩ (.bool neg)).heap[k]? = w1.heap[k]? := fun k hk => by
    rw [Below.heap_setCell _ _ _ _ hk, Below.heap_setCell _ _ _ _ hk]
  have hsz : ((w1.setCell ⟨Z, 1, none⟩ (.slice a n c)).setCell ⟨Z, 0, none⟩ (.bool neg)).heap.size = w1.heap.size := by simp [World.setCell]
  have hw1 := hb.size
  refine ⟨⟨?_, hN.kept (fun hn => hoth g (hN.ne (cell_of_heap h1 rfl) hn)) (by omega), hnil⟩, hb.os, hb.tape, hb.output, by rw [hsz]; exact hb.size, fun k hk hkZ => ?_⟩
  · simp [World.setCell, Array.getElem?_modify, h1]
  · rw [hoth k hkZ, hb.block k hk]
    rfl

theorem put1 {w : World} {Z : Nat} {b neg : Bool} {a : Option Addr} {n c g : Nat} {ws : Nat → Int} (hZ : IntAt w Z b a n c g ws) :
    IntAt (w.setCell ⟨Z, 0, none⟩ (.bool neg)) Z neg a n c g ws ∧ Kept Z w (w.setCell ⟨Z, 0, none⟩ (.bool neg)) := by
  have hoth : ∀ k, k ≠ Z → (w.setCell ⟨Z, 0, none⟩ (.bool neg)).heap[k]? = w.heap[k]? := fun k hk => Below.heap_setCell _ _ _ _ hk
  refine ⟨⟨?_, hZ.nat.kept (fun hn => hoth g (hZ.nat.ne (cell_of_heap hZ.blk rfl) hn)) (by simp [World.setCell]), hZ.nil⟩, rfl, rfl, rfl, by simp [World.setCell], fun k _ hkZ => hoth k hkZ⟩
  simp [World.setCell, Array.getElem?_modify, hZ.blk]

theorem Lsh_any (w : World) (Z X : Nat) (neg : Bool) (a : Option Addr) (n c g : Nat) (ws : Nat → Int) (hZ : w.heap[Z]? = some (.cells #[.bool false, .slice none 0 0] 27)) (hX : IntAt w X neg a n c g ws) (_hXZ : X ≠ Z) (hn : n ≤ 1) (hu : n = 1 → ws 0 ≠ 0) (s : Nat) (hs : s ≤ 69) :
    Calls Yba.prog 4 #[.pointer (some ⟨Z, 0, none⟩), .pointer (some ⟨X, 0, none⟩), .int .u64 s] w fun e w' =>
      ∃ a' n' c' g' ws', e = .returned (.pointer (some ⟨Z, 0, none⟩)) ∧ IntAt w' Z neg a' n' c' g' ws' ∧ Num n' ws' (low n ws * 2 ^ s) ∧ Kept Z w w' := by
  have z0 : w.cell? ⟨Z, 0, none⟩ = some (.bool false) := cell_of_heap (j := 0) hZ rfl
  have z1 : w.cell? ⟨Z, 1, none⟩ = some (.slice none 0 0) := cell_of_heap (j := 1) hZ rfl
  have x0 : w.cell? ⟨X, 0, none⟩ = some (.bool neg) := cell_of_heap (j := 0) hX.blk rfl
  have x1 : w.cell? ⟨X, 1, none⟩ = some (.slice a n c) := cell_of_heap (j := 1) hX.blk rfl
  have hz := lt_of_heap hZ
  have hx := lt_of_heap hX.blk
  have zf : ∀ j, w.frozen? ⟨Z, j, none⟩ = false := fun j => by simp [World.frozen?, hZ]
  have HZ : Hid (w.heap[Z]? = some (.cells #[.bool false, .slice none 0 0] 27)) := hZ
  have hN := hX.nat.drew1
  clear hZ
  go_enter Yba.func4, Yba.ntmps4
  go_wp2
  go_region_with (go_at_call 17; refine (lsh_any w.drew a n c g ws hN hX.nil hn hu s hs).mono ?_; rintro e w1 ⟨a', n', c', g', ws', rfl, hN', hV, hnil, hb⟩; have c1 : w1.cell? ⟨Z, 1, none⟩ = some (.slice none 0 0) := (by rw [hb.cell (p := ⟨Z, 1, none⟩) hz]; exact z1); have c2 : w1.cell? ⟨Z, 0, none⟩ = some (.bool false) := (by rw [hb.cell (p := ⟨Z, 0, none⟩) hz]; exact z0); have c3 : w1.cell? ⟨X, 0, none⟩ = some (.bool neg) := (by rw [hb.cell (p := ⟨X, 0, none⟩) hx]; exact x0); have c4 : ∀ j, w1.frozen? ⟨Z, j, none⟩ = false := (fun j => by rw [hb.frozen (p := ⟨Z, j, none⟩) hz]; exact zf j))
  all_goals
    have P := put2 (neg := neg) HZ.out hb hN' hnil
    go_wp2
    go_ret
    exact ⟨_, _, _, _, _, rfl, P.1, hV, P.2⟩

theorem neq23_same (X : Addr) (w : World) : (binOp .neq 23 (.pointer (some X)) (.pointer (some X))).run Yba.prog w = .ok (.bool false) w := by
  have h : (Yba.prog.info? 27).isSome = true := by kernel_rfl
  obtain ⟨j, hj⟩ := Option.isSome_iff_exists.1 h
  exact Lib.run_neq_ptr_same w X Yba.underlying23 hj
theorem info27 : ∃ j, Yba.prog.info? 27 = some j ∧ j.size ≠ 0 := by
  have h : (Yba.prog.info? 27).map (fun i => i.size) = some 2 := by kernel_rfl
  obtain ⟨j, hj, hs⟩ := Option.map_eq_some_iff.1 h
  exact ⟨j, hj, by omega⟩
theorem eql23_other {X Y : Nat} {w : World} {ca cb : Array Value} {ta tb : TypeId} (hne : X ≠ Y) (hX : w.heap[X]? = some (.cells ca ta)) (hY : w.heap[Y]? = some (.cells cb tb)) :
    (binOp .eql 23 (.pointer (some ⟨X, 0, none⟩)) (.pointer (some ⟨Y, 0, none⟩))).run Yba.prog w = .ok (.bool false) w := by
  obtain ⟨j, hj, hs⟩ := info27
  exact run_eql_ptr_other w Yba.underlying23 hj hs (fun h => hne (congrArg Addr.block h)) hX hY
theorem eql23_same (X : Addr) (w : World) : (binOp .eql 23 (.pointer (some X)) (.pointer (some X))).run Yba.prog w = .ok (.bool true) w := by
  obtain ⟨j, hj, hs⟩ := info27
  exact run_eql_ptr_same w X Yba.underlying23 hj
theorem neq23_other {X Y : Nat} {w : World} {ca cb : Array Value} {ta tb : TypeId} (hne : X ≠ Y) (hX : w.heap[X]? = some (.cells ca ta)) (hY : w.heap[Y]? = some (.cells cb tb)) :
    (binOp .neq 23 (.pointer (some ⟨X, 0, none⟩)) (.pointer (some ⟨Y, 0, none⟩))).run Yba.prog w = .ok (.bool true) w := by
  obtain ⟨j, hj, hs⟩ := info27
  have hne2 : (⟨X, 0, none⟩ : Addr) ≠ ⟨Y, 0, none⟩ := fun h => hne (congrArg Addr.block h)
  have h : ∀ d : Nat, (Op.equalIn (d + 1) 23 (.pointer (some ⟨X, 0, none⟩)) (.pointer (some ⟨Y, 0, none⟩))).run Yba.prog w = .ok false w := fun d => by
    simp [Op.equalIn, run_underlying Yba.underlying23, sizeOf, typeInfo, hj, hs, run_sameAddr_other w hne2 hX hY]
  simp only [binOp]
  simp [Op.equal, Op.maxDepth, h 9999]

theorem Set_any (w : World) (Z X : Nat) (neg : Bool) (a : Option Addr) (n c g : Nat) (ws : Nat → Int) (hZ : w.heap[Z]? = some (.cells #[.bool false, .slice none 0 0] 27)) (hX : IntAt w X neg a n c g ws) (hXZ : X ≠ Z) :
    Calls Yba.prog 7 #[.pointer (some ⟨Z, 0, none⟩), .pointer (some ⟨X, 0, none⟩)] w fun e w' =>
      ∃ a' c' g', e = .returned (.pointer (some ⟨Z, 0, none⟩)) ∧ IntAt w' Z neg a' n c' g' ws ∧ Kept Z w w' := by
  have z0 : w.cell? ⟨Z, 0, none⟩ = some (.bool false) := cell_of_heap (j := 0) hZ rfl
  have z1 : w.cell? ⟨Z, 1, none⟩ = some (.slice none 0 0) := cell_of_heap (j := 1) hZ rfl
  have x0 : w.cell? ⟨X, 0, none⟩ = some (.bool neg) := cell_of_heap (j := 0) hX.blk rfl
  have x1 : w.cell? ⟨X, 1, none⟩ = some (.slice a n c) := cell_of_heap (j := 1) hX.blk rfl
  have hz := lt_of_heap hZ
  have hx := lt_of_heap hX.blk
  have q := neq23_other (Ne.symm hXZ) hZ hX.blk
  have zf : ∀ j, w.frozen? ⟨Z, j, none⟩ = false := fun j => by simp [World.frozen?, hZ]
  have HZ : Hid (w.heap[Z]? = some (.cells #[.bool false, .slice none 0 0] 27)) := hZ
  have hN := hX.nat.drew1
  clear hZ
  go_enter Yba.func7, Yba.ntmps7
  go_wp2
  go_region_with (go_at_call 18; refine (set_any w.drew a n c g ws hN hX.nil).mono ?_; rintro e w1 ⟨a', c', g', rfl, hN', hb, hnil⟩; have c1 : w1.cell? ⟨Z, 1, none⟩ = some (.slice none 0 0) := (by rw [hb.cell (p := ⟨Z, 1, none⟩) hz]; exact z1); have c2 : w1.cell? ⟨Z, 0, none⟩ = some (.bool false) := (by rw [hb.cell (p := ⟨Z, 0, none⟩) hz]; exact z0); have c3 : w1.cell? ⟨X, 0, none⟩ = some (.bool neg) := (by rw [hb.cell (p := ⟨X, 0, none⟩) hx]; exact x0); have c4 : ∀ j, w1.frozen? ⟨Z, j, none⟩ = false := (fun j => by rw [hb.frozen (p := ⟨Z, j, none⟩) hz]; exact zf j))
  all_goals
    have P := put2 (neg := neg) HZ.out hb hN' hnil
    go_wp2
    go_ret
    exact ⟨_, _, _, rfl, P.1, P.2⟩

/-- c.Neg(c) -/
theorem Neg_self (w : World) (Z : Nat) (neg : Bool) (a : Option Addr) (n c g : Nat) (ws : Nat → Int) (hZ : IntAt w Z neg a n c g ws) :
    Calls Yba.prog 6 #[.pointer (some ⟨Z, 0, none⟩), .pointer (some ⟨Z, 0, none⟩)] w fun e w' =>
      e = .returned (.pointer (some ⟨Z, 0, none⟩)) ∧ IntAt w' Z (decide (0 < n) && !neg) a n c g ws ∧ Kept Z w w' := by
  have z0 : w.cell? ⟨Z, 0, none⟩ = some (.bool neg) := cell_of_heap (j := 0) hZ.blk rfl
  have z1 : w.cell? ⟨Z, 1, none⟩ = some (.slice a n c) := cell_of_heap (j := 1) hZ.blk rfl
  have zf : ∀ j, w.frozen? ⟨Z, j, none⟩ = false := fun j => by simp [World.frozen?, hZ.blk]
  have q := neq23_same
  have hn := hZ.nat.nle
  by_cases h0 : 0 < n
  · have h0' : (0 : Int) < n := by omega
    have P := put1 (neg := !neg) hZ
    have e : (decide (0 < n) && !neg) = !neg := by simp [h0]
    rw [e]
    clear e hZ
    go_enter Yba.func6, Yba.ntmps6
    go_wp2
    go_ret
    exact ⟨rfl, P.1, P.2⟩
  · have P := put1 (neg := false) hZ
    have e : (decide (0 < n) && !neg) = false := by simp [h0]
    rw [e]
    clear e hZ
    obtain rfl : n = 0 := by omega
    go_enter Yba.func6, Yba.ntmps6
    go_wp2
    go_ret
    exact ⟨rfl, P.1, P.2⟩

/-- |x|, as NewInt reckons it -/
def mag (x : Int) : Int := if x < 0 then -x else x

def NewPost (w : World) (x : Int) (e : Ending) (w' : World) : Prop :=
  ∃ X a n c g ws, e = .returned (.pointer (some ⟨X, 0, none⟩)) ∧ IntAt w' X (decide (x < 0)) a n c g ws ∧ n ≤ 1 ∧ (n = 1 → ws 0 ≠ 0) ∧ low n ws = mag x ∧ w.heap.size ≤ X ∧ Below w.heap.size w w'

theorem heap_new (w : World) (o : Obj) : (w.alloc o).heap[w.heap.size]? = some o := by
  show (w.heap.push _)[w.heap.size]? = _
  simp

theorem newInt_of (w : World) (x u : Int) (h0 : 0 ≤ u) (h1 : u ≤ 18446744073709551615) (hne : u ≠ 0) (hm : u = mag x) :
    NewPost w x (.returned (.pointer (some ⟨w.heap.size + 1, 0, none⟩))) ((w.alloc (.cells #[.int .u64 u] 39)).alloc (.cells #[.bool (decide (x < 0)), .slice (some ⟨w.heap.size, 0, none⟩) 1 1] 27)) := by
  refine ⟨_, some ⟨w.heap.size, 0, none⟩, 1, 1, w.heap.size, fun _ => u, rfl, ⟨?_, natIn_new ?_ (fun _ => ⟨h0, h1⟩) (by omega) (by simp; omega), fun h => absurd h (by omega)⟩, Nat.le_refl _, fun _ => hne, ?_, by omega, ((Below.refl _ _).alloc (Nat.le_refl _) _).alloc (by simp) _⟩
  · have h := heap_new (w.alloc (.cells #[.int .u64 u] 39)) (.cells #[.bool (decide (x < 0)), .slice (some ⟨w.heap.size, 0, none⟩) 1 1] 27)
    simpa using h
  · intro k hk
    obtain rfl : k = 0 := by omega
    refine cell_of_heap (C := #[.int .u64 u]) (t := 39) ?_ rfl
    rw [Below.heap_alloc _ _ _ (by simp)]
    exact heap_new _ _
  · simpa [low] using hm

theorem NewInt_any (w : World) (x : Int) (h1 : -9223372036854775808 ≤ x) (h2 : x ≤ 9223372036854775807) : Calls Yba.prog 5 #[.int .i64 x] w (NewPost w x) := by
  by_cases h0 : x = 0
  · subst h0
    go_enter Yba.func5, Yba.ntmps5
    go_wp2
    go_ret
    exact ⟨_, none, 0, 0, 0, fun _ => 0, rfl, ⟨heap_new _ _, natIn_nil _ _ (fun _ => by omega), fun _ => ⟨rfl, rfl⟩⟩, by omega, by omega, rfl, Nat.le_refl _, (Below.refl _ _).alloc (Nat.le_refl _) _⟩
  · by_cases hx : x < 0
    · have hz : (x == 0) = false := by simpa using h0
      have hU : IntKind.u64.wrap (-IntKind.u64.wrap x) = -x := by rw [IntKind.wrap_u64, IntKind.wrap_u64]; omega
      have hd : decide (x < 0) = true := by simpa using hx
      have P := newInt_of w x (-x) (by omega) (by omega) (by omega) (by rw [mag, if_pos hx])
      rw [hd] at P
      have HP : Hid _ := P
      clear P h0
      go_enter Yba.func5, Yba.ntmps5
      go_wp2
      go_ret
      exact HP.out
    · have hz : (x == 0) = false := by simpa using h0
      have hd : decide (x < 0) = false := by simpa using hx
      have P := newInt_of w x x (by omega) (by omega) h0 (by rw [mag, if_neg hx])
      rw [hd] at P
      have HP : Hid _ := P
      clear P h0
      go_enter Yba.func5, Yba.ntmps5
      go_wp2
      go_ret
      exact HP.out
end Go.Proofs.Ybulkpra
