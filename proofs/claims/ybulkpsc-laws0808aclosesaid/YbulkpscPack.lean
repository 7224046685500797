/-
  The contract of pack (15).
-/
import Derived.Test.YbulkpscRead
import Derived.Deep.OwnRows
namespace Go.Proofs.Ybulkpsc
open Go.RowKit

def wordArr (N nw : Nat) : Array Value := ((List.range nw).map fun i => Value.int .u64 (word N i)).toArray
theorem wordArr_get {N nw i : Nat} (h : i < nw) : (wordArr N nw)[i]? = some (.int .u64 (word N i)) := by simp [wordArr, h]
theorem wordArr_size (N nw : Nat) : (wordArr N nw).size = nw := by simp [wordArr]
theorem wordArr_ext {C : Array Value} {N nw : Nat} (hs : C.size = nw) (h : ∀ i, i < nw → C[i]? = some (.int .u64 (word N i))) : C = wordArr N nw := by
  apply Array.ext_getElem?
  intro i
  by_cases hi : i < nw
  · rw [h i hi, wordArr_get hi]
  · rw [Array.getElem?_eq_none (by omega), Array.getElem?_eq_none (by rw [wordArr_size]; omega)]

/-- what stands in memory at the head of pack's round -/
structure PInv (w : World) (wd nw N : Nat) (wr : World) : Prop where
  c : wr.heap[w.heap.size + 1]? = some (.cells #[.int .u32 wd, .slice (some ⟨w.heap.size + 1 + 1, 0, none⟩) nw nw] 28)
  g : wr.heap[w.heap.size + 1 + 1]? = some (.cells (wordArr N nw) 25)
  r : wr.heap[w.heap.size]? = some (.cells #[.int .u32 0, .slice none 0 0] 28)
  below : Below w.heap.size w wr
  size : w.heap.size + 3 ≤ wr.heap.size

theorem cell_of_heap {W : World} {b : Nat} {C : Array Value} {t : TypeId} {j : Nat} {u : Value} (h : W.heap[b]? = some (.cells C t)) (hj : C[j]? = some u) : W.cell? ⟨b, j, none⟩ = some u := by
  simp [World.cell?, h, hj]
theorem lt_of_heap {W : World} {b : Nat} {o : Obj} (h : W.heap[b]? = some o) : b < W.heap.size := (Array.getElem?_eq_some_iff.1 h).1
theorem heap_new (w : World) (o : Obj) : (w.alloc o).heap[w.heap.size]? = some o := by
  show (w.heap.push _)[w.heap.size]? = _
  simp

theorem heap_put {W : World} {b j : Nat} {C : Array Value} {t : TypeId} (v : Value) (h : W.heap[b]? = some (.cells C t)) : (W.setCell ⟨b, j, none⟩ v).heap[b]? = some (.cells (C.setIfInBounds j v) t) := by
  simp [World.setCell, Array.getElem?_modify, h]

/-- one store -/
theorem PInv.put {w wr : World} {wd nw N N' q : Nat} {v : Int} (h : PInv w wd nw N wr) (hv : v = (word N' q : Nat)) (ho : ∀ i, i < nw → i ≠ q → word N' i = word N i) : PInv w wd nw N' (wr.setCell ⟨w.heap.size + 1 + 1, q, none⟩ (.int .u64 v)) := by
  have hoth : ∀ k, k ≠ w.heap.size + 1 + 1 → (wr.setCell ⟨w.heap.size + 1 + 1, q, none⟩ (.int .u64 v)).heap[k]? = wr.heap[k]? := fun k hk => Below.heap_setCell _ _ _ _ hk
  refine ⟨by rw [hoth _ (by omega)]; exact h.c, ?_, by rw [hoth _ (by omega)]; exact h.r, h.below.setCell (p := ⟨w.heap.size + 1 + 1, q, none⟩) (by simp; omega) _, by simp [World.setCell]; exact h.size⟩
  rw [heap_put _ h.g]
  congr 1
  congr 1
  apply wordArr_ext
  · simp [wordArr_size]
  · intro i hi
    rw [Array.getElem?_setIfInBounds]
    by_cases e : q = i
    · subst e
      rw [if_pos rfl, if_pos (by rw [wordArr_size]; exact hi), hv]
    · rw [if_neg e, wordArr_get hi, ho i hi (Ne.symm e)]

theorem or_hit {N t A q r : Nat} (hN : N < 2 ^ A) (hq : q = A / 64) (hr : r = A % 64) : bits .or .u64 ((word N q : Nat) : Int) (IntKind.u64.wrap ((t : Int) * 2 ^ r)) = ((word (N + t * 2 ^ A) q : Nat) : Int) := by
  have h2 : t * 2 ^ r % 2 ^ 64 < 18446744073709551616 := Nat.mod_lt _ (by decide)
  rw [wrapShl, u64_or_nat _ _ (word_lt N q) h2, hq, hr, word_hit hN]

theorem or_next {N t A q r wd : Nat} (hN : N < 2 ^ A) (ht : t < 2 ^ wd) (hw : wd ≤ 31) (hq : q = A / 64) (hr : r = A % 64) : bits .or .u64 ((word N (q + 1) : Nat) : Int) ((t : Int) / 2 ^ (64 - r)) = ((word (N + t * 2 ^ A) (q + 1) : Nat) : Int) := by
  have hp := pow_lt31 hw
  have h1 : t / 2 ^ (64 - r) < 18446744073709551616 := Nat.lt_of_le_of_lt (Nat.div_le_self _ _) (by omega)
  obtain ⟨e1, e2⟩ := word_next (t := t) hN
  rw [castDiv, u64_or_nat _ _ (word_lt N _) h1, hq, hr, e1, e2, Nat.zero_or, Nat.mod_eq_of_lt (a := t / 2 ^ (64 - A % 64)) (b := 2 ^ 64) (by rw [← hr]; exact h1)]

theorem mid_word {N t A q r wd : Nat} (hN : N < 2 ^ A) (ht : t < 2 ^ wd) (hq : q = A / 64) (hr : r = A % 64) (h64 : r + wd ≤ 64) : word (N + t * 2 ^ A) (q + 1) = word N (q + 1) := by
  obtain ⟨e1, e2⟩ := word_next (t := t) hN
  have h : t / 2 ^ (64 - A % 64) = 0 := by
    rw [← hr]
    exact Nat.div_eq_of_lt (Nat.lt_of_lt_of_le ht (Nat.pow_le_pow_right (by omega) (by omega)))
  rw [hq, e1, e2, h]

/-- a target that goes into one word -/
theorem PInv.one {w wr : World} {wd nw N t A q r : Nat} (h : PInv w wd nw N wr) (hN : N < 2 ^ A) (ht : t < 2 ^ wd) (hw : wd ≤ 31) (hq : q = A / 64) (hr : r = A % 64) (h64 : r + wd ≤ 64) :
    PInv w wd nw (N + t * 2 ^ A) (wr.setCell ⟨w.heap.size + 1 + 1, q, none⟩ (.int .u64 (bits .or .u64 ((word N q : Nat) : Int) (IntKind.u64.wrap ((t : Int) * 2 ^ r))))) := by
  refine h.put (or_hit hN hq hr) fun i _ hne => ?_
  by_cases h1 : i < q
  · exact word_lo (by omega)
  · by_cases h2 : i = q + 1
    · subst h2; exact mid_word hN ht hq hr h64
    · obtain ⟨a, b⟩ := word_hi (i := i) hN ht (by omega) (by omega)
      rw [a, b]

/-- a target that goes into two -/
theorem PInv.two {w wr : World} {wd nw N t A q r : Nat} (h : PInv w wd nw N wr) (hN : N < 2 ^ A) (ht : t < 2 ^ wd) (hw : wd ≤ 31) (hq : q = A / 64) (hr : r = A % 64) :
    PInv w wd nw (N + t * 2 ^ A) ((wr.setCell ⟨w.heap.size + 1 + 1, q, none⟩ (.int .u64 (bits .or .u64 ((word N q : Nat) : Int) (IntKind.u64.wrap ((t : Int) * 2 ^ r))))).setCell ⟨w.heap.size + 1 + 1, q + 1, none⟩ (.int .u64 (bits .or .u64 ((word N (q + 1) : Nat) : Int) ((t : Int) / 2 ^ (64 - r))))) := by
  have e1 := or_hit (t := t) hN hq hr
  have e2 := or_next hN ht hw hq hr
  have hoth : ∀ k, k ≠ w.heap.size + 1 + 1 → ((wr.setCell ⟨w.heap.size + 1 + 1, q, none⟩ (.int .u64 (bits .or .u64 ((word N q : Nat) : Int) (IntKind.u64.wrap ((t : Int) * 2 ^ r))))).setCell ⟨w.heap.size + 1 + 1, q + 1, none⟩ (.int .u64 (bits .or .u64 ((word N (q + 1) : Nat) : Int) ((t : Int) / 2 ^ (64 - r))))).heap[k]? = wr.heap[k]? := fun k hk => by
    rw [Below.heap_setCell _ _ _ _ hk, Below.heap_setCell _ _ _ _ hk]
  refine ⟨by rw [hoth _ (by omega)]; exact h.c, ?_, by rw [hoth _ (by omega)]; exact h.r, (h.below.setCell (p := ⟨w.heap.size + 1 + 1, q, none⟩) (by simp; omega) _).setCell (p := ⟨w.heap.size + 1 + 1, q + 1, none⟩) (by simp; omega) _, by simp [World.setCell]; exact h.size⟩
  rw [heap_put _ (heap_put _ h.g)]
  congr 1
  congr 1
  apply wordArr_ext
  · simp [wordArr_size]
  · intro i hi
    rw [Array.getElem?_setIfInBounds]
    by_cases c2 : q + 1 = i
    · subst c2
      rw [if_pos rfl, if_pos (by simp [wordArr_size]; omega), e2]
    · rw [if_neg c2, Array.getElem?_setIfInBounds]
      by_cases c1 : q = i
      · subst c1
        rw [if_pos rfl, if_pos (by rw [wordArr_size]; exact hi), e1]
      · rw [if_neg c1, wordArr_get hi]
        by_cases h1 : i < q
        · rw [word_lo (by omega)]
        · obtain ⟨a, b⟩ := word_hi (i := i) hN ht (by omega) (by omega)
          rw [a, b]

theorem info25 : (Yba.prog.info? 25).map (fun i => (i.zero, i.size, i.bytes)) = some (some (.int .u64 0), 1, 8) := by kernel_rfl
theorem mk26 (n : Nat) (h : n ≤ 1000) (w : World) : (Instr.makeSlice 26 (.int .i64 n) (.int .i64 n)).run Yba.prog w = .ok (.slice (some ⟨w.heap.size, 0, none⟩) n n) (w.alloc (.cells (wordArr 0 n) 25)) := by
  have e : madeCells #[Value.int .u64 0] n = wordArr 0 n := by
    apply wordArr_ext (size_madeCells _ _)
    intro i hi
    simp [madeCells, hi, Nat.mod_one, word]
  rw [← e]
  exact run_make_row' 26 25 (.int .u64 0) 8 Yba.underlying26 info25 rfl .i64 .i64 n (by omega) (by omega) w

theorem len32_any (x : Nat) (w : World) (h : x < 4294967296) : Calls Yba.prog 16 #[.int .u32 x] w fun e w' => e = .returned (.int .i64 (Lib.bitLen x)) ∧ w' = w := by
  have := Yba.bits_Len32 (x : Int) w (by omega) (by omega)
  simpa using this

theorem pinv_start (w : World) (wd nw : Nat) : PInv w wd nw 0 (((w.alloc (.cells #[.int .u32 0, .slice none 0 0] 28)).alloc (.cells #[.int .u32 wd, .slice (some ⟨w.heap.size + 1 + 1, 0, none⟩) nw nw] 28)).alloc (.cells (wordArr 0 nw) 25)) := by
  refine ⟨?_, ?_, ?_, (((Below.refl _ _).alloc (Nat.le_refl _) _).alloc (by simp) _).alloc (by simp; omega) _, by simp⟩
  · rw [Below.heap_alloc _ _ _ (by simp)]
    simpa using heap_new (w.alloc (.cells #[.int .u32 0, .slice none 0 0] 28)) (.cells #[.int .u32 wd, .slice (some ⟨w.heap.size + 1 + 1, 0, none⟩) nw nw] 28)
  · simpa using heap_new ((w.alloc (.cells #[.int .u32 0, .slice none 0 0] 28)).alloc (.cells #[.int .u32 wd, .slice (some ⟨w.heap.size + 1 + 1, 0, none⟩) nw nw] 28)) (.cells (wordArr 0 nw) 25)
  · rw [Below.heap_alloc _ _ _ (by simp; omega), Below.heap_alloc _ _ _ (by simp)]
    exact heap_new _ _

/-- what pack hands back -/
def Packed (w : World) (n : Nat) (f : Nat → Nat) (e : Ending) (w' : World) : Prop :=
  ∃ g, e = .returned (.agg #[.int .u32 (wide f n), .slice (some ⟨g, 0, none⟩) (nwords n (wide f n)) (nwords n (wide f n))]) ∧ w.heap.size ≤ g ∧
    w'.heap[g]? = some (.cells (wordArr (NN f (wide f n) n) (nwords n (wide f n))) 25) ∧ Below w.heap.size w w'

set_option maxHeartbeats 1000000 in
theorem pack_any (w : World) (fa : Option Addr) (n g : Nat) (f : Nat → Nat) (h : FillIn w fa n g f) (hn : 1 ≤ n) :
    Calls Yba.prog 15 #[.slice fa n n] w (Packed w n f) := by
  have hnl := h.nle
  obtain ⟨hw1, hw2, hbl⟩ := wide_bd h.bd n
  have hmx : mxTo f n < 2147483648 := mxTo_lt (by omega) h.bd n
  obtain ⟨wd, hwd⟩ : ∃ wd, wd = wide f n := ⟨_, rfl⟩
  rw [← hwd] at hw1 hw2
  obtain ⟨P, hP⟩ : ∃ P, P = n * wd := ⟨_, rfl⟩
  obtain ⟨nw, hnw⟩ : ∃ nw, nw = nwords n wd := ⟨_, rfl⟩
  have hPl : P ≤ 31744 := by rw [hP]; exact Nat.mul_le_mul hnl hw2
  have k1 : max (1 : Int) (Lib.bitLen (mxTo f n) : Nat) = (wd : Int) := by rw [hwd, wide, castMax]; rfl
  have k2 : (n : Int) * (wd : Int) = (P : Int) := by rw [hP]; simp
  have k3 : ((P : Int) + 63) / 64 = (nw : Int) := by rw [hnw, nwords, ← hP]; omega
  have k4 : (P : Int) ≤ 31744 := by omega
  have hnw1 : nw ≤ 1000 := by rw [hnw, nwords, ← hP]; omega
  have hmk := mk26 nw hnw1
  have Hwd : Hid (wd = wide f n) := hwd
  have Hnw : Hid (nw = nwords n wd) := hnw
  clear hwd hnw hP
  have hb : ∀ (O : Obj), FillIn (w.alloc O) fa n g f := fun O => ⟨h.ix, fun k hk => by rw [World.cell?_alloc_lt _ _ _ (h.head (by omega)).2]; exact h.cell k hk, h.bd, h.nle, fun hn => ⟨(h.head hn).1, by have := (h.head hn).2; simp; omega⟩⟩
  go_enter Yba.func15, Yba.ntmps15
  go_wp2_with fail
  refine (max_any _ fa n g f (hb _) hn).mono ?_
  rintro e w1 ⟨rfl, hw⟩
  subst hw
  go_wp2_with fail
  refine (len32_any _ _ (by omega)).mono ?_
  rintro e w1 ⟨rfl, hw⟩
  subst hw
  go_wp2_with fail
  have hfit : ∀ j, j < n → f j < 2 ^ wd := fun j hj => by rw [Hwd.out]; exact wide_fits h.bd hj
  have Hfit : Hid (∀ j, j < n → f j < 2 ^ wd) := hfit
  clear hfit hb k1 k2 k3 hmk hbl hmx
  go_loopw [26] (fun i wr => ∃ k : Nat, k ≤ n ∧ i = .int .i64 k ∧ PInv w wd nw (NN f wd k) wr) (fun i _ => n - (intOf i).toNat)
  case atStart => exact ⟨0, Nat.zero_le _, rfl, pinv_start w wd nw⟩
  case round =>
    obtain ⟨k, hk, rfl, hI⟩ := hrel
    by_cases hlt : k < n
    · have hck : wr.cell? ⟨g, k, none⟩ = some (.int .i32 (f k)) := by rw [hI.below.cell (p := ⟨g, k, none⟩) (h.head (by omega)).2]; exact h.cell k hlt
      have hix := h.ix
      have hc0 : wr.cell? ⟨w.heap.size + 1, 0, none⟩ = some (.int .u32 wd) := cell_of_heap hI.c rfl
      have hc1 : wr.cell? ⟨w.heap.size + 1, 1, none⟩ = some (.slice (some ⟨w.heap.size + 1 + 1, 0, none⟩) nw nw) := cell_of_heap hI.c rfl
      have hfz : ∀ j, wr.frozen? ⟨w.heap.size + 1 + 1, j, none⟩ = false := fun j => by simp [World.frozen?, hI.g]
      have hT := Hfit.out k hlt
      have ht31 := h.bd k
      have HN := NN_lt (f := f) (wd := wd) (k := k) fun j hj => Hfit.out j (by omega)
      have HS : Hid (NN f wd (k + 1) = NN f wd k + f k * 2 ^ (k * wd)) := rfl
      have hAl := at_lt hnl hw2 hlt
      have hq1 := in_words hlt hw1
      have hq2 := in_words2 (wd := wd) hlt
      rw [← Hnw.out] at hq1 hq2
      obtain ⟨A, hA⟩ : ∃ A, A = k * wd := ⟨_, rfl⟩
      have m1 : IntKind.u32.wrap ((k : Int) * (wd : Int)) = (A : Int) := by
        have : (k : Int) * (wd : Int) = (A : Int) := by rw [hA]; simp
        rw [this, IntKind.wrap_u32]; omega
      rw [← hA] at HN HS hAl hq1 hq2
      obtain ⟨q, hq⟩ : ∃ q, q = A / 64 := ⟨_, rfl⟩
      obtain ⟨r, hr⟩ : ∃ r, r = A % 64 := ⟨_, rfl⟩
      rw [← hq] at hq1 hq2
      rw [← hr] at hq2
      obtain ⟨N, hNe⟩ : ∃ N, N = NN f wd k := ⟨_, rfl⟩
      obtain ⟨t, hte⟩ : ∃ t, t = f k := ⟨_, rfl⟩
      rw [← hNe, ← hte] at HS
      rw [← hNe] at HN hI
      rw [← hte] at hT ht31 hck
      have hcq : wr.cell? ⟨w.heap.size + 1 + 1, q, none⟩ = some (.int .u64 (word N q)) := cell_of_heap hI.g (wordArr_get hq1)
      have m2 : (A : Int) / 64 = (q : Int) := by omega
      have m3 : (A : Int) % 64 = (r : Int) := by omega
      have m4 : (r : Int) ≤ 64 := by omega
      have m6 : IntKind.u32.wrap ((r : Int) + (wd : Int)) = (r : Int) + wd := by rw [IntKind.wrap_u32]; omega
      have m10 : (q : Int) < nw := by omega
      have Hq : Hid (q = A / 64) := hq
      have Hr : Hid (r = A % 64) := hr
      have HT : Hid (t < 2 ^ wd) := hT
      have HN' : Hid (N < 2 ^ A) := HN
      have m11 : IntKind.u64.wrap (t : Int) = t := by rw [IntKind.wrap_u64]; omega
      by_cases h64 : r + wd ≤ 64
      · have m7 : (r : Int) + wd ≤ 64 := by omega
        have R := hI.one HN hT hw2 hq hr h64
        have HR : Hid (PInv w wd nw (N + t * 2 ^ A) _) := R
        clear R hI hq hr hA hNe hte HN hT hq2 ht31
        go_wp2
        go_roundw
        case rel => exact ⟨k + 1, by omega, by go_num, by rw [HS.out]; exact HR.out⟩
        case measure => simp [intOf]; omega
      · have m7 : 64 < (r : Int) + wd := by omega
        have hq3 := hq2 (by omega)
        have hcq1 : wr.cell? ⟨w.heap.size + 1 + 1, q + 1, none⟩ = some (.int .u64 (word N (q + 1))) := cell_of_heap hI.g (wordArr_get hq3)
        have m12 : IntKind.u32.wrap ((q : Int) + 1) = ((q + 1 : Nat) : Int) := by rw [IntKind.wrap_u32]; omega
        have m13 : ((q + 1 : Nat) : Int) < nw := by omega
        have m14 : IntKind.u32.wrap (64 - (r : Int)) = ((64 - r : Nat) : Int) := by rw [IntKind.wrap_u32]; omega
        have m15 : ((64 - r : Nat) : Int) ≤ 64 := by omega
        have R := hI.two HN hT hw2 hq hr
        have HR : Hid (PInv w wd nw (N + t * 2 ^ A) _) := R
        clear R hI hq hr hA hNe hte HN hT hq2 ht31
        go_wp2
        go_roundw
        case rel => exact ⟨k + 1, by omega, by go_num, by rw [HS.out]; exact HR.out⟩
        case measure => simp [intOf]; omega
    · obtain rfl : k = n := by omega
      have hc0 : wr.cell? ⟨w.heap.size + 1, 0, none⟩ = some (.int .u32 wd) := cell_of_heap hI.c rfl
      have hc1 : wr.cell? ⟨w.heap.size + 1, 1, none⟩ = some (.slice (some ⟨w.heap.size + 1 + 1, 0, none⟩) nw nw) := cell_of_heap hI.c rfl
      have hr0 : wr.cell? ⟨w.heap.size, 0, none⟩ = some (.int .u32 0) := cell_of_heap hI.r rfl
      have hr1 : wr.cell? ⟨w.heap.size, 1, none⟩ = some (.slice none 0 0) := cell_of_heap hI.r rfl
      have hfr : ∀ j, wr.frozen? ⟨w.heap.size, j, none⟩ = false := fun j => by simp [World.frozen?, hI.r]
      have R : Packed w k f (.returned (.agg #[.int .u32 wd, .slice (some ⟨w.heap.size + 1 + 1, 0, none⟩) nw nw])) ((wr.setCell ⟨w.heap.size, 0, none⟩ (.int .u32 wd)).setCell ⟨w.heap.size, 1, none⟩ (.slice (some ⟨w.heap.size + 1 + 1, 0, none⟩) nw nw)) := by
        obtain rfl := Hwd.out
        obtain rfl := Hnw.out
        refine ⟨w.heap.size + 1 + 1, rfl, by omega, ?_, (hI.below.setCell (p := ⟨w.heap.size, 0, none⟩) (Nat.le_refl _) _).setCell (p := ⟨w.heap.size, 1, none⟩) (Nat.le_refl _) _⟩
        rw [Below.heap_setCell _ _ _ _ (by simp; omega), Below.heap_setCell _ _ _ _ (by simp; omega)]
        exact hI.g
      have HR : Hid (Packed w k f _ _) := R
      clear R hI h Hfit Hwd Hnw
      go_wp2
      exact bodyPost_ret (v := .agg #[.int .u32 wd, .slice (some ⟨w.heap.size + 1 + 1, 0, none⟩) nw nw]) (by simp [results, Yba.results15, go_sem, hr0, hr1]) rfl HR.out
end Go.Proofs.Ybulkpsc
