/-
  Contracts of slices.Max[[]int32,int32] (19) and zzs0808adecode (9).
-/
import Derived.Test.YbulkpscChecked
import Derived.Test.YbulkpscLen
import Derived.Test.YbulkpscNum
import Derived.WalkKit
import Derived.ProofKit
import Derived.WalkSpells
import Derived.WalkLawsBesides
namespace Go.Proofs.Ybulkpsc
open Go.RowKit

/-- the slice 'fill': what each index comes to, and the targets -/
structure FillIn (w : World) (fa : Option Addr) (n g : Nat) (f : Nat → Nat) : Prop where
  ix : ∀ (k : Nat) (wx : World), k < n → (Instr.indexAt 22 (.slice fa n n) (.int .i64 k)).run Yba.prog wx = .ok (.pointer (some ⟨g, k, none⟩)) wx
  cell : ∀ k, k < n → w.cell? ⟨g, k, none⟩ = some (.int .i32 (f k))
  bd : ∀ k, f k < 2 ^ 31
  nle : n ≤ 1024
  head : 0 < n → fa = some ⟨g, 0, none⟩ ∧ g < w.heap.size

theorem ret_int {k : IntKind} {a b : Int} (h : a = b) : Ending.returned (.int k a) = .returned (.int k b) := by rw [h]

theorem castMax (a b : Nat) : ((Nat.max a b : Nat) : Int) = max (a : Int) (b : Int) := by
  show ((max a b : Nat) : Int) = _
  omega

theorem max_any (w : World) (fa : Option Addr) (n g : Nat) (f : Nat → Nat) (h : FillIn w fa n g f) (hn : 1 ≤ n) :
    Calls Yba.prog 19 #[.slice fa n n] w fun e w' => e = .returned (.int .i32 (mxTo f n)) ∧ w = w' := by
  have hix := h.ix
  have hc := h.cell
  have hnl := h.nle
  have hix0 := h.ix 0
  have hc0 := h.cell 0 (by omega)
  simp only [Int.natCast_zero] at hix0
  have hn1 : (1 : Int) ≤ n := by omega
  have hp : 0 < n := by omega
  clear h
  go_enter Yba.func19, Yba.ntmps19
  go_wp2
  go_loop [3, 4] (fun m i => ∃ k : Nat, 1 ≤ k ∧ k ≤ n ∧ i = .int .i64 k ∧ m = .int .i32 (mxTo f k)) (fun _ i => n - (intOf i).toNat)
  case atStart => exact ⟨1, by omega, hn, rfl, by simp [mxTo]⟩
  case round =>
    obtain ⟨k, hk1, hk, rfl, rfl⟩ := hrel
    by_cases hlt : k < n
    · have hck := hc k hlt
      have HS : Hid (mxTo f (k + 1) = Nat.max (mxTo f k) (f k)) := rfl
      obtain ⟨m, hm⟩ : ∃ m, m = mxTo f k := ⟨_, rfl⟩
      rw [← hm] at HS ⊢
      clear hm hc hc0
      go_wp2
      go_round
      case rel => exact ⟨k + 1, by omega, by omega, by go_num, by rw [HS.out, castMax]⟩
      case measure => simp [intOf]; omega
    · obtain rfl : k = n := by omega
      go_wp2
      go_ret
      exact ⟨rfl, rfl⟩

theorem ret_tup {a b : Int} (h : a = b) : Ending.returned (.tuple #[.int .u64 a, .bool true]) = .returned (.tuple #[.int .u64 b, .bool true]) := by rw [h]

theorem pow_lt31 {wd : Nat} (h : wd ≤ 31) : 2 ^ wd < 18446744073709551616 := Nat.lt_of_le_of_lt (Nat.pow_le_pow_right (by omega) h) (by decide)
theorem castPow (n : Nat) : (2 : Int) ^ n = ((2 ^ n : Nat) : Int) := by simp

/-- v & (1<<wd - 1) -/
theorem mask {x wd : Nat} (hx : x < 18446744073709551616) (hw : wd ≤ 31) : bits .and .u64 (x : Int) (IntKind.u64.wrap (IntKind.u64.wrap (2 ^ wd) - 1)) = ((x % 2 ^ wd : Nat) : Int) := by
  have hp := pow_lt31 hw
  have hp0 : 0 < 2 ^ wd := Nat.two_pow_pos wd
  have e : IntKind.u64.wrap (IntKind.u64.wrap (2 ^ wd) - 1) = ((2 ^ wd - 1 : Nat) : Int) := by
    rw [castPow, IntKind.wrap_u64, IntKind.wrap_u64]; omega
  rw [e, u64_and_nat x (2 ^ wd - 1) hx (by omega), Nat.and_two_pow_sub_one_eq_mod]

theorem word_lt (N i : Nat) : word N i < 18446744073709551616 := Nat.mod_lt _ (by decide)
theorem castDiv (a r : Nat) : (a : Int) / 2 ^ r = ((a / 2 ^ r : Nat) : Int) := by rw [castPow]; rfl
theorem wrapShl (a r : Nat) : IntKind.u64.wrap ((a : Int) * 2 ^ r) = ((a * 2 ^ r % 2 ^ 64 : Nat) : Int) := by
  rw [castPow, IntKind.wrap_u64]
  show ((a : Int) * ((2 ^ r : Nat) : Int)) % ((2 ^ 64 : Nat) : Int) = _
  rw [← Int.natCast_mul]
  rfl

theorem fin_a {N A q r wd : Nat} (hq : q = A / 64) (hr : r = A % 64) (hw2 : wd ≤ 31) (h64 : r + wd ≤ 64) :
    bits .and .u64 ((word N q : Nat) / 2 ^ r : Int) (IntKind.u64.wrap (IntKind.u64.wrap (2 ^ wd) - 1)) = ((N / 2 ^ A % 2 ^ wd : Nat) : Int) := by
  have hw := word_lt N q
  rw [castDiv, mask (Nat.lt_of_le_of_lt (Nat.div_le_self _ _) hw) hw2, hq, hr, dec_one (by omega)]

theorem fin_b {N A q r wd : Nat} (hq : q = A / 64) (hr : r = A % 64) (hw2 : wd ≤ 31) :
    bits .and .u64 (bits .or .u64 ((word N q : Nat) / 2 ^ r : Int) (IntKind.u64.wrap ((word N (q + 1) : Nat) * 2 ^ (64 - r) : Int))) (IntKind.u64.wrap (IntKind.u64.wrap (2 ^ wd) - 1)) = ((N / 2 ^ A % 2 ^ wd : Nat) : Int) := by
  have hw := word_lt N q
  have h1 : word N q / 2 ^ r < 18446744073709551616 := Nat.lt_of_le_of_lt (Nat.div_le_self _ _) hw
  have h2 : word N (q + 1) * 2 ^ (64 - r) % 2 ^ 64 < 18446744073709551616 := Nat.mod_lt _ (by decide)
  rw [castDiv, wrapShl, u64_or_nat _ _ h1 h2, mask (Nat.or_lt_two_pow (n := 64) h1 h2) hw2, hq, hr, dec_two (by omega)]

theorem dec_a (w : World) (g nw wd j A q r N : Nat) (hA : A = j * wd) (hq : q = A / 64) (hr : r = A % 64) (hAl : A < 31744) (hw1 : 1 ≤ wd) (hw2 : wd ≤ 31) (hj : j < 1024) (hqn : q < nw) (hnw : nw ≤ 1000) (hg : g < w.heap.size) (hc : ∀ i, i < nw → w.cell? ⟨g, i, none⟩ = some (.int .u64 (word N i))) (h64 : r + wd ≤ 64) :
    Calls Yba.prog 9 #[.agg #[.int .u32 wd, .slice (some ⟨g, 0, none⟩) nw nw], .int .i64 j] w fun e w' => e = .returned (.tuple #[.int .u64 ((N / 2 ^ A % 2 ^ wd : Nat) : Int), .bool true]) ∧ Below w.heap.size w w' := by
  have m1 : IntKind.u64.wrap ((j : Int) * (wd : Int)) = (A : Int) := by
    have : (j : Int) * (wd : Int) = (A : Int) := by rw [hA]; simp
    rw [this, IntKind.wrap_u64]; omega
  have m2 : (A : Int) / 64 = (q : Int) := by omega
  have m3 : (A : Int) % 64 = (r : Int) := by omega
  have m4 : (r : Int) ≤ 64 := by omega
  have m5 : (wd : Int) ≤ 64 := by omega
  have m6 : IntKind.u64.wrap ((r : Int) + (wd : Int)) = (r : Int) + wd := by rw [IntKind.wrap_u64]; omega
  have m7 : (r : Int) + wd ≤ 64 := by omega
  have m8 : ((wd : Int) == 0) = false := by simp; omega
  have m9 : (wd : Int) ≤ 32 := by omega
  have m10 : (q : Int) < nw := by omega
  have hcq := hc q hqn
  have F := ret_tup (fin_a (N := N) hq hr hw2 h64)
  have HF : Hid _ := F
  clear hA hq hr hc F
  go_enter Yba.func9, Yba.ntmps9
  go_wp2
  go_ret2
  exact ⟨HF.out, (Below.refl _ _).alloc (Nat.le_refl _) _⟩

theorem dec_b (w : World) (g nw wd j A q r N : Nat) (hA : A = j * wd) (hq : q = A / 64) (hr : r = A % 64) (hAl : A < 31744) (hw1 : 1 ≤ wd) (hw2 : wd ≤ 31) (hj : j < 1024) (hqn : q + 1 < nw) (hnw : nw ≤ 1000) (hg : g < w.heap.size) (hc : ∀ i, i < nw → w.cell? ⟨g, i, none⟩ = some (.int .u64 (word N i))) (h64 : 64 < r + wd) :
    Calls Yba.prog 9 #[.agg #[.int .u32 wd, .slice (some ⟨g, 0, none⟩) nw nw], .int .i64 j] w fun e w' => e = .returned (.tuple #[.int .u64 ((N / 2 ^ A % 2 ^ wd : Nat) : Int), .bool true]) ∧ Below w.heap.size w w' := by
  have m1 : IntKind.u64.wrap ((j : Int) * (wd : Int)) = (A : Int) := by
    have : (j : Int) * (wd : Int) = (A : Int) := by rw [hA]; simp
    rw [this, IntKind.wrap_u64]; omega
  have m2 : (A : Int) / 64 = (q : Int) := by omega
  have m3 : (A : Int) % 64 = (r : Int) := by omega
  have m4 : (r : Int) ≤ 64 := by omega
  have m5 : (wd : Int) ≤ 64 := by omega
  have m6 : IntKind.u64.wrap ((r : Int) + (wd : Int)) = (r : Int) + wd := by rw [IntKind.wrap_u64]; omega
  have m7 : 64 < (r : Int) + wd := by omega
  have m8 : ((wd : Int) == 0) = false := by simp; omega
  have m9 : (wd : Int) ≤ 32 := by omega
  have m10 : (q : Int) < nw := by omega
  have m11 : IntKind.u64.wrap ((q : Int) + 1) = ((q + 1 : Nat) : Int) := by rw [IntKind.wrap_u64]; omega
  have m12 : ((q + 1 : Nat) : Int) < nw := by omega
  have m13 : IntKind.u64.wrap (64 - (r : Int)) = ((64 - r : Nat) : Int) := by rw [IntKind.wrap_u64]; omega
  have m14 : ((64 - r : Nat) : Int) ≤ 64 := by omega
  have hcq := hc q (by omega)
  have hcq1 := hc (q + 1) hqn
  have F := ret_tup (fin_b (N := N) hq hr hw2)
  have HF : Hid _ := F
  clear hA hq hr hc F
  go_enter Yba.func9, Yba.ntmps9
  go_wp2
  go_ret2
  exact ⟨HF.out, (Below.refl _ _).alloc (Nat.le_refl _) _⟩

theorem nwords_le {n wd : Nat} (hn : n ≤ 1024) (hw : wd ≤ 31) : nwords n wd ≤ 500 := by
  have h2 : n * wd ≤ 1024 * 31 := Nat.mul_le_mul hn hw
  unfold nwords; omega

/-- decode hands back the target -/
theorem decode_any (w : World) (g n wd j : Nat) (f : Nat → Nat) (hn : n ≤ 1024) (hw1 : 1 ≤ wd) (hw2 : wd ≤ 31) (hj : j < n) (hf : ∀ i, i < n → f i < 2 ^ wd) (hg : g < w.heap.size) (hc : ∀ i, i < nwords n wd → w.cell? ⟨g, i, none⟩ = some (.int .u64 (word (NN f wd n) i))) :
    Calls Yba.prog 9 #[.agg #[.int .u32 wd, .slice (some ⟨g, 0, none⟩) (nwords n wd) (nwords n wd)], .int .i64 j] w fun e w' => e = .returned (.tuple #[.int .u64 (f j), .bool true]) ∧ Below w.heap.size w w' := by
  have hd := digit hf hj
  have hnw := nwords_le hn hw2
  by_cases h64 : j * wd % 64 + wd ≤ 64
  · have := dec_a w g (nwords n wd) wd j (j * wd) (j * wd / 64) (j * wd % 64) (NN f wd n) rfl rfl rfl (at_lt hn hw2 hj) hw1 hw2 (by omega) (in_words hj hw1) (by omega) hg hc h64
    rw [hd] at this
    exact this
  · have := dec_b w g (nwords n wd) wd j (j * wd) (j * wd / 64) (j * wd % 64) (NN f wd n) rfl rfl rfl (at_lt hn hw2 hj) hw1 hw2 (by omega) (in_words2 hj (by omega)) (by omega) hg hc (by omega)
    rw [hd] at this
    exact this
end Go.Proofs.Ybulkpsc
