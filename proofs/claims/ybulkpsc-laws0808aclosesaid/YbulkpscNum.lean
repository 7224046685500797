/-
  Plain numbers for LawS0808AClose: no Go in sight. Targets f 0, f 1, .. of wd bits each stand in one number NN; its 64-bit words are what pack lays.
-/
import Derived.Lib.BitFns
import Derived.Lib.ItoaNum
namespace Go.Proofs.Ybulkpsc

def NN (f : Nat → Nat) (wd : Nat) : Nat → Nat
  | 0 => 0
  | k + 1 => NN f wd k + f k * 2 ^ (k * wd)

def word (N i : Nat) : Nat := N / 2 ^ (64 * i) % 2 ^ 64

theorem NN_lt {f : Nat → Nat} {wd : Nat} : ∀ {k : Nat}, (∀ j, j < k → f j < 2 ^ wd) → NN f wd k < 2 ^ (k * wd)
  | 0, _ => by simp [NN]
  | k + 1, h => by
    have ih := NN_lt (k := k) fun j hj => h j (by omega)
    have hk := h k (by omega)
    have e : 2 ^ ((k + 1) * wd) = 2 ^ wd * 2 ^ (k * wd) := by rw [← Nat.pow_add]; congr 1; rw [Nat.add_mul]; omega
    rw [NN, e]
    have h2 : (f k + 1) * 2 ^ (k * wd) ≤ 2 ^ wd * 2 ^ (k * wd) := Nat.mul_le_mul_right _ hk
    rw [Nat.add_mul, Nat.one_mul] at h2
    omega

theorem digit {f : Nat → Nat} {wd n j : Nat} (hf : ∀ i, i < n → f i < 2 ^ wd) (hj : j < n) : NN f wd n / 2 ^ (j * wd) % 2 ^ wd = f j := by
  induction n with
  | zero => omega
  | succ n ih =>
    rw [NN]
    by_cases h : j = n
    · subst h
      have hN := NN_lt (k := j) fun i hi => hf i (by omega)
      rw [Nat.add_mul_div_right _ _ (Nat.two_pow_pos _), Nat.div_eq_of_lt hN, Nat.zero_add, Nat.mod_eq_of_lt (hf j (by omega))]
    · have hjn : j < n := by omega
      have e : f n * 2 ^ (n * wd) = (f n * 2 ^ ((n - j - 1) * wd)) * 2 ^ wd * 2 ^ (j * wd) := by
        rw [Nat.mul_assoc, Nat.mul_assoc, ← Nat.pow_add, ← Nat.pow_add]
        congr 2
        have : n = (n - j - 1) + 1 + j := by omega
        rw [← Nat.add_assoc]
        conv => lhs; rw [this]
        rw [Nat.add_mul, Nat.add_mul, Nat.one_mul]
      rw [e, Nat.add_mul_div_right _ _ (Nat.two_pow_pos _), Nat.add_mul_mod_self_right]
      exact ih (fun i hi => hf i (by omega)) hjn

theorem or_add {a b r : Nat} (ha : a < 2 ^ r) : a ||| b * 2 ^ r = a + b * 2 ^ r := by
  have h := Nat.two_pow_add_eq_or_of_lt ha b
  rw [Nat.mul_comm, Nat.or_comm, ← h, Nat.add_comm]

theorem pow_split {a b : Nat} (h : a ≤ b) : 2 ^ b = 2 ^ (b - a) * 2 ^ a := by rw [← Nat.pow_add, Nat.sub_add_cancel h]

/-- one step of pack: the word below -/
theorem word_lo {N t at' i : Nat} (hi : i < at' / 64) : word (N + t * 2 ^ at') i = word N i := by
  unfold word
  have h1 : 64 * i ≤ at' := by omega
  have e : t * 2 ^ at' = t * 2 ^ (at' - 64 * i - 64) * 2 ^ 64 * 2 ^ (64 * i) := by
    rw [Nat.mul_assoc, Nat.mul_assoc, ← Nat.pow_add, ← Nat.pow_add]
    congr 2; omega
  rw [e, Nat.add_mul_div_right _ _ (Nat.two_pow_pos _), Nat.add_mul_mod_self_right]

theorem word_hit {N t at' : Nat} (hN : N < 2 ^ at') : word (N + t * 2 ^ at') (at' / 64) = word N (at' / 64) ||| t * 2 ^ (at' % 64) % 2 ^ 64 := by
  have e : t * 2 ^ at' = t * 2 ^ (at' % 64) * 2 ^ (64 * (at' / 64)) := by
    rw [Nat.mul_assoc, ← Nat.pow_add]; congr 2; omega
  have hq : N / 2 ^ (64 * (at' / 64)) < 2 ^ (at' % 64) := by
    rw [Nat.div_lt_iff_lt_mul (Nat.two_pow_pos _), ← Nat.pow_add]
    have : at' % 64 + 64 * (at' / 64) = at' := by omega
    rw [this]; exact hN
  have hr : 2 ^ (at' % 64) ≤ 2 ^ 64 := Nat.pow_le_pow_right (by omega) (by omega)
  unfold word
  rw [e, Nat.add_mul_div_right _ _ (Nat.two_pow_pos _)]
  generalize N / 2 ^ (64 * (at' / 64)) = o at *
  have e2 : t * 2 ^ (at' % 64) % 2 ^ 64 = t % 2 ^ (64 - at' % 64) * 2 ^ (at' % 64) := by
    rw [pow_split (a := at' % 64) (b := 64) (by omega), Nat.mul_mod_mul_right]
  rw [e2, Nat.mod_eq_of_lt (a := o) (by omega), or_add hq, ← e2]
  have hlt : t % 2 ^ (64 - at' % 64) * 2 ^ (at' % 64) + o < 2 ^ 64 := by
    have h1 : t % 2 ^ (64 - at' % 64) + 1 ≤ 2 ^ (64 - at' % 64) := Nat.mod_lt _ (Nat.two_pow_pos _)
    have h2 := Nat.mul_le_mul_right (2 ^ (at' % 64)) h1
    rw [← pow_split (a := at' % 64) (b := 64) (by omega), Nat.add_mul, Nat.one_mul] at h2
    omega
  rw [Nat.add_mod, Nat.mod_eq_of_lt (a := o) (by omega), Nat.mod_eq_of_lt]
  rw [e2]; omega

theorem word_next {N t at' : Nat} (hN : N < 2 ^ at') : word (N + t * 2 ^ at') (at' / 64 + 1) = t / 2 ^ (64 - at' % 64) % 2 ^ 64 ∧ word N (at' / 64 + 1) = 0 := by
  have h1 : at' < 64 * (at' / 64 + 1) := by omega
  have hp : 2 ^ at' ≤ 2 ^ (64 * (at' / 64 + 1)) := Nat.pow_le_pow_right (by omega) (by omega)
  have e1 : 2 ^ (64 * (at' / 64 + 1)) = 2 ^ at' * 2 ^ (64 - at' % 64) := by rw [← Nat.pow_add]; congr 1; omega
  have h2 : (N + t * 2 ^ at') / 2 ^ (64 * (at' / 64 + 1)) = t / 2 ^ (64 - at' % 64) := by
    rw [e1, ← Nat.div_div_eq_div_mul, Nat.add_mul_div_right _ _ (Nat.two_pow_pos _), Nat.div_eq_of_lt hN, Nat.zero_add]
  have h3 : N / 2 ^ (64 * (at' / 64 + 1)) = 0 := Nat.div_eq_of_lt (Nat.lt_of_lt_of_le hN hp)
  unfold word
  rw [h2, h3]
  exact ⟨rfl, Nat.zero_mod _⟩

theorem word_hi {N t at' wd i : Nat} (hN : N < 2 ^ at') (ht : t < 2 ^ wd) (hw : wd ≤ 64) (hi : at' / 64 + 1 < i) : word (N + t * 2 ^ at') i = 0 ∧ word N i = 0 := by
  have h1 : (t + 1) * 2 ^ at' ≤ 2 ^ wd * 2 ^ at' := Nat.mul_le_mul_right _ ht
  rw [← Nat.pow_add, Nat.add_mul, Nat.one_mul] at h1
  have hp : 2 ^ (wd + at') ≤ 2 ^ (64 * i) := Nat.pow_le_pow_right (by omega) (by omega)
  have hp2 : 2 ^ at' ≤ 2 ^ (64 * i) := Nat.pow_le_pow_right (by omega) (by omega)
  unfold word
  rw [Nat.div_eq_of_lt (by omega), Nat.div_eq_of_lt (by omega)]
  simp

/-- decode, where the target lies in one word -/
theorem dec_one {N at' wd : Nat} (h : at' % 64 + wd ≤ 64) : word N (at' / 64) / 2 ^ (at' % 64) % 2 ^ wd = N / 2 ^ at' % 2 ^ wd := by
  unfold word
  rw [pow_split (a := at' % 64) (b := 64) (by omega), Nat.mod_mul_left_div_self, Nat.div_div_eq_div_mul, ← Nat.pow_add]
  have e : 64 * (at' / 64) + at' % 64 = at' := by omega
  rw [e]
  exact Nat.mod_mod_of_dvd _ (Nat.pow_dvd_pow 2 (by omega))

/-- decode, where it lies in two -/
theorem dec_two {N at' wd : Nat} (h2 : wd ≤ 64) :
    (word N (at' / 64) / 2 ^ (at' % 64) ||| word N (at' / 64 + 1) * 2 ^ (64 - at' % 64) % 2 ^ 64) % 2 ^ wd = N / 2 ^ at' % 2 ^ wd := by
  have hr : at' % 64 < 64 := Nat.mod_lt _ (by omega)
  have e0 : word N (at' / 64) / 2 ^ (at' % 64) = N / 2 ^ at' % 2 ^ (64 - at' % 64) := by
    unfold word
    rw [pow_split (a := at' % 64) (b := 64) (by omega), Nat.mod_mul_left_div_self, Nat.div_div_eq_div_mul, ← Nat.pow_add]
    have e : 64 * (at' / 64) + at' % 64 = at' := by omega
    rw [e]
  have e1 : word N (at' / 64 + 1) * 2 ^ (64 - at' % 64) % 2 ^ 64 = (word N (at' / 64 + 1) % 2 ^ (at' % 64)) * 2 ^ (64 - at' % 64) := by
    conv => lhs; rw [pow_split (a := 64 - at' % 64) (b := 64) (by omega)]
    rw [Nat.mul_mod_mul_right]
    have : 64 - (64 - at' % 64) = at' % 64 := by omega
    rw [this]
  have e2 : word N (at' / 64 + 1) % 2 ^ (at' % 64) = N / 2 ^ at' / 2 ^ (64 - at' % 64) % 2 ^ (at' % 64) := by
    unfold word
    rw [Nat.mod_mod_of_dvd _ (Nat.pow_dvd_pow 2 (by omega)), Nat.div_div_eq_div_mul, ← Nat.pow_add]
    congr 3; omega
  rw [e0, e1, e2, or_add (Nat.mod_lt _ (Nat.two_pow_pos _))]
  generalize N / 2 ^ at' = M
  have e3 : M % 2 ^ (64 - at' % 64) + M / 2 ^ (64 - at' % 64) % 2 ^ (at' % 64) * 2 ^ (64 - at' % 64) = M % 2 ^ 64 := by
    rw [pow_split (a := 64 - at' % 64) (b := 64) (by omega)]
    have : 64 - (64 - at' % 64) = at' % 64 := by omega
    rw [this, Nat.mul_comm (2 ^ (at' % 64)), Nat.mod_mul, Nat.mul_comm]
  rw [e3]
  exact Nat.mod_mod_of_dvd _ (Nat.pow_dvd_pow 2 h2)

/-! ### the width -/
def mxTo (f : Nat → Nat) : Nat → Nat
  | 0 => 0
  | k + 1 => Nat.max (mxTo f k) (f k)

theorem le_mxTo {f : Nat → Nat} {n : Nat} : ∀ {j : Nat}, j < n → f j ≤ mxTo f n := by
  induction n with
  | zero => intro j h; omega
  | succ n ih =>
    intro j h
    rw [mxTo]
    by_cases e : j = n
    · subst e; exact Nat.le_max_right _ _
    · exact Nat.le_trans (ih (by omega)) (Nat.le_max_left _ _)
theorem mxTo_lt {f : Nat → Nat} {B : Nat} (hB : 0 < B) (h : ∀ j, f j < B) : ∀ n, mxTo f n < B
  | 0 => hB
  | n + 1 => Nat.max_lt.2 ⟨mxTo_lt hB h n, h n⟩

/-- the width that pack takes -/
def wide (f : Nat → Nat) (n : Nat) : Nat := Nat.max 1 (Lib.bitLen (mxTo f n))

theorem lt_pow_bitLen {x : Nat} (h : x < 2 ^ 64) : x < 2 ^ Lib.bitLen x := by
  by_cases hx : x = 0
  · subst hx; exact Nat.two_pow_pos _
  · exact (Lib.bitLenAux_bounds 64 x h hx).2.2

theorem wide_bd {f : Nat → Nat} (h : ∀ j, f j < 2 ^ 31) (n : Nat) : 1 ≤ wide f n ∧ wide f n ≤ 31 ∧ Lib.bitLen (mxTo f n) ≤ 31 := by
  have hm := mxTo_lt (Nat.two_pow_pos 31) h n
  have hb := Lib.bitLen_le (mxTo f n) 31 (by omega) hm
  exact ⟨Nat.le_max_left _ _, Nat.max_le.2 ⟨by omega, hb⟩, hb⟩
theorem wide_fits {f : Nat → Nat} (h : ∀ j, f j < 2 ^ 31) {n j : Nat} (hj : j < n) : f j < 2 ^ wide f n := by
  have hm := mxTo_lt (Nat.two_pow_pos 31) h n
  have h1 := le_mxTo (f := f) hj
  have h2 := lt_pow_bitLen (x := mxTo f n) (by omega)
  have h3 : 2 ^ Lib.bitLen (mxTo f n) ≤ 2 ^ wide f n := Nat.pow_le_pow_right (by omega) (Nat.le_max_right _ _)
  omega

/-- how many words -/
def nwords (n wd : Nat) : Nat := (n * wd + 63) / 64
theorem in_words {n wd j : Nat} (hj : j < n) (hw : 1 ≤ wd) : j * wd / 64 < nwords n wd := by
  have h : (j + 1) * wd ≤ n * wd := Nat.mul_le_mul_right _ hj
  rw [Nat.add_mul, Nat.one_mul] at h
  unfold nwords; omega
theorem in_words2 {n wd j : Nat} (hj : j < n) (h64 : 64 < j * wd % 64 + wd) : j * wd / 64 + 1 < nwords n wd := by
  have h : (j + 1) * wd ≤ n * wd := Nat.mul_le_mul_right _ hj
  rw [Nat.add_mul, Nat.one_mul] at h
  unfold nwords; omega
theorem at_lt {n wd j : Nat} (hn : n ≤ 1024) (hw : wd ≤ 31) (hj : j < n) : j * wd < 31744 := by
  have h : (j + 1) * wd ≤ n * wd := Nat.mul_le_mul_right _ hj
  have h2 : n * wd ≤ 1024 * 31 := Nat.mul_le_mul hn hw
  rw [Nat.add_mul, Nat.one_mul] at h
  by_cases hz : wd = 0
  · subst hz; simp
  · omega
end Go.Proofs.Ybulkpsc
