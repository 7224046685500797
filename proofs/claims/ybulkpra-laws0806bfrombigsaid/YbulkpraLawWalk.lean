/-
  The walk of LawS0806BFromBig (3).
-/
import Derived.Test.YbulkpraFrom
namespace Go.Proofs.Ybulkpra
open Go.RowKit

/-! ### the plain law -/
theorem wrap_id {x : Int} (h1 : -9223372036854775808 ≤ x) (h2 : x ≤ 9223372036854775807) : wrap64 x = x := by unfold wrap64; omega

theorem small_V {n : Nat} {ws : Nat → Int} {V : Int} (hV : Num n ws V) (hP : n = 0 ∨ (n = 1 ∧ ws 0 < 9223372036854775808)) : low n ws = V ∧ 0 ≤ V ∧ V < 9223372036854775808 := by
  obtain ⟨h1, h2, h3, h4⟩ := hV
  unfold low
  rcases hP with rfl | ⟨rfl, h⟩
  · have := h1.1 rfl
    simp; omega
  · have := h2 rfl
    simp; omega

theorem fits_true {sg : Bool} {n : Nat} {V : Int} (hn : n ≤ 1) (h0 : 0 ≤ V) (h1 : V < 9223372036854775808) : fits sg n V = true := by
  have e : wrap64 V = V := wrap_id (by omega) (by omega)
  have e2 : wrap64 (-V) = -V := wrap_id (by omega) (by omega)
  unfold fits isI toI
  rw [if_pos hn, e, e2]
  cases sg <;> simp [h0] <;> omega

theorem toI_small {sg : Bool} {V : Int} (h0 : 0 ≤ V) (h1 : V < 9223372036854775808) : toI sg V = if sg = true then -V else V := by
  have e : wrap64 V = V := wrap_id (by omega) (by omega)
  have e2 : wrap64 (-V) = -V := wrap_id (by omega) (by omega)
  unfold toI
  rw [e, e2]

theorem fits_false {sg : Bool} {n : Nat} {ws : Nat → Int} {V : Int} (hb : ∀ k, 0 ≤ ws k ∧ ws k ≤ 18446744073709551615) (hV : Num n ws V) (hP : ¬ (n = 0 ∨ (n = 1 ∧ ws 0 < 9223372036854775808))) : fits sg n (low n ws) = false := by
  obtain ⟨h1, h2, h3, h4⟩ := hV
  by_cases hn : n ≤ 1
  · have hn1 : n = 1 := by omega
    subst hn1
    have hw : 9223372036854775808 ≤ ws 0 := by omega
    have hu := (hb 0).2
    have el : low 1 ws = ws 0 := rfl
    rw [el]
    have e : wrap64 (ws 0) = ws 0 - 18446744073709551616 := by unfold wrap64; omega
    unfold fits isI toI
    rw [if_pos (Nat.le_refl 1), e]
    have hlt : ¬ 0 ≤ ws 0 - 18446744073709551616 := by omega
    cases sg
    · simp; intro h; omega
    · by_cases hm : ws 0 = 9223372036854775808
      · rw [hm]; simp [wrap64]
      · have e2 : wrap64 (-(ws 0 - 18446744073709551616)) = 18446744073709551616 - ws 0 := by unfold wrap64; omega
        rw [e2]
        have hne : ¬ ws 0 - 18446744073709551616 = 18446744073709551616 - ws 0 := by omega
        simp [hne]; intro h; omega
  · unfold fits isI
    rw [if_neg hn]
    rfl

theorem pow_ge {s : Nat} (h : 64 ≤ s) : (18446744073709551616 : Int) ≤ 2 ^ s := by
  have : (2 : Nat) ^ 64 ≤ 2 ^ s := Nat.pow_le_pow_right (by omega) h
  have h2 : ((2 ^ 64 : Nat) : Int) ≤ ((2 ^ s : Nat) : Int) := by exact_mod_cast this
  simpa using h2

theorem mag_mul (x : Int) (s : Nat) : x * 2 ^ s = if x < 0 then -(mag x * 2 ^ s) else mag x * 2 ^ s := by
  unfold mag
  split
  · rw [Int.neg_mul, Int.neg_neg]
  · rfl

/-- x shifted in an int64, where the number fits -/
theorem shl_small {x : Int} {s : Nat} (h1 : mag x * 2 ^ s < 9223372036854775808) : wrap64 (x * 2 ^ s) = if x < 0 then -(mag x * 2 ^ s) else mag x * 2 ^ s := by
  have hp : (0 : Int) < 2 ^ s := Int.pow_pos (by omega)
  have h0 : 0 ≤ mag x * 2 ^ s := Int.mul_nonneg (by unfold mag; split <;> omega) (Int.le_of_lt hp)
  rw [mag_mul]
  generalize mag x * 2 ^ s = V at *
  split <;> exact wrap_id (by omega) (by omega)

theorem big_shift {x : Int} {s : Nat} (hs : 64 ≤ s) (h1 : mag x * 2 ^ s < 9223372036854775808) : x = 0 := by
  have hp := pow_ge hs
  have hm : 0 ≤ mag x := by unfold mag; split <;> omega
  by_cases h : mag x = 0
  · unfold mag at h; split at h <;> omega
  · have h2 : 1 * 2 ^ s ≤ mag x * 2 ^ s := Int.mul_le_mul_of_nonneg_right (by omega) (by omega)
    omega

theorem fin_pos {x v : Int} {s : Nat} {sg : Bool} (hsg : sg = decide (x < 0)) (hv : v = (if sg = true then -(mag x * 2 ^ s) else mag x * 2 ^ s)) (hV1 : mag x * 2 ^ s < 9223372036854775808) : (v == wrap64 (x * 2 ^ s)) = true := by
  rw [shl_small hV1, hv, hsg]
  simp

theorem fin_neg {x v : Int} {s n : Nat} {sg : Bool} (hsg : sg = (decide (0 < n) && !decide (x < 0))) (hv : v = (if sg = true then -(mag x * 2 ^ s) else mag x * 2 ^ s)) (hV0 : 0 ≤ mag x * 2 ^ s) (hV1 : mag x * 2 ^ s < 9223372036854775808) (hn : n = 0 ↔ mag x * 2 ^ s = 0) :
    (v == wrap64 (-wrap64 (x * 2 ^ s))) = true := by
  rw [shl_small hV1, hv, hsg]
  generalize mag x * 2 ^ s = V at *
  have e1 : wrap64 (-V) = -V := wrap_id (by omega) (by omega)
  have e2 : wrap64 V = V := wrap_id (by omega) (by omega)
  by_cases h0 : n = 0
  · have hV : V = 0 := hn.1 h0
    subst hV
    simp [wrap64]
  · have hp : 0 < n := by omega
    by_cases hx : x < 0
    · simp [hx, e2]
    · simp [hx, hp, e1]

theorem fin_big {x v : Int} {s : Nat} {sg : Bool} (hs : 64 ≤ s) (hV1 : mag x * 2 ^ s < 9223372036854775808) (hv : v = (if sg = true then -(mag x * 2 ^ s) else mag x * 2 ^ s)) : (v == 0) = true := by
  have hx := big_shift hs hV1
  subst hx
  rw [hv]
  simp [mag]

theorem ret_true {a : Bool} (h : a = true) : Ending.returned (.bool a) = .returned (.bool true) := by rw [h]

set_option maxHeartbeats 1000000 in
theorem law_pos (x k : Int) (scale : Int) (w : World) (hx1 : -9223372036854775808 ≤ x) (hx2 : x ≤ 9223372036854775807) (hk0 : 0 ≤ k) (hk1 : k ≤ 255) :
    Calls Yba.prog 3 #[.int .i64 x, .int .u8 k, .bool false, .int .i64 scale] w fun e w' => e = .returned (.bool true) ∧ Below w.heap.size w w' := by
  obtain ⟨s, hs⟩ : ∃ s : Nat, k % 70 = s := ⟨(k % 70).toNat, by omega⟩
  have hs69 : s ≤ 69 := by omega
  go_enter Yba.func3, Yba.ntmps3
  go_wp2_with fail
  refine (NewInt_any _ x hx1 hx2).mono ?_
  rintro e w1 ⟨X, a, n, c, g, ws, rfl, hX, hn1, hu, hlow, hXle, hb1⟩
  have Hlow : Hid (low n ws = mag x) := hlow
  clear hlow
  go_wp2_with fail
  have hZ1 : w1.heap[w.heap.size]? = some (.cells #[.bool false, .slice none 0 0] 27) := by rw [hb1.block _ (by simp)]; exact heap_new _ _
  refine (Lsh_any w1 w.heap.size X _ a n c g ws hZ1 hX (by simp at hXle; omega) hn1 hu s hs69).mono ?_
  rintro e w2 ⟨a', n', c', g', ws', rfl, hZ2, hV, hk2⟩
  rw [Hlow.out] at hV
  have hsz1 : w.heap.size < w1.heap.size := by have := hb1.size; simp at this; omega
  have hbel2 : Below w.heap.size w w2 := hk2.below (((Below.refl _ _).alloc (Nat.le_refl _) _).trans (hb1.mono (by simp))) (Nat.le_refl _) (by omega)
  have hsz2 : w.heap.size < w2.heap.size := by have := hk2.size; omega
  clear hk2 hb1 hX hn1 hu Hlow hXle hZ1 hsz1
  obtain ⟨w3, hw3⟩ : ∃ w3, w3 = w2 := ⟨_, rfl⟩
  subst hw3
  have hZ3 := hZ2
  have hbel3 := hbel2
  have hsz3 := hsz2
  clear hZ2 hbel2 hsz2
  go_wp2_with fail
  obtain ⟨sg, hsg⟩ : ∃ sg : Bool, sg = decide (x < 0) := ⟨_, rfl⟩
  have HSG : Hid (sg = decide (x < 0)) := hsg
  rw [← hsg] at hZ3
  clear hsg
  have hHV : Hid (Num n' ws' (mag x * 2 ^ s)) := hV
  clear hV
  have hZ4 : IntAt (w3.alloc (.cells #[.bool false, .slice none 0 0] 27)) w.heap.size sg a' n' c' g' ws' := hZ3.below ((Below.refl _ _).alloc (Nat.le_refl _) _)
  refine (Set_any (w3.alloc (.cells #[.bool false, .slice none 0 0] 27)) w3.heap.size w.heap.size sg a' n' c' g' ws' (heap_new _ _) hZ4 (by omega)).mono ?_
  rintro e w4 ⟨a2, c2, g2, rfl, hY4, hk4⟩
  have hZ5 : IntAt w4 w.heap.size sg a' n' c' g' ws' := hZ4.kept hk4 (by omega) ⟨false, by simp⟩
  have hbel4 : Below w.heap.size w w4 := hk4.below (hbel3.alloc (by omega) _) (by omega) (by simp; omega)
  have hsz4 : w3.heap.size < w4.heap.size := by have := hk4.size; simp at this; omega
  clear hk4 hZ4 hZ3 hbel3
  go_wp2_with fail
  refine (fromBig_any w4 w.heap.size sg a' n' c' g' ws' hZ5 scale).mono ?_
  rintro e w5 ⟨rfl, hb5⟩
  have hZ6 := hZ5.below hb5
  have hY6 := hY4.below hb5
  have hbel5 : Below w.heap.size w w5 := hbel4.trans (hb5.mono (by omega))
  have hsz5 : w3.heap.size < w5.heap.size := by have := hb5.size; omega
  clear hb5 hZ5 hY4 hbel4
  have hD : ∀ O : Obj, IntAt (w5.alloc O) w.heap.size sg a' n' c' g' ws' := fun O => hZ6.below ((Below.refl _ _).alloc (Nat.le_refl _) _)
  have hE : ∀ O : Obj, IntAt (w5.alloc O) w3.heap.size sg a2 n' c2 g2 ws' := fun O => hY6.below ((Below.refl _ _).alloc (Nat.le_refl _) _)
  have hbd := hZ6.nat.bd
  clear hZ6 hY6
  by_cases hP : n' = 0 ∨ (n' = 1 ∧ ws' 0 < 9223372036854775808)
  · obtain ⟨el, hV0, hV1⟩ := small_V hHV.out hP
    have HP : Hid (n' = 0 ∨ (n' = 1 ∧ ws' 0 < 9223372036854775808)) := hP
    rw [el, fits_true (by omega) hV0 hV1, toI_small hV0 hV1]
    clear hP el
    obtain ⟨v, hv⟩ : ∃ v : Int, v = (if sg = true then -(mag x * 2 ^ s) else mag x * 2 ^ s) := ⟨_, rfl⟩
    have Hv : Hid (v = (if sg = true then -(mag x * 2 ^ s) else mag x * 2 ^ s)) := hv
    rw [← hv]
    have HV1 : Hid (mag x * 2 ^ s < 9223372036854775808) := hV1
    have HV0 : Hid (0 ≤ mag x * 2 ^ s) := hV0
    have HN : Hid (n' = 0 ↔ mag x * 2 ^ s = 0) := hHV.out.1
    clear hv hV0 hV1 hbd
    have ed : dec true v w.heap.size scale = .agg #[.int .i64 v, .pointer none, .int .i64 scale] := rfl
    rw [ed]
    clear ed
    go_wp2_with fail
    refine (Cmp_same _ w.heap.size w3.heap.size sg a' a2 n' c' c2 g' g2 ws' (hD _).nat (hE _).nat (fun wx hwx => by obtain ⟨m, rfl⟩ := hwx; exact eql23_other (by omega) (hD (.cells #[.int .i64 v, .pointer none, .int .i64 scale] 32)).blk (hE (.cells #[.int .i64 v, .pointer none, .int .i64 scale] 32)).blk) (cell_of_heap (hD _).blk rfl) (cell_of_heap (hD _).blk rfl) (cell_of_heap (hE _).blk rfl) (cell_of_heap (hE _).blk rfl)).mono ?_
    rintro e w6 ⟨rfl, m6, hw6⟩
    subst hw6
    go_wp2_with fail
    refine (BitLen_any _ w.heap.size a' n' c' g' ws' ((hD (.cells #[.int .i64 v, .pointer none, .int .i64 scale] 32)).nat.drew m6) (cell_of_heap (hD (.cells #[.int .i64 v, .pointer none, .int .i64 scale] 32)).blk rfl)).mono ?_
    rintro e w7 ⟨r, rfl, HR, hw7⟩
    subst hw7
    have hr : r ≤ 63 := HR.out.2 HP.out
    clear hD hE HR HP hHV
    go_wp2
    all_goals
      go_ret
      refine ⟨ret_true ?_, (hbel5.alloc (by omega) _).trans ⟨rfl, rfl, rfl, Nat.le_refl _, fun _ _ => rfl⟩⟩
    · exact fin_pos HSG.out Hv.out HV1.out
    · exact fin_big (by omega) HV1.out Hv.out
  · rw [fits_false hbd hHV.out hP]
    have ed : dec false (toI sg (low n' ws')) w.heap.size scale = .agg #[.int .i64 0, .pointer (some ⟨w.heap.size, 0, none⟩), .int .i64 scale] := rfl
    rw [ed]
    clear ed
    have HP : Hid (¬ (n' = 0 ∨ (n' = 1 ∧ ws' 0 < 9223372036854775808))) := hP
    clear hP hbd
    go_wp2_with fail
    refine (Cmp_same _ w.heap.size w3.heap.size sg a' a2 n' c' c2 g' g2 ws' (hD _).nat (hE _).nat (fun wx hwx => by obtain ⟨m, rfl⟩ := hwx; exact eql23_other (by omega) (hD (.cells #[.int .i64 0, .pointer (some ⟨w.heap.size, 0, none⟩), .int .i64 scale] 32)).blk (hE (.cells #[.int .i64 0, .pointer (some ⟨w.heap.size, 0, none⟩), .int .i64 scale] 32)).blk) (cell_of_heap (hD _).blk rfl) (cell_of_heap (hD _).blk rfl) (cell_of_heap (hE _).blk rfl) (cell_of_heap (hE _).blk rfl)).mono ?_
    rintro e w6 ⟨rfl, m6, hw6⟩
    subst hw6
    go_wp2_with fail
    refine (BitLen_any _ w.heap.size a' n' c' g' ws' ((hD (.cells #[.int .i64 0, .pointer (some ⟨w.heap.size, 0, none⟩), .int .i64 scale] 32)).nat.drew m6) (cell_of_heap (hD (.cells #[.int .i64 0, .pointer (some ⟨w.heap.size, 0, none⟩), .int .i64 scale] 32)).blk rfl)).mono ?_
    rintro e w7 ⟨r, rfl, HR, hw7⟩
    subst hw7
    have hr : 63 < r := by
      have h1 := HR.out
      have h2 := HP.out
      omega
    have q1 := eql23_same
    clear hD hE HR HP hHV
    go_wp2
    go_ret
    exact ⟨rfl, (hbel5.alloc (by omega) _).trans ⟨rfl, rfl, rfl, Nat.le_refl _, fun _ _ => rfl⟩⟩

set_option maxHeartbeats 1000000 in
theorem law_neg (x k : Int) (scale : Int) (w : World) (hx1 : -9223372036854775808 ≤ x) (hx2 : x ≤ 9223372036854775807) (hk0 : 0 ≤ k) (hk1 : k ≤ 255) :
    Calls Yba.prog 3 #[.int .i64 x, .int .u8 k, .bool true, .int .i64 scale] w fun e w' => e = .returned (.bool true) ∧ Below w.heap.size w w' := by
  obtain ⟨s, hs⟩ : ∃ s : Nat, k % 70 = s := ⟨(k % 70).toNat, by omega⟩
  have hs69 : s ≤ 69 := by omega
  go_enter Yba.func3, Yba.ntmps3
  go_wp2_with fail
  refine (NewInt_any _ x hx1 hx2).mono ?_
  rintro e w1 ⟨X, a, n, c, g, ws, rfl, hX, hn1, hu, hlow, hXle, hb1⟩
  have Hlow : Hid (low n ws = mag x) := hlow
  clear hlow
  go_wp2_with fail
  have hZ1 : w1.heap[w.heap.size]? = some (.cells #[.bool false, .slice none 0 0] 27) := by rw [hb1.block _ (by simp)]; exact heap_new _ _
  refine (Lsh_any w1 w.heap.size X _ a n c g ws hZ1 hX (by simp at hXle; omega) hn1 hu s hs69).mono ?_
  rintro e w2 ⟨a', n', c', g', ws', rfl, hZ2, hV, hk2⟩
  rw [Hlow.out] at hV
  have hsz1 : w.heap.size < w1.heap.size := by have := hb1.size; simp at this; omega
  have hbel2 : Below w.heap.size w w2 := hk2.below (((Below.refl _ _).alloc (Nat.le_refl _) _).trans (hb1.mono (by simp))) (Nat.le_refl _) (by omega)
  have hsz2 : w.heap.size < w2.heap.size := by have := hk2.size; omega
  clear hk2 hb1 hX hn1 hu Hlow hXle hZ1 hsz1
  go_wp2_with fail
  refine (Neg_self w2 w.heap.size _ a' n' c' g' ws' hZ2).mono ?_
  rintro e w3 ⟨rfl, hZ3, hk3⟩
  have hbel3 : Below w.heap.size w w3 := hk3.below hbel2 (Nat.le_refl _) (by omega)
  have hsz3 : w.heap.size < w3.heap.size := by have := hk3.size; omega
  clear hZ2 hbel2 hsz2 hk3
  go_wp2_with fail
  obtain ⟨sg, hsg⟩ : ∃ sg : Bool, sg = (decide (0 < n') && !decide (x < 0)) := ⟨_, rfl⟩
  have HSG : Hid (sg = (decide (0 < n') && !decide (x < 0))) := hsg
  rw [← hsg] at hZ3
  clear hsg
  have hHV : Hid (Num n' ws' (mag x * 2 ^ s)) := hV
  clear hV
  have hZ4 : IntAt (w3.alloc (.cells #[.bool false, .slice none 0 0] 27)) w.heap.size sg a' n' c' g' ws' := hZ3.below ((Below.refl _ _).alloc (Nat.le_refl _) _)
  refine (Set_any (w3.alloc (.cells #[.bool false, .slice none 0 0] 27)) w3.heap.size w.heap.size sg a' n' c' g' ws' (heap_new _ _) hZ4 (by omega)).mono ?_
  rintro e w4 ⟨a2, c2, g2, rfl, hY4, hk4⟩
  have hZ5 : IntAt w4 w.heap.size sg a' n' c' g' ws' := hZ4.kept hk4 (by omega) ⟨false, by simp⟩
  have hbel4 : Below w.heap.size w w4 := hk4.below (hbel3.alloc (by omega) _) (by omega) (by simp; omega)
  have hsz4 : w3.heap.size < w4.heap.size := by have := hk4.size; simp at this; omega
  clear hk4 hZ4 hZ3 hbel3
  go_wp2_with fail
  refine (fromBig_any w4 w.heap.size sg a' n' c' g' ws' hZ5 scale).mono ?_
  rintro e w5 ⟨rfl, hb5⟩
  have hZ6 := hZ5.below hb5
  have hY6 := hY4.below hb5
  have hbel5 : Below w.heap.size w w5 := hbel4.trans (hb5.mono (by omega))
  have hsz5 : w3.heap.size < w5.heap.size := by have := hb5.size; omega
  clear hb5 hZ5 hY4 hbel4
  have hD : ∀ O : Obj, IntAt (w5.alloc O) w.heap.size sg a' n' c' g' ws' := fun O => hZ6.below ((Below.refl _ _).alloc (Nat.le_refl _) _)
  have hE : ∀ O : Obj, IntAt (w5.alloc O) w3.heap.size sg a2 n' c2 g2 ws' := fun O => hY6.below ((Below.refl _ _).alloc (Nat.le_refl _) _)
  have hbd := hZ6.nat.bd
  clear hZ6 hY6
  by_cases hP : n' = 0 ∨ (n' = 1 ∧ ws' 0 < 9223372036854775808)
  · obtain ⟨el, hV0, hV1⟩ := small_V hHV.out hP
    have HP : Hid (n' = 0 ∨ (n' = 1 ∧ ws' 0 < 9223372036854775808)) := hP
    rw [el, fits_true (by omega) hV0 hV1, toI_small hV0 hV1]
    clear hP el
    obtain ⟨v, hv⟩ : ∃ v : Int, v = (if sg = true then -(mag x * 2 ^ s) else mag x * 2 ^ s) := ⟨_, rfl⟩
    have Hv : Hid (v = (if sg = true then -(mag x * 2 ^ s) else mag x * 2 ^ s)) := hv
    rw [← hv]
    have HV1 : Hid (mag x * 2 ^ s < 9223372036854775808) := hV1
    have HV0 : Hid (0 ≤ mag x * 2 ^ s) := hV0
    have HN : Hid (n' = 0 ↔ mag x * 2 ^ s = 0) := hHV.out.1
    clear hv hV0 hV1 hbd
    have ed : dec true v w.heap.size scale = .agg #[.int .i64 v, .pointer none, .int .i64 scale] := rfl
    rw [ed]
    clear ed
    go_wp2_with fail
    refine (Cmp_same _ w.heap.size w3.heap.size sg a' a2 n' c' c2 g' g2 ws' (hD _).nat (hE _).nat (fun wx hwx => by obtain ⟨m, rfl⟩ := hwx; exact eql23_other (by omega) (hD (.cells #[.int .i64 v, .pointer none, .int .i64 scale] 32)).blk (hE (.cells #[.int .i64 v, .pointer none, .int .i64 scale] 32)).blk) (cell_of_heap (hD _).blk rfl) (cell_of_heap (hD _).blk rfl) (cell_of_heap (hE _).blk rfl) (cell_of_heap (hE _).blk rfl)).mono ?_
    rintro e w6 ⟨rfl, m6, hw6⟩
    subst hw6
    go_wp2_with fail
    refine (BitLen_any _ w.heap.size a' n' c' g' ws' ((hD (.cells #[.int .i64 v, .pointer none, .int .i64 scale] 32)).nat.drew m6) (cell_of_heap (hD (.cells #[.int .i64 v, .pointer none, .int .i64 scale] 32)).blk rfl)).mono ?_
    rintro e w7 ⟨r, rfl, HR, hw7⟩
    subst hw7
    have hr : r ≤ 63 := HR.out.2 HP.out
    clear hD hE HR HP hHV
    go_wp2
    all_goals
      go_ret
      refine ⟨ret_true ?_, (hbel5.alloc (by omega) _).trans ⟨rfl, rfl, rfl, Nat.le_refl _, fun _ _ => rfl⟩⟩
    · exact fin_neg HSG.out Hv.out HV0.out HV1.out HN.out
    · exact fin_big (by omega) HV1.out Hv.out
  · rw [fits_false hbd hHV.out hP]
    have ed : dec false (toI sg (low n' ws')) w.heap.size scale = .agg #[.int .i64 0, .pointer (some ⟨w.heap.size, 0, none⟩), .int .i64 scale] := rfl
    rw [ed]
    clear ed
    have HP : Hid (¬ (n' = 0 ∨ (n' = 1 ∧ ws' 0 < 9223372036854775808))) := hP
    clear hP hbd
    go_wp2_with fail
    refine (Cmp_same _ w.heap.size w3.heap.size sg a' a2 n' c' c2 g' g2 ws' (hD _).nat (hE _).nat (fun wx hwx => by obtain ⟨m, rfl⟩ := hwx; exact eql23_other (by omega) (hD (.cells #[.int .i64 0, .pointer (some ⟨w.heap.size, 0, none⟩), .int .i64 scale] 32)).blk (hE (.cells #[.int .i64 0, .pointer (some ⟨w.heap.size, 0, none⟩), .int .i64 scale] 32)).blk) (cell_of_heap (hD _).blk rfl) (cell_of_heap (hD _).blk rfl) (cell_of_heap (hE _).blk rfl) (cell_of_heap (hE _).blk rfl)).mono ?_
    rintro e w6 ⟨rfl, m6, hw6⟩
    subst hw6
    go_wp2_with fail
    refine (BitLen_any _ w.heap.size a' n' c' g' ws' ((hD (.cells #[.int .i64 0, .pointer (some ⟨w.heap.size, 0, none⟩), .int .i64 scale] 32)).nat.drew m6) (cell_of_heap (hD (.cells #[.int .i64 0, .pointer (some ⟨w.heap.size, 0, none⟩), .int .i64 scale] 32)).blk rfl)).mono ?_
    rintro e w7 ⟨r, rfl, HR, hw7⟩
    subst hw7
    have hr : 63 < r := by
      have h1 := HR.out
      have h2 := HP.out
      omega
    have q1 := eql23_same
    clear hD hE HR HP hHV
    go_wp2
    go_ret
    exact ⟨rfl, (hbel5.alloc (by omega) _).trans ⟨rfl, rfl, rfl, Nat.le_refl _, fun _ _ => rfl⟩⟩
end Go.Proofs.Ybulkpra
