/-
  Plain numbers for LawS0806BFromBig: no Go in sight.
-/
import Derived.Laws.BitsAllLaws
import Derived.Lib.BitFns
import Derived.Lib.ItoaNum
import Derived.IntWalk
namespace Go.Proofs.Ybulkpra
open Go.RowKit

theorem or_shift {x d : Int} (h0 : 0 ≤ x) (h1 : x ≤ 18446744073709551615) (hd : 1 ≤ d) :
    0 ≤ bits .or .u64 x (x / d) ∧ bits .or .u64 x (x / d) ≤ 18446744073709551615 ∧ (bits .or .u64 x (x / d) < 9223372036854775808 ↔ x < 9223372036854775808) := by
  have hq0 : 0 ≤ x / d := Int.ediv_nonneg h0 (by omega)
  have hq1 : x / d ≤ x := Int.ediv_le_self d h0
  rw [u64_or x (x / d) h0 (by omega) hq0 (by omega)]
  obtain ⟨a, rfl⟩ : ∃ a : Nat, x = a := ⟨x.toNat, by omega⟩
  obtain ⟨b, hb⟩ : ∃ b : Nat, (a : Int) / d = b := ⟨((a : Int) / d).toNat, by omega⟩
  rw [hb] at hq1 ⊢
  simp only [Int.toNat_natCast]
  have hle : a ≤ a ||| b := Nat.left_le_or
  have hlt : a ||| b < 2 ^ 64 := Nat.or_lt_two_pow (by omega) (by omega)
  refine ⟨by omega, by omega, ⟨fun h => by omega, fun h => ?_⟩⟩
  have : a ||| b < 2 ^ 63 := Nat.or_lt_two_pow (by omega) (by omega)
  omega

theorem or_shift2 {x : Int} (h0 : 0 ≤ x) (h1 : x ≤ 18446744073709551615) :
    0 ≤ bits .or .u64 x (x / 65536 / 65536) ∧ bits .or .u64 x (x / 65536 / 65536) ≤ 18446744073709551615 ∧ (bits .or .u64 x (x / 65536 / 65536) < 9223372036854775808 ↔ x < 9223372036854775808) := by
  have e : x / 65536 / 65536 = x / 4294967296 := by omega
  rw [e]
  exact or_shift h0 h1 (by omega)

/-- what nat.bitLen makes of the top word -/
def smear (x : Int) : Int :=
  bits .or .u64 (bits .or .u64 (bits .or .u64 (bits .or .u64 (bits .or .u64 (bits .or .u64 x (x / 2)) (bits .or .u64 x (x / 2) / 4)) (bits .or .u64 (bits .or .u64 x (x / 2)) (bits .or .u64 x (x / 2) / 4) / 16))
      (bits .or .u64 (bits .or .u64 (bits .or .u64 x (x / 2)) (bits .or .u64 x (x / 2) / 4)) (bits .or .u64 (bits .or .u64 x (x / 2)) (bits .or .u64 x (x / 2) / 4) / 16) / 256))
    (bits .or .u64 (bits .or .u64 (bits .or .u64 (bits .or .u64 x (x / 2)) (bits .or .u64 x (x / 2) / 4)) (bits .or .u64 (bits .or .u64 x (x / 2)) (bits .or .u64 x (x / 2) / 4) / 16))
      (bits .or .u64 (bits .or .u64 (bits .or .u64 x (x / 2)) (bits .or .u64 x (x / 2) / 4)) (bits .or .u64 (bits .or .u64 x (x / 2)) (bits .or .u64 x (x / 2) / 4) / 16) / 256) / 65536))
   (bits .or .u64 (bits .or .u64 (bits .or .u64 (bits .or .u64 (bits .or .u64 x (x / 2)) (bits .or .u64 x (x / 2) / 4)) (bits .or .u64 (bits .or .u64 x (x / 2)) (bits .or .u64 x (x / 2) / 4) / 16))
      (bits .or .u64 (bits .or .u64 (bits .or .u64 x (x / 2)) (bits .or .u64 x (x / 2) / 4)) (bits .or .u64 (bits .or .u64 x (x / 2)) (bits .or .u64 x (x / 2) / 4) / 16) / 256))
    (bits .or .u64 (bits .or .u64 (bits .or .u64 (bits .or .u64 x (x / 2)) (bits .or .u64 x (x / 2) / 4)) (bits .or .u64 (bits .or .u64 x (x / 2)) (bits .or .u64 x (x / 2) / 4) / 16))
      (bits .or .u64 (bits .or .u64 (bits .or .u64 x (x / 2)) (bits .or .u64 x (x / 2) / 4)) (bits .or .u64 (bits .or .u64 x (x / 2)) (bits .or .u64 x (x / 2) / 4) / 16) / 256) / 65536) / 65536 / 65536)

theorem smear_bd {x : Int} (h0 : 0 ≤ x) (h1 : x ≤ 18446744073709551615) : 0 ≤ smear x ∧ smear x ≤ 18446744073709551615 ∧ (smear x < 9223372036854775808 ↔ x < 9223372036854775808) := by
  unfold smear
  obtain ⟨a0, a1, a2⟩ := or_shift (d := 2) h0 h1 (by omega)
  generalize bits .or .u64 x (x / 2) = a at *
  obtain ⟨b0, b1, b2⟩ := or_shift (d := 4) a0 a1 (by omega)
  generalize bits .or .u64 a (a / 4) = b at *
  obtain ⟨c0, c1, c2⟩ := or_shift (d := 16) b0 b1 (by omega)
  generalize bits .or .u64 b (b / 16) = c at *
  obtain ⟨d0, d1, d2⟩ := or_shift (d := 256) c0 c1 (by omega)
  generalize bits .or .u64 c (c / 256) = d at *
  obtain ⟨e0, e1, e2⟩ := or_shift (d := 65536) d0 d1 (by omega)
  generalize bits .or .u64 d (d / 65536) = e at *
  obtain ⟨f0, f1, f2⟩ := or_shift2 e0 e1
  exact ⟨f0, f1, by rw [f2, e2, d2, c2, b2, a2]⟩

theorem bitLen_63 {x : Nat} (h : x < 18446744073709551616) : Lib.bitLen x ≤ 64 ∧ (Lib.bitLen x ≤ 63 ↔ x < 9223372036854775808) := by
  refine ⟨Lib.bitLen_le x 64 (by omega) (by omega), ⟨fun h2 => ?_, fun h2 => Lib.bitLen_le x 63 (by omega) (by omega)⟩⟩
  by_cases hx : x = 0
  · omega
  · have h3 := (Lib.bitLenAux_bounds 64 x (by omega) hx).2.2
    have h4 : Lib.bitLenAux 64 x ≤ 63 := h2
    have h5 : 2 ^ Lib.bitLenAux 64 x ≤ 2 ^ 63 := Nat.pow_le_pow_right (by omega) h4
    omega
end Go.Proofs.Ybulkpra
