/-
  The contract of decimal.fromBig (8).
-/
import Derived.Test.YbulkpraInt
namespace Go.Proofs.Ybulkpra
open Go.RowKit

def fits (neg : Bool) (n : Nat) (lo : Int) : Bool := isI neg n lo && (toI neg lo != -9223372036854775808)

/-- the Decimal that fromBig makes -/
def dec (f : Bool) (v : Int) (X : Nat) (scale : Int) : Value := if f = true then .agg #[.int .i64 v, .pointer none, .int .i64 scale] else .agg #[.int .i64 0, .pointer (some ⟨X, 0, none⟩), .int .i64 scale]

theorem isI_call (w : World) (X : Nat) (neg : Bool) (a : Option Addr) (n c g : Nat) (ws : Nat → Int) (h : NatIn w a n c g ws) (h0 : w.cell? ⟨X, 0, none⟩ = some (.bool neg)) (h1 : w.cell? ⟨X, 1, none⟩ = some (.slice a n c)) (b : Bool) (hb : isI neg n (low n ws) = b) :
    Calls Yba.prog 19 #[.pointer (some ⟨X, 0, none⟩)] w fun e w' => e = .returned (.bool b) ∧ w = w' := by
  rw [← hb]; exact isInt64_any w X neg a n c g ws h h0 h1
theorem toI_call (w : World) (X : Nat) (neg : Bool) (a : Option Addr) (n c g : Nat) (ws : Nat → Int) (h : NatIn w a n c g ws) (h0 : w.cell? ⟨X, 0, none⟩ = some (.bool neg)) (h1 : w.cell? ⟨X, 1, none⟩ = some (.slice a n c)) (v : Int) (hv : toI neg (low n ws) = v) :
    Calls Yba.prog 20 #[.pointer (some ⟨X, 0, none⟩)] w fun e w' => e = .returned (.int .i64 v) ∧ w = w' := by
  rw [← hv]; exact int64_any w X neg a n c g ws h h0 h1

theorem fromBig_any (w : World) (X : Nat) (neg : Bool) (a : Option Addr) (n c g : Nat) (ws : Nat → Int) (hX : IntAt w X neg a n c g ws) (scale : Int) :
    Calls Yba.prog 8 #[.pointer (some ⟨X, 0, none⟩), .int .i64 scale] w fun e w' =>
      e = .returned (dec (fits neg n (low n ws)) (toI neg (low n ws)) X scale) ∧ Below w.heap.size w w' := by
  have x0 : w.cell? ⟨X, 0, none⟩ = some (.bool neg) := cell_of_heap (j := 0) hX.blk rfl
  have x1 : w.cell? ⟨X, 1, none⟩ = some (.slice a n c) := cell_of_heap (j := 1) hX.blk rfl
  have hx := lt_of_heap hX.blk
  have hN := hX.nat
  have hc : ∀ (O : Obj) j, (w.alloc O).cell? ⟨X, j, none⟩ = w.cell? ⟨X, j, none⟩ := fun O j => World.cell?_alloc_lt _ _ _ hx
  have hN' : ∀ O : Obj, NatIn (w.alloc O) a n c g ws := fun O => hN.kept (fun hn => Below.heap_alloc _ _ _ (hN.head hn).2) (by simp)
  have y0 : ∀ O : Obj, (w.alloc O).cell? ⟨X, 0, none⟩ = some (.bool neg) := fun O => (hc O 0).trans x0
  have y1 : ∀ O : Obj, (w.alloc O).cell? ⟨X, 1, none⟩ = some (.slice a n c) := fun O => (hc O 1).trans x1
  clear hc hX
  obtain ⟨v, hv⟩ : ∃ v, toI neg (low n ws) = v := ⟨_, rfl⟩
  have HV : Hid (toI neg (low n ws) = v) := hv
  cases hb : isI neg n (low n ws) with
  | false =>
    have ef : fits neg n (low n ws) = false := by simp [fits, hb]
    rw [ef]
    have HB : Hid (isI neg n (low n ws) = false) := hb
    clear hb hv ef
    go_enter Yba.func8, Yba.ntmps8
    go_wp2_with (go_at_call 19; refine (isI_call _ X neg a n c g ws (hN' _) (y0 _) (y1 _) false HB.out).mono ?_; rintro e w' ⟨rfl, rfl⟩)
    exact bodyPost_ret (v := .agg #[.int .i64 0, .pointer (some ⟨X, 0, none⟩), .int .i64 scale]) (by simp [results, Yba.results8, go_sem]) rfl ⟨rfl, (Below.refl _ _).alloc (Nat.le_refl _) _⟩
  | true =>
    have HB : Hid (isI neg n (low n ws) = true) := hb
    by_cases hm : v = -9223372036854775808
    · have ef : fits neg n (low n ws) = false := by simp [fits, hv, hm]
      rw [ef]
      have hmb : (v != -9223372036854775808) = false := by simpa using hm
      clear hb hv ef hm
      go_enter Yba.func8, Yba.ntmps8
      go_wp2_with (first | (go_at_call 19; refine (isI_call _ X neg a n c g ws (hN' _) (y0 _) (y1 _) true HB.out).mono ?_; rintro e w' ⟨rfl, rfl⟩) | (go_at_call 20; refine (toI_call _ X neg a n c g ws (hN' _) (y0 _) (y1 _) v HV.out).mono ?_; rintro e w' ⟨rfl, rfl⟩))
      exact bodyPost_ret (v := .agg #[.int .i64 0, .pointer (some ⟨X, 0, none⟩), .int .i64 scale]) (by simp [results, Yba.results8, go_sem]) rfl ⟨rfl, (Below.refl _ _).alloc (Nat.le_refl _) _⟩
    · have ef : fits neg n (low n ws) = true := by simp [fits, hb, hv, hm]
      rw [ef, hv]
      have hmb : (v != -9223372036854775808) = true := by simpa using hm
      clear hb hv ef hm
      go_enter Yba.func8, Yba.ntmps8
      go_wp2_with (first | (go_at_call 19; refine (isI_call _ X neg a n c g ws (hN' _) (y0 _) (y1 _) true HB.out).mono ?_; rintro e w' ⟨rfl, rfl⟩) | (go_at_call 20; refine (toI_call _ X neg a n c g ws (hN' _) (y0 _) (y1 _) v HV.out).mono ?_; rintro e w' ⟨rfl, rfl⟩))
      exact bodyPost_ret (v := .agg #[.int .i64 v, .pointer none, .int .i64 scale]) (by simp [results, Yba.results8, go_sem]) rfl ⟨rfl, (Below.refl _ _).alloc (Nat.le_refl _) _⟩
end Go.Proofs.Ybulkpra
