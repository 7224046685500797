/-
  Contracts of what only reads a big.Int: low64 (28), IsInt64 (19), Int64 (20), bitLen (22), BitLen (10), cmp (21), Cmp (9).
-/
import Derived.Test.YbulkpraChecked
import Derived.Test.YbulkpraLen
import Derived.Test.YbulkpraNum
import Derived.WalkKit
import Derived.ProofKit
import Derived.WalkSpells
import Derived.Deep.QuietTactic
import Derived.BigQuiet
import Derived.Lib.Builder
namespace Go.Proofs.Ybulkpra
open Go.RowKit

/-- a nat that is read: what each index comes to, and the words -/
structure NatIn (w : World) (a : Option Addr) (n c g : Nat) (ws : Nat → Int) : Prop where
  ix : ∀ (k : Nat) (wx : World), k < n → (Instr.indexAt 25 (.slice a n c) (.int .i64 k)).run Yba.prog wx = .ok (.pointer (some ⟨g, k, none⟩)) wx
  cell : ∀ k, k < n → w.cell? ⟨g, k, none⟩ = some (.int .u64 (ws k))
  bd : ∀ k, 0 ≤ ws k ∧ ws k ≤ 18446744073709551615
  nle : n ≤ 1000
  head : 0 < n → a = some ⟨g, 0, none⟩ ∧ g < w.heap.size

theorem NatIn.drew {w : World} {a : Option Addr} {n c g : Nat} {ws : Nat → Int} (h : NatIn w a n c g ws) (m : Nat) : NatIn (w.drewN m) a n c g ws := ⟨h.ix, h.cell, h.bd, h.nle, h.head⟩

def low (n : Nat) (ws : Nat → Int) : Int := if n = 0 then 0 else ws 0
def isI (neg : Bool) (n : Nat) (lo : Int) : Bool := if n ≤ 1 then (decide (0 ≤ wrap64 lo) || (neg && wrap64 lo == wrap64 (-wrap64 lo))) else false
def toI (neg : Bool) (lo : Int) : Int := if neg = true then wrap64 (-wrap64 lo) else wrap64 lo

theorem ret_int {k : IntKind} {a b : Int} (h : a = b) : Ending.returned (.int k a) = .returned (.int k b) := by rw [h]
theorem ret_bool {a b : Bool} (h : a = b) : Ending.returned (.bool a) = .returned (.bool b) := by rw [h]

theorem low64_any (w : World) (a : Option Addr) (n c g : Nat) (ws : Nat → Int) (h : NatIn w a n c g ws) :
    Calls Yba.prog 28 #[.slice a n c] w fun e w' => e = .returned (.int .u64 (low n ws)) ∧ w' = w := by
  have hn := h.nle
  by_cases h0 : n = 0
  · subst h0
    clear h
    go_enter Yba.func28, Yba.ntmps28
    go_wp2
    go_ret
    exact ⟨rfl, rfl⟩
  · have hix := h.ix 0
    have hc := h.cell 0 (by omega)
    have hb := h.bd 0
    have hp : 0 < n := by omega
    have hn0 : ((n : Int) == 0) = false := by simpa using h0
    simp only [Int.natCast_zero] at hix
    clear h
    go_enter Yba.func28, Yba.ntmps28
    go_wp2
    go_ret
    exact ⟨ret_int (by rw [low, if_neg h0]), rfl⟩

theorem isI_a {neg : Bool} {n : Nat} {lo : Int} (h : (n : Int) ≤ 1) (_ : wrap64 lo < 0) (h2 : neg = true) : (decide (0 ≤ wrap64 lo) || wrap64 lo == wrap64 (-wrap64 lo)) = isI neg n lo := by
  have : n ≤ 1 := by omega
  simp [isI, this, h2]
theorem isI_b {neg : Bool} {n : Nat} {lo : Int} (h : (n : Int) ≤ 1) (_ : wrap64 lo < 0) (h2 : ¬ neg = true) : decide (0 ≤ wrap64 lo) = isI neg n lo := by
  have : n ≤ 1 := by omega
  simp [isI, this, h2]
theorem isI_c {neg : Bool} {n : Nat} {lo : Int} (h : (n : Int) ≤ 1) (h1 : 0 ≤ wrap64 lo) : true = isI neg n lo := by
  have : n ≤ 1 := by omega
  simp [isI, this, h1]
theorem isI_d {neg : Bool} {n : Nat} {lo : Int} (h : 1 < (n : Int)) : false = isI neg n lo := by
  have : ¬ n ≤ 1 := by omega
  simp [isI, this]

theorem isInt64_any (w : World) (X : Nat) (neg : Bool) (a : Option Addr) (n c g : Nat) (ws : Nat → Int) (h : NatIn w a n c g ws) (h0 : w.cell? ⟨X, 0, none⟩ = some (.bool neg)) (h1 : w.cell? ⟨X, 1, none⟩ = some (.slice a n c)) :
    Calls Yba.prog 19 #[.pointer (some ⟨X, 0, none⟩)] w fun e w' => e = .returned (.bool (isI neg n (low n ws))) ∧ w = w' := by
  have hn := h.nle
  go_enter Yba.func19, Yba.ntmps19
  go_wp2_with (go_at_call 28; refine (low64_any _ a n c g ws h).mono ?_; rintro e w' ⟨rfl, rfl⟩)
  all_goals go_ret
  · exact ⟨ret_bool (isI_a ‹_› ‹_› ‹_›), rfl⟩
  · exact ⟨ret_bool (isI_b ‹_› ‹_› ‹_›), rfl⟩
  · exact ⟨ret_bool (isI_c ‹_› ‹_›), rfl⟩
  · exact ⟨ret_bool (isI_d ‹_›), rfl⟩

theorem int64_any (w : World) (X : Nat) (neg : Bool) (a : Option Addr) (n c g : Nat) (ws : Nat → Int) (h : NatIn w a n c g ws) (h0 : w.cell? ⟨X, 0, none⟩ = some (.bool neg)) (h1 : w.cell? ⟨X, 1, none⟩ = some (.slice a n c)) :
    Calls Yba.prog 20 #[.pointer (some ⟨X, 0, none⟩)] w fun e w' => e = .returned (.int .i64 (toI neg (low n ws))) ∧ w = w' := by
  have hn := h.nle
  go_enter Yba.func20, Yba.ntmps20
  go_wp2_with (go_at_call 28; refine (low64_any _ a n c g ws h).mono ?_; rintro e w' ⟨rfl, rfl⟩)
  all_goals go_ret
  · exact ⟨ret_int (by rw [toI, if_pos ‹neg = true›]), rfl⟩
  · have hf : neg = false := by assumption
    exact ⟨ret_int (by rw [toI, if_neg (by simp [hf])]), rfl⟩

theorem len_any (x : Int) (w : World) (h0 : 0 ≤ x) (h1 : x ≤ 18446744073709551615) :
    Calls Yba.prog 29 #[.int .u64 x] w fun e w' => ∃ r : Int, e = .returned (.int .i64 r) ∧ 0 ≤ r ∧ r ≤ 64 ∧ Hid (r ≤ 63 ↔ x < 9223372036854775808) ∧ w' = w := by
  refine (Yba.bits_Len x w h0 h1).mono ?_
  rintro e w' ⟨rfl, rfl⟩
  obtain ⟨h2, h3⟩ := bitLen_63 (x := x.toNat) (by omega)
  refine ⟨_, rfl, by omega, by omega, ?_, rfl⟩
  show _ ↔ _
  omega

theorem bitLen_any (w : World) (a : Option Addr) (n c g : Nat) (ws : Nat → Int) (h : NatIn w a n c g ws) :
    Calls Yba.prog 22 #[.slice a n c] w fun e w' => ∃ r : Int, e = .returned (.int .i64 r) ∧ Hid (r ≤ 63 ↔ (n = 0 ∨ (n = 1 ∧ ws 0 < 9223372036854775808))) ∧ w' = w := by
  have hn := h.nle
  by_cases h0 : n = 0
  · subst h0
    clear h
    go_enter Yba.func22, Yba.ntmps22
    go_wp2
    go_ret
    exact ⟨0, rfl, by show _ ↔ _; simp, rfl⟩
  · have hix := h.ix (n - 1)
    have hc := h.cell (n - 1) (by omega)
    have hb := h.bd (n - 1)
    have hp : n - 1 < n := by omega
    have e : ((n - 1 : Nat) : Int) = (n : Int) - 1 := by omega
    rw [e] at hix
    clear h e
    obtain ⟨s0, s1, s2⟩ := smear_bd hb.1 hb.2
    have HS : Hid (smear (ws (n - 1)) < 9223372036854775808 ↔ ws (n - 1) < 9223372036854775808) := s2
    clear s2
    go_enter Yba.func22, Yba.ntmps22
    go_wp2_with fail
    refine (len_any (smear (ws (n - 1))) _ s0 s1).mono ?_
    rintro e w' ⟨r, rfl, hr0, hr1, HR, rfl⟩
    clear s0 s1
    go_wp2
    go_ret
    refine ⟨_, rfl, ?_, rfl⟩
    have h1 := HR.out
    have h2 := HS.out
    show _ ↔ _
    by_cases h3 : n = 1
    · subst h3
      rw [h2] at h1
      simp at h1 ⊢
      exact h1
    · have : 2 ≤ n := by omega
      have hn1 : ¬ (n = 0 ∨ (n = 1 ∧ ws 0 < 9223372036854775808)) := by omega
      simp only [hn1, iff_false]
      omega

theorem BitLen_any (w : World) (X : Nat) (a : Option Addr) (n c g : Nat) (ws : Nat → Int) (h : NatIn w a n c g ws) (h1 : w.cell? ⟨X, 1, none⟩ = some (.slice a n c)) :
    Calls Yba.prog 10 #[.pointer (some ⟨X, 0, none⟩)] w fun e w' => ∃ r : Int, e = .returned (.int .i64 r) ∧ Hid (r ≤ 63 ↔ (n = 0 ∨ (n = 1 ∧ ws 0 < 9223372036854775808))) ∧ w' = w := by
  go_enter Yba.func10, Yba.ntmps10
  go_wp2_with fail
  refine (bitLen_any _ a n c g ws h).mono ?_
  rintro e w' ⟨r, rfl, HR, rfl⟩
  go_wp2
  go_ret
  exact ⟨r, rfl, HR, rfl⟩

theorem drew_next {w w' : World} (h : ∃ m, w' = w.drewN m) (n : Nat) : ∃ m, w'.drewN n = w.drewN m := by
  obtain ⟨m, rfl⟩ := h
  exact ⟨m + n, by simp [World.drewN, Nat.add_assoc]⟩

/-- two nats of the same words -/
theorem cmp_same (w : World) (a a' : Option Addr) (n c c' g g' : Nat) (ws : Nat → Int) (h : NatIn w a n c g ws) (h' : NatIn w a' n c' g' ws) :
    Calls Yba.prog 21 #[.slice a n c, .slice a' n c'] w fun e w' => e = .returned (.int .i64 0) ∧ ∃ m, w' = w.drewN m := by
  have hn := h.nle
  by_cases h0 : n = 0
  · subst h0
    clear h h'
    go_enter Yba.func21, Yba.ntmps21
    go_wp2
    go_ret
    exact ⟨rfl, 0, rfl⟩
  · have hix := h.ix
    have hix' := h'.ix
    have hc := h.cell
    have hc' := h'.cell
    have hb := h.bd
    have hn0 : ((n : Int) == 0) = false := by simpa using h0
    clear h h'
    go_enter Yba.func21, Yba.ntmps21
    go_wp2
    go_loopw [7] (fun i wr => ∃ k : Nat, k < n ∧ i = .int .i64 k ∧ Hid (∃ m, wr = w.drewN m)) (fun i _ => (intOf i).toNat)
    case atStart => exact ⟨n - 1, by omega, by go_num, ⟨0, rfl⟩⟩
    case round =>
      obtain ⟨k, hk, rfl, HW⟩ := hrel
      have hck : wr.cell? ⟨g, k, none⟩ = some (.int .u64 (ws k)) := by obtain ⟨m, rfl⟩ := HW.out; exact hc k hk
      have hck' : wr.cell? ⟨g', k, none⟩ = some (.int .u64 (ws k)) := by obtain ⟨m, rfl⟩ := HW.out; exact hc' k hk
      by_cases hk0 : 0 < k
      · have hki : (0 : Int) < k := by omega
        go_wp2
        go_quiet (fail)
        have R : Hid (∃ m, wr.drewN nq = w.drewN m) := drew_next HW.out _
        clear hck hck' HW
        go_wp2
        go_roundw
        case rel => exact ⟨k - 1, by omega, by go_num, R⟩
        case measure => simp [intOf]; omega
      · obtain rfl : k = 0 := by omega
        have hix0 := hix 0
        have hix0' := hix' 0
        simp only [Int.natCast_zero] at hix0 hix0'
        go_wp2
        go_quiet (fail)
        go_wp2
        go_quiet (fail)
        go_wp2
        go_quiet (fail)
        go_wp2
        go_ret
        exact ⟨rfl, drew_next (drew_next (drew_next HW.out _) _) _⟩

theorem cmp_quiet (w : World) (p q : Nat) (a a' : Option Addr) (n c c' g g' : Nat) (ws : Nat → Int) (h : NatIn w a n c g ws) (h' : NatIn w a' n c' g' ws) :
    Calls Yba.prog 21 #[.slice a n c, .slice a' n c'] (w.drewN (p + q)) fun e w' => e = .returned (.int .i64 0) ∧ ∃ m, w' = w.drewN (p + m) :=
  (cmp_same _ a a' n c c' g g' ws (h.drew _) (h'.drew _)).mono fun _ _ ⟨he, m, hm⟩ => ⟨he, q + m, by rw [hm, World.drewN_drewN, Nat.add_assoc]⟩

/-- Cmp of two Ints at two places that hold the same number -/
theorem Cmp_same (w : World) (X Y : Nat) (neg : Bool) (a a' : Option Addr) (n c c' g g' : Nat) (ws : Nat → Int) (h : NatIn w a n c g ws) (h' : NatIn w a' n c' g' ws) (hne : ∀ wx : World, (∃ m, wx = w.drewN m) → (binOp .eql 23 (.pointer (some ⟨X, 0, none⟩)) (.pointer (some ⟨Y, 0, none⟩))).run Yba.prog wx = .ok (.bool false) wx)
    (x0 : w.cell? ⟨X, 0, none⟩ = some (.bool neg)) (x1 : w.cell? ⟨X, 1, none⟩ = some (.slice a n c)) (y0 : w.cell? ⟨Y, 0, none⟩ = some (.bool neg)) (y1 : w.cell? ⟨Y, 1, none⟩ = some (.slice a' n c')) :
    Calls Yba.prog 9 #[.pointer (some ⟨X, 0, none⟩), .pointer (some ⟨Y, 0, none⟩)] w fun e w' => e = .returned (.int .i64 0) ∧ ∃ m, w' = w.drewN m := by
  have hne0 := hne w ⟨0, rfl⟩
  clear hne
  go_enter Yba.func9, Yba.ntmps9
  go_wp2
  go_quiet (fail)
  go_wp2
  go_quiet ((go_at_call 21; exact cmp_quiet w _ _ a a' n c c' g g' ws h h'))
  go_wp2
  all_goals go_ret
  all_goals exact ⟨rfl, _, rfl⟩
end Go.Proofs.Ybulkpra
