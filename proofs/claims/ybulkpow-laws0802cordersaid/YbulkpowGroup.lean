/-
  Contracts of 'zzs0802cgroup' (5), '(group).before' (6) and 'zzs0802cmodel' (7).
-/
import Derived.Test.YbulkpowChecked
import Derived.WalkKit
import Derived.ProofKit
namespace Go.Proofs.Ybulkpow
open Go.RowKit

/-- what 'before' answers, on plain numbers -/
def bef (ga gw gn ha hw hn : Int) : Bool :=
  if ga = ha then (if gw = hw then decide (gn < hn) else decide (gw < hw)) else decide (ga < ha)

theorem bef_a {ga gw gn ha hw hn : Int} (h : (ga != ha) = true) : decide (ga < ha) = bef ga gw gn ha hw hn := by
  have : ¬ ga = ha := by simpa using h
  simp [bef, this]
theorem bef_w {ga gw gn ha hw hn : Int} (h : (ga != ha) = false) (h2 : (gw != hw) = true) : decide (gw < hw) = bef ga gw gn ha hw hn := by
  have e : ga = ha := by simpa using h
  have : ¬ gw = hw := by simpa using h2
  simp [bef, e, this]
theorem bef_n {ga gw gn ha hw hn : Int} (h : (ga != ha) = false) (h2 : (gw != hw) = false) : decide (gn < hn) = bef ga gw gn ha hw hn := by
  have e : ga = ha := by simpa using h
  have e2 : gw = hw := by simpa using h2
  simp [bef, e, e2]

theorem info58 : ∃ i, Yba.prog.info? 58 = some i ∧ (∃ z, i.zero = some z) ∧ i.bytes = 120 := by
  have h : (Yba.prog.info? 58).map (fun i => (i.zero.isSome, i.bytes)) = some (true, 120) := by kernel_rfl
  obtain ⟨i, hi, hz⟩ := Option.map_eq_some_iff.1 h
  simp only [Prod.mk.injEq] at hz
  exact ⟨i, hi, Option.isSome_iff_exists.1 hz.1, hz.2⟩

theorem mk58 (n : Nat) (h1 : n ≤ 255) : ∃ C : Array Value, ∀ w : World, (Instr.makeSlice 23 (.int .i64 n) (.int .i64 n)).run Yba.prog w = .ok (.slice (some ⟨w.heap.size, 0, none⟩) n n) (w.alloc (.cells C 58)) := by
  obtain ⟨i, hi, ⟨z, hz⟩, hb⟩ := info58
  exact ⟨_, fun w => run_make (P := Yba.prog) w 23 58 i z Yba.underlying23 hi hz .i64 .i64 n n (by omega) (Int.le_refl _) (by rw [hb]; omega) (by omega)⟩

theorem group_any (a b : Int) (n : Nat) (h1 : n ≤ 255) (w : World) :
    Calls Yba.prog 5 #[.int .i64 a, .int .i64 b, .int .u8 n] w fun e w' =>
      ∃ k, e = .returned (.agg #[.slice none 0 0, .slice (some k) n n, .int .i64 a, .int .i64 b]) ∧ Below w.heap.size w w' := by
  obtain ⟨C, hmk⟩ := mk58 n h1
  go_enter Yba.func5, Yba.ntmps5
  go_wp2
  exact bodyPost_ret (v := .agg #[.slice none 0 0, .slice (some ⟨w.heap.size + 1, 0, none⟩) n n, .int .i64 a, .int .i64 b]) (by simp [results, Yba.results5, go_sem]) rfl ⟨_, rfl, ((Below.refl _ _).alloc (Nat.le_refl _) _).alloc (by simp) _⟩

theorem ret_bool {a b : Bool} (h : a = b) : Ending.returned (.bool a) = .returned (.bool b) := by rw [h]

theorem bef_n' {ga gw ha hw : Int} {gn hn : Nat} (h : (ga != ha) = false) (h2 : (gw != hw) = false) : decide (gn < hn) = bef ga gw gn ha hw hn := by
  rw [← bef_n (gn := (gn : Int)) (hn := (hn : Int)) h h2]; exact decide_eq_decide.2 (by omega)

theorem before_any (p q : Value) (k l : Addr) (ga gw ha hw : Int) (gn hn : Nat) (w : World) :
    Calls Yba.prog 6 #[.agg #[p, .slice (some k) gn gn, .int .i64 ga, .int .i64 gw], .agg #[q, .slice (some l) hn hn, .int .i64 ha, .int .i64 hw]] w fun e w' =>
      e = .returned (.bool (bef ga gw gn ha hw hn)) ∧ Below w.heap.size w w' := by
  go_enter Yba.func6, Yba.ntmps6
  go_wp2
  all_goals go_ret
  · exact ⟨ret_bool (bef_a ‹_›), ((Below.refl _ _).alloc (Nat.le_refl _) _).alloc (by simp) _⟩
  · exact ⟨ret_bool (bef_w ‹_› ‹_›), ((Below.refl _ _).alloc (Nat.le_refl _) _).alloc (by simp) _⟩
  · exact ⟨ret_bool (bef_n' ‹_› ‹_›), ((Below.refl _ _).alloc (Nat.le_refl _) _).alloc (by simp) _⟩

theorem model_a {ga gw gn ha hw hn : Int} (h : ga < ha) : true = bef ga gw gn ha hw hn := by
  have : ¬ ga = ha := by omega
  simp [bef, this, h]
theorem model_b {ga gw gn ha hw hn : Int} (h : ha < ga) : false = bef ga gw gn ha hw hn := by
  have : ¬ ga = ha := by omega
  have h2 : ¬ ga < ha := by omega
  simp [bef, this, h2]
theorem model_c {ga gw gn ha hw hn : Int} (h : ha ≤ ga) (h' : ga ≤ ha) (h2 : gw < hw) : true = bef ga gw gn ha hw hn := by
  have e : ga = ha := by omega
  have e2 : ¬ gw = hw := by omega
  simp [bef, e, e2, h2]
theorem model_d {ga gw gn ha hw hn : Int} (h : ha ≤ ga) (h' : ga ≤ ha) (h2 : hw < gw) : false = bef ga gw gn ha hw hn := by
  have e : ga = ha := by omega
  have e2 : ¬ gw = hw := by omega
  have e3 : ¬ gw < hw := by omega
  simp [bef, e, e2, e3]
theorem model_e {ga gw gn ha hw hn : Int} (h : ha ≤ ga) (h' : ga ≤ ha) (h2 : hw ≤ gw) (h3 : gw ≤ hw) : decide (gn < hn) = bef ga gw gn ha hw hn := by
  have e : ga = ha := by omega
  have e2 : gw = hw := by omega
  simp [bef, e, e2]

theorem model_any (ga gw gn ha hw hn : Int) (w : World) :
    Calls Yba.prog 7 #[.int .i64 ga, .int .i64 gw, .int .i64 gn, .int .i64 ha, .int .i64 hw, .int .i64 hn] w fun e w' =>
      e = .returned (.bool (bef ga gw gn ha hw hn)) ∧ w' = w := by
  go_enter Yba.func7, Yba.ntmps7
  go_wp2
  all_goals go_ret
  · exact ⟨ret_bool (model_a ‹_›), rfl⟩
  · exact ⟨ret_bool (model_b ‹_›), rfl⟩
  · exact ⟨ret_bool (model_c ‹_› ‹_› ‹_›), rfl⟩
  · exact ⟨ret_bool (model_d ‹_› ‹_› ‹_›), rfl⟩
  · exact ⟨ret_bool (model_e ‹_› ‹_› ‹_› ‹_›), rfl⟩

theorem bef_irrefl (a b n : Int) : bef a b n a b n = false := by simp [bef]
theorem bef_strict (ga gw gn ha hw hn : Int) (h : bef ga gw gn ha hw hn = true) : bef ha hw hn ga gw gn = false := by
  revert h
  unfold bef
  by_cases e : ga = ha
  · subst e
    by_cases e2 : gw = hw
    · subst e2; simp; omega
    · have e3 : ¬ hw = gw := fun h => e2 h.symm
      simp [e2, e3]; omega
  · have e3 : ¬ ha = ga := fun h => e h.symm
    simp [e, e3]; omega
theorem lt_or_gt {a b : Int} (h : ¬ a = b) : (a < b ∧ ¬ b < a) ∨ (¬ a < b ∧ b < a) := by omega
theorem bef_same (ga gw gn ha hw hn : Int) : ((ga == ha && gw == hw && gn == hn) == (!bef ga gw gn ha hw hn && !bef ha hw hn ga gw gn)) = true := by
  unfold bef
  by_cases e : ga = ha
  · subst e
    by_cases e2 : gw = hw
    · subst e2
      by_cases e4 : gn = hn
      · subst e4; simp
      · rcases lt_or_gt e4 with ⟨h1, h2⟩ | ⟨h1, h2⟩ <;> simp [e4, h1, h2]
    · have e3 : ¬ hw = gw := fun h => e2 h.symm
      rcases lt_or_gt e2 with ⟨h1, h2⟩ | ⟨h1, h2⟩ <;> simp [e2, e3, h1, h2]
  · have e3 : ¬ ha = ga := fun h => e h.symm
    rcases lt_or_gt e with ⟨h1, h2⟩ | ⟨h1, h2⟩ <;> simp [e, e3, h1, h2]

theorem bcell {W w1 : World} (hb : Below W.heap.size W w1) : (∀ b o, b < W.heap.size → w1.cell? ⟨b, o, none⟩ = W.cell? ⟨b, o, none⟩) ∧ (∀ b o, b < W.heap.size → w1.frozen? ⟨b, o, none⟩ = W.frozen? ⟨b, o, none⟩) :=
  ⟨fun b o h => hb.cell (p := ⟨b, o, none⟩) h, fun b o h => hb.frozen (p := ⟨b, o, none⟩) h⟩
end Go.Proofs.Ybulkpow
