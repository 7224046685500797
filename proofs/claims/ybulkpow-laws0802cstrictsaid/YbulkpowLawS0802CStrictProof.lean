/-
  The proof of the given statement: the frame is the skeleton tool's shell, turned to 'Below'; the walk is ours.
-/
import Derived.Test.YbulkpowRows
import Derived.WalkKit
import Derived.ProofKit
import Derived.OpenShut
import Derived.ShutString
import Derived.ChangeOld
import Derived.Below
import Derived.Deep.Light
import Derived.Test.YbulkpowGroup
namespace Go.Proofs.Ybulkpow.lawS0802CStrict
open Go.ChangeShapes Go.WideShapes Go.ChangeAt Go.RowKit
open Go.ChangeMaps (open_string shut_string)
set_option linter.unusedVariables false      -- a walk need not use every 'w<i>' (that an integer argument fits its kind)

theorem own : ownKnob Yba.prog.godebug = none := by kernel_rfl

theorem st1 {a b c d e f : Int} (h1 : bef a b c d e f = true) (h2 : bef d e f a b c = true) : false = true := by
  have := bef_strict _ _ _ _ _ _ h1
  rw [this] at h2; exact h2
theorem st2 {a b c d e f : Int} (h1 : bef a b c d e f = true) (h2 : a = d) (h3 : b = e) : (!(c == f)) = true := by
  subst h2 h3
  simp [bef] at h1
  simp; omega
theorem st5 {a b c d e f : Int} (h1 : ¬ bef a b c d e f = true) (h2 : a = d) (h3 : b = e) : ((c == f) == !bef d e f d e c) = true := by
  subst h2 h3
  simp [bef] at h1
  by_cases h : c = f
  · subst h; simp [bef]
  · have h2 : f < c := by omega
    simp [bef, h, h2]
theorem st6 {a b c d e f : Int} (h1 : ¬ bef a b c d e f = true) (h2 : a = d) (h3 : ¬ b = e) : bef d e f d b c = true := by
  subst h2
  simp [bef, h3] at h1
  have h4 : ¬ e = b := fun h => h3 h.symm
  simp [bef, h4]; omega
theorem st7 {a b c d e f : Int} (h1 : ¬ bef a b c d e f = true) (h2 : ¬ a = d) : bef d e f a b c = true := by
  simp [bef, h2] at h1
  have h4 : ¬ d = a := fun h => h2 h.symm
  simp [bef, h4]; omega

/-! ### THE WALK -/
theorem walk (a0 : Int) (a1 : Int) (a2 : Int) (a3 : Int) (a4 : Int) (a5 : Int) (w0 : (Lit.int .i64 a0).wf = true) (w1 : (Lit.int .i64 a1).wf = true) (w2 : (Lit.int .u8 a2).wf = true) (w3 : (Lit.int .i64 a3).wf = true) (w4 : (Lit.int .i64 a4).wf = true) (w5 : (Lit.int .u8 a5).wf = true) (w : World) :
    Calls Yba.prog 4 #[.int .i64 a0, .int .i64 a1, .int .u8 a2, .int .i64 a3, .int .i64 a4, .int .u8 a5] w fun e w' => e = .returned (.bool true) ∧ Below w.heap.size w w' := by
  have b2 : 0 ≤ a2 ∧ a2 ≤ 255 := bounds_u8 w2
  have b5 : 0 ≤ a5 ∧ a5 ≤ 255 := bounds_u8 w5
  clear w0 w1 w2 w3 w4 w5
  obtain ⟨n2, rfl⟩ : ∃ n : Nat, a2 = n := ⟨a2.toNat, by omega⟩
  obtain ⟨n5, rfl⟩ : ∃ n : Nat, a5 = n := ⟨a5.toNat, by omega⟩
  have i1 := bef_irrefl a0 a1 n2
  have i2 := bef_irrefl a3 a4 n5
  go_enter Yba.func4, Yba.ntmps4
  go_wp2_with fail
  refine (group_any _ _ _ (by omega) _).mono ?_
  rintro e x1 ⟨k1, rfl, hb1⟩
  go_wp2_with fail
  refine (group_any _ _ _ (by omega) _).mono ?_
  rintro e x2 ⟨k2, rfl, hb2⟩
  obtain ⟨hc2, hf2⟩ := bcell hb2
  have hz1 : w.heap.size ≤ x1.heap.size := hb1.size
  have hz2 : x1.heap.size < x2.heap.size := by have := hb2.size; simp at this; omega
  have B2 : Below w.heap.size w x2 := (hb1.alloc hz1 _).trans (hb2.mono (by simp; omega))
  clear hb1 hb2
  go_wp2_with fail
  refine (before_any _ _ _ _ _ _ _ _ _ _ _).mono ?_
  rintro e x3 ⟨rfl, hb3⟩
  obtain ⟨hc3, hf3⟩ := bcell hb3
  have hz3 : x2.heap.size < x3.heap.size := by have := hb3.size; simp at this; omega
  have hy3 : x1.heap.size < x3.heap.size := by omega
  have B3 : Below w.heap.size w x3 := (B2.alloc (by omega) _).trans (hb3.mono (by simp; omega))
  clear hb3
  go_wp2_with fail
  refine (before_any _ _ _ _ _ _ _ _ _ _ _).mono ?_
  rintro e x4 ⟨rfl, hb4⟩
  obtain ⟨hc4, hf4⟩ := bcell hb4
  have hz4 : x3.heap.size ≤ x4.heap.size := hb4.size
  have hy4 : x1.heap.size < x4.heap.size := by omega
  have hu4 : x2.heap.size < x4.heap.size := by omega
  have B4 : Below w.heap.size w x4 := B3.trans (hb4.mono (by omega))
  clear hb4
  go_wp2_with fail
  refine (before_any _ _ _ _ _ _ _ _ _ _ _).mono ?_
  rintro e x5 ⟨rfl, hb5⟩
  obtain ⟨hc5, hf5⟩ := bcell hb5
  have hz5 : x4.heap.size ≤ x5.heap.size := hb5.size
  have B5 : Below w.heap.size w x5 := B4.trans (hb5.mono (by omega))
  clear hb5
  go_wp2_with fail
  refine (before_any _ _ _ _ _ _ _ _ _ _ _).mono ?_
  rintro e x6 ⟨rfl, hb6⟩
  have B6 : Below w.heap.size w x6 := B5.trans (hb6.mono (by omega))
  clear hb6 hc2 hc3 hc4 hc5 hf2 hf3 hf4 hf5 i1 i2
  go_wp2
  all_goals go_ret
  all_goals refine ⟨ret_bool ?_, B6⟩
  all_goals go_light
  · exact st1 ‹_› ‹_›
  · exact st2 ‹bef a0 a1 n2 a3 a4 n5 = true› ‹_› ‹_›
  · rfl
  · rfl
  · exact st5 ‹_› ‹_› ‹_›
  · exact st6 ‹_› ‹_› ‹_›
  · exact st7 ‹_› ‹_›


/-! ### THE ROW's STEP -/
set_option maxRecDepth 100000 in
theorem lifted (os : Os) (started : os.Started) (H : Type) (enc : TypeId × Value → H) :
    ReturnsInHanded {} Yba.checked os 4 .any (Rows.lawS0802CStrictSpec.pre6 enc Yba.prog Yba.f4 Rows.lawS0802CStrictRow.domain false) (Rows.lawS0802CStrictSpec.post enc Yba.prog Yba.f4 false true false false) := by
  refine returnsInHanded_of_change (C := Yba.checked) own started (by kernel_rfl) Yba.func4
    (ChangeSpec.witness6 (enc := enc) (C := Yba.checked) false ⟨#[], #[.int .i64 0, .int .i64 0, .int .u8 0, .int .i64 0, .int .i64 0, .int .u8 0], []⟩ 8 (by kernel_rfl) (by kernel_rfl) (by kernel_rfl) (by kernel_rfl)) ?_
  intro W base args ds gs before hval0 hW hcnd _
  have hval : ∀ (j : Nat) t v, Yba.f4.params[j]? = some t → args[j]? = some v → Value.okWide Yba.prog W .any base t v := hval0
  have hW' := hW
  obtain ⟨p, q, hA0, hV, rfl, hfz, hnd⟩ := hW
  have hA : DataW.TrodAll enc Yba.prog W 0 (fun _ => true) true Yba.f4.params.toList args.toList ds p := hA0
  rw [Yba.params4] at hA hval
  obtain ⟨v0, vs0, d0, ds0, p0, q0, hargs, rfl, rfl, h0, r0⟩ := trodAll_cons hA
  obtain ⟨v1, vs1, d1, ds1, p1, q1, rfl, rfl, rfl, h1, r1⟩ := trodAll_cons r0
  obtain ⟨v2, vs2, d2, ds2, p2, q2, rfl, rfl, rfl, h2, r2⟩ := trodAll_cons r1
  obtain ⟨v3, vs3, d3, ds3, p3, q3, rfl, rfl, rfl, h3, r3⟩ := trodAll_cons r2
  obtain ⟨v4, vs4, d4, ds4, p4, q4, rfl, rfl, rfl, h4, r4⟩ := trodAll_cons r3
  obtain ⟨v5, vs5, d5, ds5, p5, q5, rfl, rfl, rfl, h5, r5⟩ := trodAll_cons r4
  obtain ⟨rfl, rfl, rfl⟩ := trodAll_nil r5
  obtain rfl : args = #[v0, v1, v2, v3, v4, v5] := by cases args; simp_all
  obtain ⟨rfl, rfl⟩ := trodVars_none hV
  obtain ⟨a0, rfl, rfl, rfl, w0⟩ := open_int Yba.underlying3 (hval 0 3 v0 rfl rfl) h0
  obtain ⟨a1, rfl, rfl, rfl, w1⟩ := open_int Yba.underlying3 (hval 1 3 v1 rfl rfl) h1
  obtain ⟨a2, rfl, rfl, rfl, w2⟩ := open_int Yba.underlying5 (hval 2 5 v2 rfl rfl) h2
  obtain ⟨a3, rfl, rfl, rfl, w3⟩ := open_int Yba.underlying3 (hval 3 3 v3 rfl rfl) h3
  obtain ⟨a4, rfl, rfl, rfl, w4⟩ := open_int Yba.underlying3 (hval 4 3 v4 rfl rfl) h4
  obtain ⟨a5, rfl, rfl, rfl, w5⟩ := open_int Yba.underlying5 (hval 5 5 v5 rfl rfl) h5
  clear hA0 hval0
  simp only [List.append_nil] at hW'
  refine (walk a0 a1 a2 a3 a4 a5 w0 w1 w2 w3 w4 w5 W).mono fun e W' ⟨he, bel⟩ => ?_
  subst he
  exact ⟨_, rfl, _, _, _, [], [], [], hW', trodAll_mk1 (shut_bool Yba.underlying4 _), (trodAll_cons_mk (shut_int Yba.underlying3 w0) (trodAll_cons_mk (shut_int Yba.underlying3 w1) (trodAll_cons_mk (shut_int Yba.underlying5 w2) (trodAll_cons_mk (shut_int Yba.underlying3 w3) (trodAll_cons_mk (shut_int Yba.underlying3 w4) (trodAll_cons_mk (shut_int Yba.underlying5 w5) trodAll_mk0)))))), rfl, bel.frame _, fun h => by cases h⟩

theorem over : Rows.lawS0802CStrictRow.holds Yba.pinned (OpenSpec.ofChange Rows.lawS0802CStrictSpec) :=
  OpenClaim.holds_of_wide 4 Yba.f4 rfl rfl rfl rfl rfl rfl rfl ⟨rfl, rfl, rfl, rfl, rfl⟩ rfl rfl rfl rfl rfl (by kernel_rfl) Yba.func4 (by kernel_rfl)
    (of_decide_eq_true (by kernel_rfl)) (by unfold Func.isWrapper; first | (rw [if_pos (by decide +kernel)]; kernel_rfl) | (rw [if_neg (by decide +kernel)]; exact ⟨rfl, rfl⟩))
    (fun os started H enc _ => lifted os started H enc)

/-- ████ THE STATEMENT ████ -/
theorem proved : Rows.LawS0802CStrictSaid :=
  over
#print axioms proved
end Go.Proofs.Ybulkpow.lawS0802CStrict
