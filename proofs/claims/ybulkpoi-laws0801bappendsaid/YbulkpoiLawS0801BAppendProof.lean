/-
  The proof of the given statement LawS0801BAppendSaid: the frame is the skeleton tool's way for slices ('Below'), turned to slices of strings; the walk is YbulkpoiAppWalk's.
-/
import Derived.Test.YbulkpoiRows
import Derived.Test.YbulkpoiAppWalk
import Derived.WalkKit
import Derived.ProofKit
import Derived.OpenShut
import Derived.ShutString
import Derived.SliceStrings
import Derived.ChangeOld
import Derived.Below
namespace Go.Proofs.Ybulkpoi.lawS0801BAppend
open Go.ChangeShapes Go.WideShapes Go.ChangeAt Go.RowKit
open Go.ChangeMaps (open_string shut_string)
set_option linter.unusedVariables false

theorem own : ownKnob Yba.prog.godebug = none := by kernel_rfl
theorem laidOut : laidOutB Yba.prog = true := by kernel_rfl

theorem ix_any {b o n c k : Nat} (hk : k < n) (wx : World) : (Instr.indexAt 29 (.slice (some ⟨b, o, none⟩) n c) (.int .i64 k)).run Yba.prog wx = .ok (.pointer (some ⟨b, o + k, none⟩)) wx := by
  have h9 := size9
  obtain ⟨i, hi, hs⟩ := Option.map_eq_some_iff.1 h9
  rw [run_indexAt_slice wx 29 ⟨b, o, none⟩ n c .i64 k (by rw [Yba.underlying29]; simp [Program.elem, Yba.underlying29])]
  rw [if_pos (by omega)]
  simp [Program.elem, Yba.underlying29, sizeOf, typeInfo, hi, hs, Go.WideShapes.add_plain]

theorem strs_of {w : World} {x : Addr} {len cap : Nat} {ss : List ByteArray} (hl : len ≤ cap) (hz : ss.length = cap) (hc : ∀ i, i < ss.length → w.cell? (x.add i) = some (.string (ss.getD i ByteArray.empty))) :
    ∃ b o s, StrsIn w (some x) len cap b o s := by
  by_cases h0 : len = 0
  · subst h0
    exact ⟨0, 0, fun _ => ByteArray.empty, fun k wx hk => absurd hk (by omega), fun k hk => absurd hk (by omega), fun h => absurd h (by omega), fun _ => rfl⟩
  · obtain ⟨b, o, spot⟩ := x
    have hspot : spot = none := by simpa [Addr.add] using World.cell?_spot (hc 0 (by omega))
    subst hspot
    refine ⟨b, o, fun i => ss.getD i ByteArray.empty, fun k wx hk => ix_any hk wx, fun k hk => by rw [← Go.WideShapes.add_plain]; exact hc k (by omega), fun _ => ⟨?_, rfl⟩, fun h => by simp at h⟩
    have h1 := hc 0 (by omega)
    rw [Go.WideShapes.add_plain] at h1
    unfold World.cell? at h1
    cases h : w.heap[b]? with
    | none => simp [h] at h1
    | some ob => exact (Array.getElem?_eq_some_iff.1 h).1
theorem strs_nil {w : World} : ∃ b o s, StrsIn w none 0 0 b o s :=
  ⟨0, 0, fun _ => ByteArray.empty, fun k wx hk => absurd hk (by omega), fun k hk => absurd hk (by omega), fun h => absurd h (by omega), fun _ => rfl⟩

/-! ### THE WALK -/
set_option maxRecDepth 100000 in
theorem walk (a0 : Option Addr) (l0 c0 b0 o0 : Nat) (s0 : Nat → ByteArray) (name : ByteArray) (par : Int) (a3 : Option Addr) (l3 c3 b3 o3 : Nat) (s3 : Nat → ByteArray) (acks tag : Int) (w : World)
    (h0 : StrsIn w a0 l0 c0 b0 o0 s0) (h3 : StrsIn w a3 l3 c3 b3 o3 s3) (hm0 : l0 ≤ maxLen) (hm3 : l3 ≤ maxLen) :
    Calls Yba.prog 5 #[.slice a0 l0 c0, .string name, .int .i64 par, .slice a3 l3 c3, .int .i64 acks, .int .i64 tag] w fun e w' => e = .returned (.bool true) ∧ Below w.heap.size w w' := by
  unfold maxLen at hm0 hm3
  by_cases hl0 : l0 ≤ 1024
  · by_cases hl3 : l3 ≤ 1024
    · exact app_walk a0 l0 c0 b0 o0 s0 name par a3 l3 c3 b3 o3 s3 acks tag w h0 h3 hl0 hl3
    · clear h0 h3
      go_enter Yba.func5, Yba.ntmps5
      go_wp2
      go_ret
      exact ⟨rfl, (Below.refl _ _).alloc (Nat.le_refl _) _⟩
  · clear h0 h3
    go_enter Yba.func5, Yba.ntmps5
    go_wp2
    go_ret
    exact ⟨rfl, (Below.refl _ _).alloc (Nat.le_refl _) _⟩

/-! ### THE ROW's STEP -/
set_option maxRecDepth 100000 in
theorem lifted (os : Os) (started : os.Started) (H : Type) (enc : TypeId × Value → H) :
    ReturnsInHanded {} Yba.checked os 5 .any (Rows.lawS0801BAppendSpec.pre6 enc Yba.prog Yba.f5 Rows.lawS0801BAppendRow.domain false) (Rows.lawS0801BAppendSpec.post enc Yba.prog Yba.f5 false true false false) := by
  refine returnsInHanded_of_change (C := Yba.checked) own started (by kernel_rfl) Yba.func5
    (ChangeSpec.witness6 (enc := enc) (C := Yba.checked) false ⟨#[], #[.slice none 0 0, .string ByteArray.empty, .int .i64 0, .slice none 0 0, .int .i64 0, .int .i64 0], []⟩ 8 (by kernel_rfl) (by kernel_rfl) (by kernel_rfl) (by kernel_rfl)) ?_
  intro W base args ds gs before hval0 hW hcnd _
  have hval : ∀ (j : Nat) t v, Yba.f5.params[j]? = some t → args[j]? = some v → Value.okWide Yba.prog W .any base t v := hval0
  have hW' := hW
  obtain ⟨p, q, hA0, hV, rfl, hfz, hnd⟩ := hW
  have hA : DataW.TrodAll enc Yba.prog W 0 (fun _ => true) true Yba.f5.params.toList args.toList ds p := hA0
  rw [Yba.params5] at hA hval
  obtain ⟨v0, vs0, d0, ds0, p0, q0, hargs, rfl, rfl, h0, r0⟩ := trodAll_cons hA
  obtain ⟨v1, vs1, d1, ds1, p1, q1, rfl, rfl, rfl, h1, r1⟩ := trodAll_cons r0
  obtain ⟨v2, vs2, d2, ds2, p2, q2, rfl, rfl, rfl, h2, r2⟩ := trodAll_cons r1
  obtain ⟨v3, vs3, d3, ds3, p3, q3, rfl, rfl, rfl, h3, r3⟩ := trodAll_cons r2
  obtain ⟨v4, vs4, d4, ds4, p4, q4, rfl, rfl, rfl, h4, r4⟩ := trodAll_cons r3
  obtain ⟨v5, vs5, d5, ds5, p5, q5, rfl, rfl, rfl, h5, r5⟩ := trodAll_cons r4
  obtain ⟨rfl, rfl, rfl⟩ := trodAll_nil r5
  obtain rfl : args = #[v0, v1, v2, v3, v4, v5] := by cases args; simp_all
  obtain ⟨rfl, rfl⟩ := trodVars_none hV
  obtain ⟨a0, len0, cap0, rfl⟩ := okWide_slice Yba.underlying29 (hval 0 29 v0 rfl rfl)
  have k0 := h0
  have lt0 : ∀ x ∈ p0, x.block < W.heap.size := by obtain ⟨m, hm⟩ := k0; exact DataW.trod_lt m _ _ _ hm
  obtain ⟨b0, o0, s0, w0, m0⟩ : ∃ b o s, StrsIn W a0 len0 cap0 b o s ∧ len0 ≤ maxLen := by
    obtain ⟨fuel, hf⟩ := h0
    rcases open_strings Yba.underlying29 Yba.underlying9 (by kernel_rfl) hf with ⟨hcs, _⟩ | ⟨x, l, c, ss, hcs, _, hl, hm, hz, _, hcell, _⟩
    · simp [Value.cells] at hcs
      obtain ⟨rfl, rfl, rfl⟩ := hcs
      obtain ⟨b, o, s, h⟩ := strs_nil (w := W)
      exact ⟨b, o, s, h, Nat.zero_le _⟩
    · simp [Value.cells] at hcs
      obtain ⟨rfl, rfl, rfl⟩ := hcs
      obtain ⟨b, o, s, h⟩ := strs_of hl (by simpa using hz) hcell
      exact ⟨b, o, s, h, Nat.le_trans hl hm⟩
  obtain ⟨a1, rfl, rfl, rfl, w1⟩ := open_string Yba.underlying9 (hval 1 9 v1 rfl rfl) h1
  obtain ⟨a2, rfl, rfl, rfl, w2⟩ := open_int Yba.underlying3 (hval 2 3 v2 rfl rfl) h2
  obtain ⟨a3, len3, cap3, rfl⟩ := okWide_slice Yba.underlying29 (hval 3 29 v3 rfl rfl)
  have k3 := h3
  have lt3 : ∀ x ∈ p3, x.block < W.heap.size := by obtain ⟨m, hm⟩ := k3; exact DataW.trod_lt m _ _ _ hm
  obtain ⟨b3, o3, s3, w3, m3⟩ : ∃ b o s, StrsIn W a3 len3 cap3 b o s ∧ len3 ≤ maxLen := by
    obtain ⟨fuel, hf⟩ := h3
    rcases open_strings Yba.underlying29 Yba.underlying9 (by kernel_rfl) hf with ⟨hcs, _⟩ | ⟨x, l, c, ss, hcs, _, hl, hm, hz, _, hcell, _⟩
    · simp [Value.cells] at hcs
      obtain ⟨rfl, rfl, rfl⟩ := hcs
      obtain ⟨b, o, s, h⟩ := strs_nil (w := W)
      exact ⟨b, o, s, h, Nat.zero_le _⟩
    · simp [Value.cells] at hcs
      obtain ⟨rfl, rfl, rfl⟩ := hcs
      obtain ⟨b, o, s, h⟩ := strs_of hl (by simpa using hz) hcell
      exact ⟨b, o, s, h, Nat.le_trans hl hm⟩
  obtain ⟨a4, rfl, rfl, rfl, w4⟩ := open_int Yba.underlying3 (hval 4 3 v4 rfl rfl) h4
  obtain ⟨a5, rfl, rfl, rfl, w5⟩ := open_int Yba.underlying3 (hval 5 3 v5 rfl rfl) h5
  clear hA0 hval0
  refine (walk a0 len0 cap0 b0 o0 s0 a1 a2 a3 len3 cap3 b3 o3 s3 a4 a5 W w0 w3 m0 m3).mono fun e W' ⟨he, bel⟩ => ?_
  subst he
  exact ⟨_, rfl, _, _, _, [], _, [], hW', trodAll_mk1 (shut_bool Yba.underlying4 _),
    (trodAll_cons_mk (Below.trod laidOut (by kernel_rfl) (of_decide_eq_true (by kernel_rfl)) k0 bel lt0) (trodAll_cons_mk (shut_string Yba.underlying9 w1) (trodAll_cons_mk (shut_int Yba.underlying3 w2)
      (trodAll_cons_mk (Below.trod laidOut (by kernel_rfl) (of_decide_eq_true (by kernel_rfl)) k3 bel lt3) (trodAll_cons_mk (shut_int Yba.underlying3 w4) (trodAll_cons_mk (shut_int Yba.underlying3 w5) trodAll_mk0)))))), rfl, bel.frame _, fun h => by cases h⟩

theorem over : Rows.lawS0801BAppendRow.holds Yba.pinned (OpenSpec.ofChange Rows.lawS0801BAppendSpec) :=
  OpenClaim.holds_of_wide 5 Yba.f5 rfl rfl rfl rfl rfl rfl rfl ⟨rfl, rfl, rfl, rfl, rfl⟩ rfl rfl rfl rfl rfl (by kernel_rfl) Yba.func5 (by kernel_rfl)
    (of_decide_eq_true (by kernel_rfl)) (by unfold Func.isWrapper; first | (rw [if_pos (by decide +kernel)]; kernel_rfl) | (rw [if_neg (by decide +kernel)]; exact ⟨rfl, rfl⟩))
    (fun os started H enc _ => lifted os started H enc)

/-- ████ THE STATEMENT ████ -/
theorem proved : Rows.LawS0801BAppendSaid := over
#print axioms proved
end Go.Proofs.Ybulkpoi.lawS0801BAppend
