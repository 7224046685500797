/-
  The walk of LawS0801BAppend (5), both slices of at most 1024 strings.
-/
import Derived.Test.YbulkpoiState
import Derived.Deep.LoopGhost
import Derived.Deep.Light
import Derived.WalkSpells
import Derived.Deep.QuietTactic
import Derived.BigQuiet
import Derived.Deep.DeepCutAuto
namespace Go.Proofs.Ybulkpoi
open Go.RowKit

theorem clo_any (cw B : Nat) (tag : Int) (w : World) (hc : w.cell? ⟨cw, 0, none⟩ = some (.int .i64 0)) (hf : w.frozen? ⟨cw, 0, none⟩ = false) (ht : w.cell? ⟨B, 0, none⟩ = some (.int .i64 tag)) (hB : B < cw) :
    Calls Yba.prog 10 #[.pointer (some ⟨cw, 0, none⟩), .pointer (some ⟨B, 0, none⟩)] w fun e w' => ∃ p, e = .returned (.iface 39 (.pointer (some ⟨p, 0, none⟩))) ∧ w'.cell? ⟨cw, 0, none⟩ = some (.int .i64 1) ∧ w'.cell? ⟨B, 0, none⟩ = some (.int .i64 tag) ∧ w'.cell? ⟨p, 0, none⟩ = some (.int .i64 tag) ∧ Below cw w w' := by
  have hne : ¬ cw = B := by omega
  have hlt : cw < w.heap.size := by
    unfold World.cell? at hc
    cases h : w.heap[cw]? with
    | none => simp [h] at hc
    | some o => exact (Array.getElem?_eq_some_iff.1 h).1
  go_enter Yba.func10, Yba.ntmps10
  go_wp2
  go_ret
  have hb : Below cw w (w.setCell ⟨cw, 0, none⟩ (.int .i64 1)) := (Below.refl cw w).setCell (p := ⟨cw, 0, none⟩) (Nat.le_refl _) _
  have hb2 := hb.alloc (by simp [World.setCell]; omega) (.cells #[.int .i64 tag] 41)
  exact ⟨_, rfl, by go_simp, by rw [hb2.cell hB]; exact ht, by go_simp, hb2⟩

theorem assert_ok (p : Addr) (w : World) : (Instr.typeAssert (.iface 39 (.pointer (some p))) 38 39 true).run Yba.prog w = .ok (.tuple #[.pointer (some p), .bool true]) w := by kernel_rfl
theorem ix_own {fa : Option Addr} {g n k : Nat} (h : fa = some ⟨g, 0, none⟩) (hk : k < n) (wx : World) : (Instr.indexAt 29 (.slice fa n n) (.int .i64 k)).run Yba.prog wx = .ok (.pointer (some ⟨g, k, none⟩)) wx := by
  subst h
  have h9 := size9
  obtain ⟨i, hi, hs⟩ := Option.map_eq_some_iff.1 h9
  rw [run_indexAt_slice wx 29 ⟨g, 0, none⟩ n n .i64 k (by rw [Yba.underlying29]; simp [Program.elem, Yba.underlying29])]
  rw [if_pos (by omega)]
  simp [Program.elem, Yba.underlying29, sizeOf, typeInfo, hi, hs, Go.WideShapes.add_plain]

set_option maxRecDepth 100000 in
set_option maxHeartbeats 4000000 in
theorem app_walk (a0 : Option Addr) (l0 c0 b0 o0 : Nat) (s0 : Nat → ByteArray) (name : ByteArray) (par : Int) (a3 : Option Addr) (l3 c3 b3 o3 : Nat) (s3 : Nat → ByteArray) (acks tag : Int) (w : World)
    (h0 : StrsIn w a0 l0 c0 b0 o0 s0) (h3 : StrsIn w a3 l3 c3 b3 o3 s3) (hl0 : l0 ≤ 1024) (hl3 : l3 ≤ 1024) :
    Calls Yba.prog 5 #[.slice a0 l0 c0, .string name, .int .i64 par, .slice a3 l3 c3, .int .i64 acks, .int .i64 tag] w fun e w' => e = .returned (.bool true) ∧ Below w.heap.size w w' := by
  have hix0 := h0.ix
  go_enter Yba.func5, Yba.ntmps5
  go_wp2
  go_end0
  go_wp2
  go_loopw [39] (fun i wr => ∃ k : Nat, k ≤ l0 ∧ i = .int .i64 k ∧ Inv1 w acks tag s0 k wr) (fun i _ => l0 - (intOf i).toNat)
  case atStart => exact ⟨0, Nat.zero_le _, rfl, inv1_start _ _ _ _⟩
  case round =>
    obtain ⟨k, hk, rfl, hI⟩ := hrel
    by_cases hlt : k < l0
    · obtain ⟨v, cs, hB⟩ := hI
      obtain ⟨va, vc, rfl⟩ := own_slice hB.own
      have hcell : wr.cell? ⟨b0, o0 + k, none⟩ = some (.string (s0 k)) := by rw [hB.below.cell (h0.blk (by omega)).1]; exact h0.cell k hlt
      go_wp2_with fail
      refine (add_nil wr (w.heap.size + 1) (w.heap.size + 2) k va vc acks (cs.map ptr) (s0 k) k none 0 0 hB.top hB.own (by omega) hB.size (by omega)).mono ?_
      rintro e w' ⟨rfl, hA⟩
      have R := inv1_step hB hA
      clear hA hB hcell
      go_wp2
      go_roundw
      case rel => exact ⟨k + 1, by omega, by go_num, R⟩
      case measure => simp [intOf]; omega
    · have e : k = l0 := by omega
      clear hix0
      obtain ⟨v, cs, hB⟩ := hI
      rw [e] at hB
      obtain ⟨va, vc, rfl⟩ := own_slice hB.own
      have hcT : wr.cell? ⟨w.heap.size + 1, 0, none⟩ = some (.slice va l0 vc) := cell_of_heap hB.top rfl
      have hszT : w.heap.size + 1 < wr.heap.size := by have := hB.size; omega
      obtain ⟨M, hM, hmk⟩ := mk43 l0 (by omega)
      have HM : Hid (M.size = l0) := hM
      clear hM e
      go_wp2_with (refine copyAll _ rfl (.tmp 52) (.tmp 54) 30 43 rfl Yba.underlying30 size43 wr.heap.size l0 vc va rfl rfl M (heap_new _ _) HM.out (cs.map ptr) (by simp [hB.len]) (fun hp => row_cell (hB.own.alloc _) hp) (ptrs_one cs) ?_)
      intro w2 hb2 hu2
      clear hmk
      go_upto_if 58 with fail
      go_cut [19] (fun s19 wc => ∃ fa g3, s19 = .slice fa l3 l3 ∧ Inv2 w acks tag s0 l0 (.slice va l0 vc) cs wr.heap.size w2.heap.size fa g3 l3 s3 wc)
      case first =>
        obtain ⟨M3, hM3, hmk3⟩ := mk9 l3 (by omega)
        have HM3 : Hid (M3.size = l3) := hM3
        have hsrc : ∀ (O O2 : Obj), 0 < l3 → ∃ ad, a3 = some ad ∧ ∀ j v, (strCells s3 l3)[j]? = some v → ((w2.alloc O).alloc O2).cell? (ad.add j) = some v := fun O O2 hl => src_cells h3 hB hu2 O O2 hl
        clear hM3
        go_wp2_with (refine copyAll _ rfl (.tmp 62) (.tmp 63) 29 9 rfl Yba.underlying29 size9 (w2.heap.size + 1) l3 c3 a3 rfl rfl M3 (by simpa using heap_new (w2.alloc _) _) HM3.out (strCells s3 l3) (strCells_length _ _) (hsrc _ _) strCells_one ?_)
        · intro w3 hb3 hu3
          go_wp2_with fail
          go_meet
          case rel => exact ⟨_, _, rfl, inv2_made hB hb2.out hu2 hb3.out hu3⟩
        · have hN : a3.isSome = false := by assumption
          have hl : l3 = 0 := h3.nil hN
          go_meet
          case rel => exact ⟨none, 0, by rw [hl], by rw [hl]; exact inv2_nil hB hb2.out hu2⟩
      case rest =>
        obtain ⟨fa, g3, rfl, hI2⟩ := hcut
        clear hu2 hb2 hcT hszT hB HM
        go_wp2_with fail
        refine (add_func wc (w.heap.size + 1) (w.heap.size + 2) l0 va vc acks (cs.map ptr) name par (Fn.func 10) #[] _ fa l3 l3 hI2.base.top hI2.base.own (by omega) hI2.base.size (by omega)).mono ?_
        rintro e w4 ⟨rfl, hA⟩
        obtain ⟨g, cap, hI3⟩ := inv3_of hI2 hA
        clear hA hI2
        have ht0 := hI3.top0
        go_wp2
        clear ht0
        obtain ⟨wo, rfl⟩ : ∃ wo : World, wo = wr := ⟨_, rfl⟩
        go_loopw [20] (fun i wr => ∃ k : Nat, k ≤ l0 ∧ i = .int .i64 k ∧ Inv3 w acks tag s0 l0 cs wo.heap.size w2.heap.size fa g3 l3 s3 name par (.func (Fn.func 10) #[] #[.pointer (some ⟨w2.heap.size, 0, none⟩), .pointer (some ⟨w.heap.size, 0, none⟩)]) g cap wc.heap.size wr) (fun i _ => l0 - (intOf i).toNat)
        case atStart => exact ⟨0, Nat.zero_le _, rfl, hI3⟩
        case round =>
          obtain ⟨k2, hk2, rfl, hJ⟩ := hrel
          clear hI3
          have ht0 := hJ.top0
          by_cases hlt2 : k2 < l0
          · obtain ⟨c, hc⟩ : ∃ c, cs[k2]? = some c := ⟨cs[k2]'(by rw [hJ.len]; exact hlt2), by simp⟩
            have hr := hJ.row k2 c (by rw [List.getElem?_append_left (by rw [hJ.len]; exact hlt2)]; exact hc)
            have hbf := hJ.bef k2 c hc
            obtain ⟨hc0, hc1, hc3, hc4⟩ := hJ.comps k2 c hc
            have hs0 : wr.cell? ⟨b0, o0 + k2, none⟩ = some (.string (s0 k2)) := by rw [hJ.below.cell (h0.blk (by omega)).1]; exact h0.cell k2 hlt2
            have hix0 := h0.ix
            clear hc
            have q1 := neq43
            have q2 := neq42
            have q3 := neq44
            go_wp2
            go_quiet (fail)
            clear q1 q2 q3 hix0 hs0 hc0 hc1 hc3 hc4 hbf hr ht0
            have R := hJ.alike (W' := wr.drewN nq) rfl rfl rfl rfl
            clear hJ
            go_wp2
            go_roundw
            case rel => exact ⟨k2 + 1, by omega, by go_num, R⟩
            case measure => simp [intOf]; omega
          · have ht1 := hJ.top1
            have ht2 := hJ.top2
            have hrn := hJ.row l0 wc.heap.size (by rw [List.getElem?_append_right (by rw [hJ.len]; omega), hJ.len]; simp)
            obtain ⟨n0, n1, n2, n3, n4, n5⟩ := hJ.new
            have q3 := neq44
            have q4 := fun wx => run_neq_slice_nil_any (P := Yba.prog) wx 45 76 none 0 0 0 0 Yba.underlying45
            go_wp2
            clear n0 n1 n2 n3 n4 n5 ht0 ht1 ht2 hrn q3 q4
            obtain ⟨wp, rfl⟩ : ∃ wp : World, wp = wr := ⟨_, rfl⟩
            go_loopw [23] (fun i wr => ∃ k : Nat, k ≤ l3 ∧ i = .int .i64 k ∧ Inv3 w acks tag s0 l0 cs wo.heap.size w2.heap.size fa g3 l3 s3 name par (.func (Fn.func 10) #[] #[.pointer (some ⟨w2.heap.size, 0, none⟩), .pointer (some ⟨w.heap.size, 0, none⟩)]) g cap wc.heap.size wr) (fun i _ => l3 - (intOf i).toNat)
            case atStart => exact ⟨0, Nat.zero_le _, rfl, hJ⟩
            case round =>
              obtain ⟨k3, hk3, rfl, hL⟩ := hrel
              clear hJ
              obtain ⟨n0, n1, n2, n3, n4, n5⟩ := hL.new
              by_cases hlt3 : k3 < l3
              · have hs3 : wr.cell? ⟨b3, o3 + k3, none⟩ = some (.string (s3 k3)) := by rw [hL.below.cell (h3.blk (by omega)).1]; exact h3.cell k3 hlt3
                have hix3 := h3.ix
                have hixf : ∀ (k : Nat) (wx : World), k < l3 → (Instr.indexAt 29 (.slice fa l3 l3) (.int .i64 k)).run Yba.prog wx = .ok (.pointer (some ⟨g3, k, none⟩)) wx := fun k wx hk => ix_own (hL.fa (by omega)) hk wx
                have hf3 := hL.fld k3 hlt3
                go_wp2
                go_quiet (fail)
                clear hix3 hixf hf3 hs3 n0 n1 n2 n3 n4 n5
                have R := hL.alike (W' := wr.drewN nq) rfl rfl rfl rfl
                clear hL
                go_wp2
                go_roundw
                case rel => exact ⟨k3 + 1, by omega, by go_num, R⟩
                case measure => simp [intOf]; omega
              · obtain ⟨hcl, hcf, hcg⟩ := hL.calls
                have htg := hL.tag
                have q5 := eql42
                have hsz := hL.size
                have hbl := hL.below
                clear hL
                go_wp2_with fail
                refine (clo_any _ _ tag _ hcl hcf htg (by omega)).mono ?_
                rintro e w5 ⟨p, rfl, k1, k2', k3', hb5⟩
                have hB5 : Below w.heap.size w w5 := hbl.trans (hb5.mono (by omega))
                have q6 := assert_ok
                clear q5 hcl hcf htg hbl hb5 n0 n1 n2 n3 n4 n5
                go_wp2
                go_quiet (fail)
                go_wp2
                go_ret
                exact ⟨rfl, hB5.trans ⟨rfl, rfl, rfl, Nat.le_refl _, fun _ _ => rfl⟩⟩
end Go.Proofs.Ybulkpoi
