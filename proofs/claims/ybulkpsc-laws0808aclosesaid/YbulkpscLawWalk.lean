/-
  The walk of LawS0808AClose (3), a slice of at most 1024 numbers.
-/
import Derived.Test.YbulkpscState
import Derived.Deep.LoopGhost
import Derived.Deep.DeepCutAuto
namespace Go.Proofs.Ybulkpsc
open Go.RowKit

/-- memory at the head of the first loop's round k -/
def L1 (w : World) (f : Nat → Nat) (n k : Nat) (wr : World) : Prop := wr.heap[w.heap.size]? = some (.cells (fillArr f k n) 21) ∧ Below w.heap.size w wr

theorem L1.step {w wr : World} {f : Nat → Nat} {n k : Nat} (h : L1 w f n k wr) : L1 w f n (k + 1) (wr.setCell ⟨w.heap.size, k, none⟩ (.int .i32 (f k))) :=
  ⟨by rw [heap_put _ h.1, fillArr_step], h.2.setCell (p := ⟨w.heap.size, k, none⟩) (Nat.le_refl _) _⟩

theorem len_any (x : Nat) (w : World) (h : x < 18446744073709551616) : Calls Yba.prog 8 #[.int .u64 x] w fun e w' => e = .returned (.int .i64 (Lib.bitLen x)) ∧ w = w' := by
  have := Yba.bits_Len (x : Int) w (by omega) (by omega)
  refine this.mono ?_
  rintro e w' ⟨h1, h2⟩
  exact ⟨by simpa using h1, h2.symm⟩

/-- what the last loop reads -/
structure Last (w W : World) (fa : Option Addr) (n : Nat) (f : Nat → Nat) (Cb gw wd nw : Nat) : Prop where
  c0 : W.cell? ⟨Cb, 0, none⟩ = some (.int .u32 wd)
  c1 : W.cell? ⟨Cb, 1, none⟩ = some (.slice (some ⟨gw, 0, none⟩) nw nw)
  words : ∀ i, i < nw → W.cell? ⟨gw, i, none⟩ = some (.int .u64 (word (NN f wd n) i))
  lt : gw < W.heap.size
  fill : FillIn W fa n w.heap.size f
  below : Below w.heap.size w W

theorem Last.later {w W W' : World} {fa : Option Addr} {n : Nat} {f : Nat → Nat} {Cb gw wd nw : Nat} (h : Last w W fa n f Cb gw wd nw) (hb : Below W.heap.size W W') : Last w W' fa n f Cb gw wd nw :=
  ⟨cell_later h.c0 hb, cell_later h.c1 hb, fun i hi => cell_later (h.words i hi) hb, Nat.lt_of_lt_of_le h.lt hb.size, ⟨h.fill.ix, fun k hk => cell_later (h.fill.cell k hk) hb, h.fill.bd, h.fill.nle, fun hn => ⟨(h.fill.head hn).1, Nat.lt_of_lt_of_le (h.fill.head hn).2 hb.size⟩⟩, h.below.trans (hb.mono h.below.size)⟩

theorem last_of {w wr : World} {L : Nat} {fa : Option Addr} {n : Nat} {f : Nat → Nat} {np m : Nat} {pa : Option Addr} {pc G : Nat} {gs : Nat → Nat} {gw : Nat} (h : Fin w wr L fa n f np m pa pc G gs) (hN : NewChunk wr n f np G gw) :
    Last w (wr.alloc (.cells #[.int .u32 (wide f n), .slice (some ⟨gw, 0, none⟩) (nwords n (wide f n)) (nwords n (wide f n))] 28)) fa n f wr.heap.size gw (wide f n) (nwords n (wide f n)) := by
  have hb : Below wr.heap.size wr (wr.alloc (.cells #[.int .u32 (wide f n), .slice (some ⟨gw, 0, none⟩) (nwords n (wide f n)) (nwords n (wide f n))] 28)) := (Below.refl _ _).alloc (Nat.le_refl _) _
  have h2 := h.later hb
  have hN2 := hN.later hb
  exact ⟨cell_of_heap (heap_new _ _) rfl, cell_of_heap (heap_new _ _) rfl, hN2.words, hN2.lt, h2.fill, h2.below⟩

theorem wide_zero {f : Nat → Nat} {n : Nat} (h : (Lib.bitLen (mxTo f n) : Int) < 1) : wide f n = 1 := by
  have : Lib.bitLen (mxTo f n) = 0 := by omega
  unfold wide; rw [this]; rfl
theorem wide_pos {f : Nat → Nat} {n : Nat} (h : 1 ≤ (Lib.bitLen (mxTo f n) : Int)) : Lib.bitLen (mxTo f n) = wide f n := by
  unfold wide
  show _ = max 1 _
  omega

set_option maxRecDepth 100000 in
set_option maxHeartbeats 4000000 in
theorem law_any (w : World) (a0 : Option Addr) (n c0 b0 o0 : Nat) (z : Nat → Int) (pre : Int) (hT : TsIn w a0 n c0 b0 o0 z) (hn : n ≤ 1024) (hp0 : 0 ≤ pre) (hp1 : pre ≤ 255) :
    Calls Yba.prog 3 #[.slice a0 n c0, .int .u8 pre] w fun e w' => e = .returned (.bool true) ∧ Below w.heap.size w w' := by
  obtain ⟨np, hnp⟩ : ∃ np : Nat, pre % 3 = np := ⟨(pre % 3).toNat, by omega⟩
  have hnp2 : np ≤ 2 := by omega
  have hn' : (n : Int) ≤ 1024 := by omega
  go_enter Yba.func3, Yba.ntmps3
  go_upto_if 24 with fail
  go_cut [5] (fun s5 wc => ∃ fa, s5 = .slice fa n n ∧ Fill w wc fa n (tgt z) ∧ Below w.heap.size w wc)
  case first =>
    have hmk := mk22 (tgt z) n hn
    go_wp2
    · clear hmk
      go_loopw [6] (fun i wr => ∃ k : Nat, k ≤ n ∧ i = .int .i64 k ∧ L1 w (tgt z) n k wr) (fun i _ => n - (intOf i).toNat)
      case atStart => exact ⟨0, Nat.zero_le _, rfl, heap_new _ _, (Below.refl _ _).alloc (Nat.le_refl _) _⟩
      case round =>
        obtain ⟨k, hk, rfl, hI⟩ := hrel
        by_cases hlt : k < n
        · have hck : wr.cell? ⟨b0, o0 + k, none⟩ = some (.int .i32 (z k)) := by rw [hI.2.cell (hT.blk (by omega))]; exact hT.cell k hlt
          have hix := hT.ix
          have hcf : wr.cell? ⟨w.heap.size, k, none⟩ = some (.int .i32 0) := by
            have := cell_of_heap hI.1 (fillArr_get hlt)
            rw [if_neg (by omega)] at this
            exact this
          have hff : ∀ j, wr.frozen? ⟨w.heap.size, j, none⟩ = false := fun j => by simp [World.frozen?, hI.1]
          have R := hI.step
          rw [← tgt_eq] at R
          have HR : Hid (L1 w (tgt z) n (k + 1) _) := R
          clear R hI
          go_wp2
          go_roundw
          case rel => exact ⟨k + 1, by omega, by go_num, HR.out⟩
          case measure => simp [intOf]; omega
        · obtain rfl : k = n := by omega
          have R : Fill w wr (some ⟨w.heap.size, 0, none⟩) k (tgt z) := ⟨fun _ => ⟨rfl, hI.1⟩, tgt_lt z, hn⟩
          have R2 := hI.2
          clear hI
          go_wp2
          go_meet
          case rel => exact ⟨_, rfl, R, R2⟩
    · have hN : a0.isSome = false := by assumption
      have hl : n = 0 := hT.nil hN
      go_meet
      case rel => exact ⟨none, by rw [hl], ⟨fun h => absurd h (by omega), tgt_lt z, hn⟩, Below.refl _ _⟩
  case rest =>
    obtain ⟨fa, rfl, hF, hb⟩ := hcut
    clear hT
    go_wp2_with (at_make; refine listMake w _ rfl _ _ rfl np rfl rfl (by omega) fa n (tgt z) hF hb ?_)
    intro w0 hC0
    clear hF hb
    go_wp2
    go_loopw [8, 9] (fun v i wr => ∃ k : Nat, k ≤ np ∧ i = .int .i64 k ∧ ∃ gs, Chs w wr fa n (tgt z) k v gs) (fun _ i _ => np - (intOf i).toNat)
    case atStart => exact ⟨0, Nat.zero_le _, rfl, _, hC0⟩
    case round =>
      obtain ⟨k, hk, rfl, gs, hC⟩ := hrel
      clear hC0
      obtain ⟨va, vc, rfl⟩ := own2_slice hC.own
      by_cases hlt : k < np
      · have hsz := hC.below.size
        have hk2 : (k : Int) ≤ 1 := by omega
        go_wp2_with (at_builtin; refine listApp _ rfl _ _ rfl w.heap.size k _ (chunks gs k) rfl ((hC.own.alloc _).alloc _) ⟨wr.heap.size + 1, 0, none⟩ .u32 ((k : Int) + 1) (some ⟨wr.heap.size, 0, none⟩) 1 1 rfl (by go_simp) (by go_simp) (by omega) (by simp; omega) ?_)
        intro v' w2 hown2 hgr2
        obtain ⟨gs', R⟩ := hC.step hown2 hgr2
        clear hown2 hgr2 hC
        go_wp2
        go_roundw
        case rel => exact ⟨k + 1, by omega, by go_num, gs', R⟩
        case measure => simp [intOf]; omega
      · have ek : k = np := by omega
        rw [ek] at hC
        have HL : (wr.alloc (.cells (arcs (.slice va np vc) (.slice fa n n)) 32)).heap[wr.heap.size]? = some (.cells (arcs (.slice va np vc) (.slice fa n n)) 32) := heap_new _ _
        have hsz := hC.below.size
        subst ek
        by_cases hn0 : n = 0
        · subst hn0
          go_wp2_with fail
          refine (close_none _ wr.heap.size (.slice va k vc) fa HL).mono ?_
          rintro e W ⟨rfl, hL', hblk, hos, htp, hout, hsz'⟩
          have hsz2 : W.heap.size = wr.heap.size + 1 := by rw [hsz']; simp
          obtain ⟨pa, pc, G, hFin⟩ := fin_none hC hL' (fun j hj => by rw [hblk j (by omega), Below.heap_alloc _ _ _ hj]) hos htp hout (by omega)
          clear hL' hblk hos htp hout hC HL
          have l3 := hFin.l3
          have l4 := hFin.l4
          go_wp2
          clear l3 l4 hsz' hsz2
          obtain ⟨wo, rfl⟩ : ∃ wo : World, wo = wr := ⟨_, rfl⟩
          go_loopw [11] (fun i wr => ∃ j : Nat, j ≤ k ∧ i = .int .i64 j ∧ Fin w wr wo.heap.size fa 0 (tgt z) k k pa pc G gs) (fun i _ => k - (intOf i).toNat)
          case atStart => exact ⟨0, Nat.zero_le _, rfl, hFin⟩
          case round =>
            obtain ⟨j, hj, rfl, hI⟩ := hrel
            clear hFin
            have l3 := hI.l3
            by_cases hlt3 : j < k
            · obtain ⟨r0, r1, r2⟩ := hI.row j hlt3
              have hgl : gs j < wr.heap.size := lt_of_cell r2
              have hGl : G < wr.heap.size := lt_of_cell r0
              have hix := hI.ix
              have hjm : j < k := by omega
              have hj2 : (j : Int) ≤ 1 := by omega
              have R := hI.later ((Below.refl wr.heap.size wr).alloc (Nat.le_refl _) (.cells #[.int .u32 ((j : Int) + 1), .slice (some ⟨gs j, 0, none⟩) 1 1] 28))
              have hLl := lt_of_cell l3
              clear hI
              go_wp2
              go_roundw
              case rel => exact ⟨j + 1, by omega, by go_num, R⟩
              case measure => simp [intOf]; omega
            · have hbl := hI.below
              go_wp2
              go_ret
              exact ⟨rfl, hbl⟩
        · go_wp2_with fail
          refine (close_any _ wr.heap.size w.heap.size k va vc (chunks gs k) fa n w.heap.size (tgt z) HL (hC.own.alloc _) (Fill.into ⟨fun h => ⟨(hC.fill.row h).1, by rw [Below.heap_alloc _ _ _ (lt_of_heap (hC.fill.row h).2)]; exact (hC.fill.row h).2⟩, hC.fill.bd, hC.fill.nle⟩) (by omega) (by omega) (by simp; omega)).mono ?_
          rintro e W hCl
          obtain ⟨pa, pc, G, gw, hFin, hNew⟩ := fin_some hC rfl rfl hCl
          obtain ⟨rfl, hCl2⟩ := hCl
          clear hC HL hCl2
          have l3 := hFin.l3
          have l4 := hFin.l4
          have hnb : ((n : Int) == 0) = false := by simpa using hn0
          go_wp2
          clear l3 l4
          obtain ⟨wo, rfl⟩ : ∃ wo : World, wo = wr := ⟨_, rfl⟩
          go_loopw [11] (fun i wr => ∃ j : Nat, j ≤ k ∧ i = .int .i64 j ∧ Fin w wr wo.heap.size fa n (tgt z) k (k + 1) pa pc G gs ∧ NewChunk wr n (tgt z) k G gw) (fun i _ => k - (intOf i).toNat)
          case atStart => exact ⟨0, Nat.zero_le _, rfl, hFin, hNew⟩
          case round =>
            obtain ⟨j, hj, rfl, hI, hN⟩ := hrel
            clear hFin hNew
            have l3 := hI.l3
            by_cases hlt3 : j < k
            · obtain ⟨r0, r1, r2⟩ := hI.row j hlt3
              have hgl : gs j < wr.heap.size := lt_of_cell r2
              have hGl : G < wr.heap.size := lt_of_cell r0
              have hix := hI.ix
              have hjm : j < k + 1 := by omega
              have hj2 : (j : Int) ≤ 1 := by omega
              have R := hI.later ((Below.refl wr.heap.size wr).alloc (Nat.le_refl _) (.cells #[.int .u32 ((j : Int) + 1), .slice (some ⟨gs j, 0, none⟩) 1 1] 28))
              have R2 := hN.later ((Below.refl wr.heap.size wr).alloc (Nat.le_refl _) (.cells #[.int .u32 ((j : Int) + 1), .slice (some ⟨gs j, 0, none⟩) 1 1] 28))
              have hLl := lt_of_cell l3
              clear hI hN
              go_wp2
              go_roundw
              case rel => exact ⟨j + 1, by omega, by go_num, R, R2⟩
              case measure => simp [intOf]; omega
            · go_wp2
              clear l3
              have hfix := hI.fill.ix
              have hfc := hI.fill.cell
              obtain ⟨f, hf⟩ : ∃ f, f = tgt z := ⟨_, rfl⟩
              rw [← hf] at hI hN hfc
              clear hf
              go_loop [13, 14] (fun m i => ∃ q : Nat, q ≤ n ∧ i = .int .i64 q ∧ m = .int .i32 (mxTo f q)) (fun _ i => n - (intOf i).toNat)
              case atStart => exact ⟨0, Nat.zero_le _, rfl, rfl⟩
              case round =>
                obtain ⟨q, hq, rfl, rfl⟩ := hrel
                by_cases hq4 : q < n
                · have hcq := hfc q hq4
                  have HS : Hid (mxTo f (q + 1) = Nat.max (mxTo f q) (f q)) := rfl
                  obtain ⟨m, hm⟩ : ∃ m, m = mxTo f q := ⟨_, rfl⟩
                  rw [← hm] at HS ⊢
                  clear hm hfc hI hN
                  go_wp2
                  · have hgt : m < f q := by assumption
                    go_round
                    case rel => exact ⟨q + 1, by omega, by go_num, by rw [HS.out, castMax, Int.max_eq_right (by omega)]⟩
                    case measure => simp [intOf]; omega
                  · have hle : ¬ m < f q := by assumption
                    go_round
                    case rel => exact ⟨q + 1, by omega, by go_num, by rw [HS.out, castMax, Int.max_eq_left (by omega)]⟩
                    case measure => simp [intOf]; omega
                · obtain rfl : q = n := by omega
                  have hmx : mxTo f q < 2147483648 := mxTo_lt (by omega) hI.fill.bd q
                  obtain ⟨hw1, hw2, hbl⟩ := wide_bd hI.fill.bd q
                  have hcv : IntKind.u64.wrap ((mxTo f q : Nat) : Int) = ((mxTo f q : Nat) : Int) := by rw [IntKind.wrap_u64]; omega
                  have Hmx : Hid (mxTo f q < 18446744073709551616) := by show mxTo f q < _; omega
                  clear hmx hfc
                  go_wp2_with fail
                  refine (len_any _ _ Hmx.out).mono ?_
                  rintro e w1 ⟨rfl, hww⟩
                  subst hww
                  clear hcv Hmx
                  have Hz := fun h => wide_zero (f := f) (n := q) h
                  have Hp := fun h => wide_pos (f := f) (n := q) h
                  have hL := last_of hI hN
                  have hfit : Hid (∀ j, j < q → f j < 2 ^ wide f q) := fun j hj => wide_fits hI.fill.bd hj
                  have c0' := hN.c0
                  have c1' := hN.c1
                  obtain ⟨bl, hbl'⟩ : ∃ bl, bl = Lib.bitLen (mxTo f q) := ⟨_, rfl⟩
                  rw [← hbl'] at hbl Hz Hp ⊢
                  clear hbl'
                  obtain ⟨wd, hwd⟩ : ∃ wd, wd = wide f q := ⟨_, rfl⟩
                  rw [← hwd] at hw1 hw2 Hz Hp hL hfit c0' c1'
                  clear hwd
                  obtain ⟨P, hP⟩ : ∃ P, P = q * wd := ⟨_, rfl⟩
                  obtain ⟨nw, hnw⟩ : ∃ nw, nw = nwords q wd := ⟨_, rfl⟩
                  have hPl : P ≤ 31744 := by rw [hP]; exact Nat.mul_le_mul hn hw2
                  have k2 : (q : Int) * (wd : Int) = (P : Int) := by rw [hP]; simp
                  have k3 : ((P : Int) + 63) / 64 = (nw : Int) := by rw [hnw, nwords, ← hP]; omega
                  have k4 : (P : Int) ≤ 31744 := by omega
                  rw [← hnw] at hL c1'
                  have Hnw : Hid (nw = nwords q wd) := hnw
                  clear hnw hP
                  have l3 := hI.l3
                  have hix := hI.ix
                  have hll := lt_of_cell l3
                  have hGl : G < wr.heap.size := lt_of_cell c0'
                  have hkk : k < k + 1 := by omega
                  clear hI hN
                  go_upto_if 149 with fail
                  go_cut [15] (fun s wc => s = .int .i64 (wd : Int) ∧ wr = wc)
                  case first =>
                    rcases Nat.eq_zero_or_pos bl with h0 | h0
                    · have e1 : wd = 1 := Hz (by omega)
                      subst h0
                      clear Hz Hp k2 k3 k4 hix l3 c0' c1'
                      go_wp2
                      go_meet
                      case rel => exact ⟨by rw [e1]; rfl, rfl⟩
                    · have e1 : bl = wd := Hp (by omega)
                      have h1 : (1 : Int) ≤ (bl : Nat) := by omega
                      clear Hz Hp k2 k3 k4 hix l3 c0' c1'
                      have He : Hid (bl = wd) := e1
                      clear e1
                      go_wp2
                      go_meet
                      case rel => exact ⟨by rw [He.out], rfl⟩
                  case rest =>
                    obtain ⟨rfl, hwc⟩ := hcut
                    subst hwc
                    clear Hz Hp hbl
                    go_wp2_with fail
                    clear k2 k3 k4 hix l3 c0' c1' hll hGl hkk hPl
                    obtain ⟨wb, rfl⟩ : ∃ wb : World, wb = wr := ⟨_, rfl⟩
                    go_loopw [17] (fun i wr => ∃ t : Nat, t ≤ q ∧ i = .int .i64 t ∧ Last w wr fa q f wb.heap.size gw wd nw) (fun i _ => q - (intOf i).toNat)
                    case atStart => exact ⟨0, Nat.zero_le _, rfl, hL⟩
                    case round =>
                      obtain ⟨t, ht, rfl, hI⟩ := hrel
                      clear hL
                      by_cases hlt5 : t < q
                      · have e0 := hI.c0
                        have e1 := hI.c1
                        have hbl := lt_of_cell e0
                        go_wp2_with fail
                        rw [Hnw.out]
                        refine (decode_any wr gw q wd t f hn hw1 hw2 hlt5 hfit.out hI.lt (by rw [← Hnw.out]; exact hI.words)).mono ?_
                        rintro e w2 ⟨rfl, hb2⟩
                        rw [← Hnw.out]
                        have R := hI.later hb2
                        clear hI e0 e1 hb2 hbl
                        have hfx := R.fill.ix
                        have hfc := R.fill.cell t hlt5
                        have hwr : IntKind.u64.wrap ((f t : Nat) : Int) = ((f t : Nat) : Int) := by
                          have := R.fill.bd t
                          rw [IntKind.wrap_u64]; omega
                        go_wp2
                        go_roundw
                        case rel => exact ⟨t + 1, by omega, by go_num, R⟩
                        case measure => simp [intOf]; omega
                      · have hbl := hI.below
                        go_wp2
                        go_ret
                        exact ⟨rfl, hbl⟩
end Go.Proofs.Ybulkpsc
