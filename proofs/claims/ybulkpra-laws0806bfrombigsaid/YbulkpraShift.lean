/-
  Contracts of what makes a nat: norm (27), lshVU_g (13), set (18), lsh (17).
-/
import Derived.Test.YbulkpraRead
import Derived.Laws.Twins
import Derived.Laws.CopyOwn
import Derived.Deep.OwnRows
import Derived.WalkLawsBesides
namespace Go.Proofs.Ybulkpra
open Go.RowKit

theorem and63 {x : Int} (h0 : 0 ≤ x) (h1 : x < 18446744073709551616) : bits .and .u64 x 63 = x % 64 := by
  rw [u64_and x 63 h0 h1 (by omega) (by omega)]
  have e : x.toNat &&& (63 : Int).toNat = x.toNat % 64 := Nat.and_two_pow_sub_one_eq_mod x.toNat 6
  rw [e]
  omega

/-- the word that stays, and the word that is shifted out -/
def loW (u : Int) (s : Nat) : Int := u * 2 ^ s % 18446744073709551616
def hiW (u : Int) (s : Nat) : Int := u / 2 ^ (64 - s)

theorem lshg (w : World) (Z o cz X : Nat) (cx : Nat) (u : Int) (s : Nat) (hs1 : 1 ≤ s) (hs2 : s ≤ 63) (hx : w.cell? ⟨X, 0, none⟩ = some (.int .u64 u)) (hz : w.cell? ⟨Z, o, none⟩ = some (.int .u64 0)) (hzf : w.frozen? ⟨Z, o, none⟩ = false) :
    Calls Yba.prog 13 #[.slice (some ⟨Z, o, none⟩) 1 cz, .slice (some ⟨X, 0, none⟩) 1 cx, .int .u64 s] w fun e w' => e = .returned (.int .u64 (hiW u s)) ∧ w' = w.setCell ⟨Z, o, none⟩ (.int .u64 (loW u s)) := by
  have hs0 : ((s : Int) == 0) = false := by simp; omega
  have hA : bits .and .u64 (s : Int) 63 = s := by rw [and63 (by omega) (by omega)]; omega
  have hB : IntKind.u64.wrap (64 - (s : Int)) = ((64 - s : Nat) : Int) := by rw [IntKind.wrap_u64]; omega
  have hC : bits .and .u64 ((64 - s : Nat) : Int) 63 = ((64 - s : Nat) : Int) := by rw [and63 (by omega) (by omega)]; omega
  have hD : ((64 - s : Nat) : Int) ≤ 64 := by omega
  have hE : (s : Int) ≤ 64 := by omega
  go_enter Yba.func13, Yba.ntmps13
  go_wp2
  refine wp_loop_rounds 1 ?_
  rw [rounds_succ]
  go_wp2
  go_ret
  exact ⟨rfl, by rw [IntKind.wrap_u64]; rfl⟩

theorem twin26 (args : Array Value) (w : World) : (callFunc 26 args).run Yba.prog w = .ok (.enter 13 args) w :=
  run_callFunc_twin Yba.func26 (by kernel_rfl) (by kernel_rfl) (twin := Yba.f13.name) (by kernel_rfl) (by kernel_rfl) Yba.func13 (by kernel_rfl) (by kernel_rfl) (by kernel_rfl) args w

theorem norm_any (w : World) (n c g : Nat) (ws : Nat → Int) (h : NatIn w (some ⟨g, 0, none⟩) n c g ws) (hnc : n ≤ c) :
    Calls Yba.prog 27 #[.slice (some ⟨g, 0, none⟩) n c] w fun e w' => ∃ m, e = .returned (.slice (some ⟨g, 0, none⟩) m c) ∧ m ≤ n ∧ (∀ k, m ≤ k → k < n → ws k = 0) ∧ (m = 0 ∨ ws (m - 1) ≠ 0) ∧ w' = w := by
  have hn := h.nle
  have hc := h.cell
  have hb := h.bd
  clear h
  go_enter Yba.func27, Yba.ntmps27
  go_wp2
  go_loop [3] (fun i => ∃ k : Nat, k ≤ n ∧ i = .int .i64 k ∧ Hid (∀ j, k ≤ j → j < n → ws j = 0)) (fun i => (intOf i).toNat)
  case atStart => exact ⟨n, by omega, rfl, fun j h1 h2 => by omega⟩
  case round =>
    obtain ⟨k, hk, rfl, HZ⟩ := hrel
    by_cases hk0 : 0 < k
    · have hck := hc (k - 1) (by omega)
      have e1 : ((k : Int) - 1).toNat = k - 1 := by omega
      by_cases hz : ws (k - 1) = 0
      · have hzb : (ws (k - 1) == 0) = true := by simpa using hz
        have R : Hid (∀ j, k - 1 ≤ j → j < n → ws j = 0) := fun j h1 h2 => by
          by_cases hj : j = k - 1
          · rw [hj]; exact hz
          · exact HZ.out j (by omega) h2
        clear hz hc hb HZ
        go_wp2
        go_round
        case rel => exact ⟨k - 1, by omega, by go_num, R⟩
        case measure => simp [intOf]; omega
      · have hzb : (ws (k - 1) == 0) = false := by simpa using hz
        have HN : Hid (ws (k - 1) ≠ 0) := hz
        clear hz hc hb
        go_wp2
        go_ret
        exact ⟨k, rfl, hk, HZ.out, Or.inr HN.out, rfl⟩
    · obtain rfl : k = 0 := by omega
      clear hc hb
      go_wp2
      go_ret
      exact ⟨0, rfl, hk, HZ.out, Or.inl rfl, rfl⟩

theorem clear0 (ty : TypeId) (a : Addr) (c : Nat) (w : World) : (Builtin.clear_ #[25] ty #[.slice (some a) 0 c]).run Yba.prog w = .ok (.tuple #[]) w := by
  simp [Builtin.clear_, run_underlying Yba.underlying25]
theorem zero39 : (Yba.prog.info? 39).map (fun i => (i.zero, i.size, i.bytes)) = some (some (.int .u64 0), 1, 8) := by kernel_rfl
theorem clear1 (ty : TypeId) (g c : Nat) (v : Value) (w : World) (hc : w.cell? ⟨g, 0, none⟩ = some v) (hf : w.frozen? ⟨g, 0, none⟩ = false) :
    (Builtin.clear_ #[25] ty #[.slice (some ⟨g, 0, none⟩) 1 c]).run Yba.prog w = .ok (.tuple #[]) (w.setCell ⟨g, 0, none⟩ (.int .u64 0)) := by
  obtain ⟨i, hi, hz, hs, hb⟩ := info_parts zero39
  have e : (Builtin.zeroCells #[Value.int .u64 0] 1).toList = [.int .u64 0] := by kernel_rfl
  simp [Builtin.clear_, run_underlying Yba.underlying25, zeroValue, typeInfo, hi, hz, Value.cells, e, storeCells, go_sem, hc, hf, Addr.add]
theorem clearNew (w : World) (ty : TypeId) (v : Value) (rest : List Value) (c : Nat) :
    (Builtin.clear_ #[25] ty #[.slice (some ⟨w.heap.size, 0, none⟩) 1 c]).run Yba.prog (w.alloc (.cells (List.toArray (v :: rest)) 39)) = .ok (.tuple #[]) (w.alloc (.cells (List.toArray (.int .u64 0 :: rest)) 39)) := by
  rw [clear1 ty w.heap.size c v _ (by go_simp) (by go_simp)]
  congr 1
  simp [go_sem]

/-! ### the numbers -/
theorem lohi (u : Int) (s : Nat) (hs : s ≤ 64) : loW u s + hiW u s * 18446744073709551616 = u * 2 ^ s := by
  have e : (18446744073709551616 : Int) = 2 ^ (64 - s) * 2 ^ s := by rw [← Int.pow_add, Nat.sub_add_cancel hs]; rfl
  have hp : (0 : Int) < 2 ^ s := Int.pow_pos (by omega)
  have hq : u / 2 ^ (64 - s) = u * 2 ^ s / 18446744073709551616 := by rw [e, Int.mul_ediv_mul_of_pos_left _ _ hp]
  unfold loW hiW
  rw [hq]
  have := Int.mul_ediv_add_emod (u * 2 ^ s) 18446744073709551616
  omega
theorem lo_bd (u : Int) (s : Nat) : 0 ≤ loW u s ∧ loW u s ≤ 18446744073709551615 := by unfold loW; omega
theorem hi_bd {u : Int} (s : Nat) (h0 : 0 ≤ u) (h1 : u ≤ 18446744073709551615) : 0 ≤ hiW u s ∧ hiW u s ≤ 18446744073709551615 := by
  unfold hiW
  have hp : (0 : Int) < 2 ^ (64 - s) := Int.pow_pos (by omega)
  have h2 := Int.ediv_nonneg h0 (Int.le_of_lt hp)
  have h3 : u / 2 ^ (64 - s) ≤ u := Int.ediv_le_self _ h0
  omega

/-- n words stand for the number V (as far as the law asks) -/
def Num (n : Nat) (ws : Nat → Int) (V : Int) : Prop := (n = 0 ↔ V = 0) ∧ (n = 1 → ws 0 = V) ∧ (2 ≤ n → 18446744073709551616 ≤ V) ∧ 0 ≤ V

theorem num_of {m : Nat} {ws : Nat → Int} {V : Int} (hb : ∀ k, 0 ≤ ws k ∧ ws k ≤ 18446744073709551615) (hm : m ≤ 3) (hz : ∀ k, m ≤ k → k < 3 → ws k = 0) (ht : m = 0 ∨ ws (m - 1) ≠ 0)
    (hV : V = ws 0 + ws 1 * 18446744073709551616 + ws 2 * 340282366920938463463374607431768211456) : Num m ws V := by
  have b0 := hb 0
  have b1 := hb 1
  have b2 := hb 2
  have hc : m = 0 ∨ m = 1 ∨ m = 2 ∨ m = 3 := by omega
  rcases hc with rfl | rfl | rfl | rfl
  · have z0 := hz 0 (by omega) (by omega)
    have z1 := hz 1 (by omega) (by omega)
    have z2 := hz 2 (by omega) (by omega)
    exact ⟨by omega, by omega, by omega, by omega⟩
  · have z1 := hz 1 (by omega) (by omega)
    have z2 := hz 2 (by omega) (by omega)
    have t : ws 0 ≠ 0 := by simpa using ht
    exact ⟨by omega, by omega, by omega, by omega⟩
  · have z2 := hz 2 (by omega) (by omega)
    have t : ws 1 ≠ 0 := by simpa using ht
    exact ⟨by omega, by omega, by omega, by omega⟩
  · have t : ws 2 ≠ 0 := by simpa using ht
    exact ⟨by omega, by omega, by omega, by omega⟩

/-! ### a nat in a new row -/
theorem ix25 {g n c k : Nat} (hk : k < n) (wx : World) : (Instr.indexAt 25 (.slice (some ⟨g, 0, none⟩) n c) (.int .i64 k)).run Yba.prog wx = .ok (.pointer (some ⟨g, k, none⟩)) wx := by
  obtain ⟨i, hi, hz, hs, hb⟩ := info_parts zero39
  rw [run_indexAt_slice wx 25 ⟨g, 0, none⟩ n c .i64 k (by rw [Yba.underlying25]; simp [Program.elem, Yba.underlying25])]
  rw [if_pos (by omega)]
  simp [Program.elem, Yba.underlying25, sizeOf, typeInfo, hi, hs, Go.WideShapes.add_plain]

theorem natIn_new {w : World} {g n c : Nat} {ws : Nat → Int} (hc : ∀ k, k < n → w.cell? ⟨g, k, none⟩ = some (.int .u64 (ws k))) (hb : ∀ k, 0 ≤ ws k ∧ ws k ≤ 18446744073709551615) (hn : n ≤ 1000) (hg : g < w.heap.size) : NatIn w (some ⟨g, 0, none⟩) n c g ws :=
  ⟨fun _ wx hk => ix25 hk wx, hc, hb, hn, fun _ => ⟨rfl, hg⟩⟩
theorem natIn_nil (w : World) (ws : Nat → Int) (hb : ∀ k, 0 ≤ ws k ∧ ws k ≤ 18446744073709551615) : NatIn w none 0 0 0 ws :=
  ⟨fun _ _ hk => absurd hk (by omega), fun _ hk => absurd hk (by omega), hb, by omega, fun h => absurd h (by omega)⟩
theorem NatIn.cut {w : World} {g n c m : Nat} {ws : Nat → Int} (h : NatIn w (some ⟨g, 0, none⟩) n c g ws) (hm : m ≤ n) (hg : g < w.heap.size) : NatIn w (some ⟨g, 0, none⟩) m c g ws :=
  natIn_new (fun k hk => h.cell k (by omega)) h.bd (by have := h.nle; omega) hg

/-- three words -/
def w3 (x y z : Int) : Nat → Int := fun k => if k = 0 then x else if k = 1 then y else if k = 2 then z else 0
theorem w3_bd {x y z : Int} (hx : 0 ≤ x ∧ x ≤ 18446744073709551615) (hy : 0 ≤ y ∧ y ≤ 18446744073709551615) (hz : 0 ≤ z ∧ z ≤ 18446744073709551615) : ∀ k, 0 ≤ w3 x y z k ∧ w3 x y z k ≤ 18446744073709551615 := by
  intro _; unfold w3; split
  · exact hx
  · split
    · exact hy
    · split
      · exact hz
      · omega

/-- what lsh and set hand back -/
def Made (w : World) (V : Int) (e : Ending) (w' : World) : Prop := ∃ a n c g ws, e = .returned (.slice a n c) ∧ NatIn w' a n c g ws ∧ Num n ws V ∧ Below w.heap.size w w'

theorem new2 (w : World) (x y : Int) (hx : 0 ≤ x ∧ x ≤ 18446744073709551615) (hy : 0 ≤ y ∧ y ≤ 18446744073709551615) :
    NatIn (w.alloc (.cells #[.int .u64 x, .int .u64 y, .int .u64 0, .int .u64 0, .int .u64 0, .int .u64 0] 39)) (some ⟨w.heap.size, 0, none⟩) 2 6 w.heap.size (w3 x y 0) :=
  natIn_new (fun k hk => by
    have hc : k = 0 ∨ k = 1 := by omega
    rcases hc with rfl | rfl <;> simp [w3]) (w3_bd hx hy (by omega)) (by omega) (by simp)
theorem new3 (w : World) (x y z : Int) (hx : 0 ≤ x ∧ x ≤ 18446744073709551615) (hy : 0 ≤ y ∧ y ≤ 18446744073709551615) (hz : 0 ≤ z ∧ z ≤ 18446744073709551615) :
    NatIn (w.alloc (.cells #[.int .u64 x, .int .u64 y, .int .u64 z, .int .u64 0, .int .u64 0, .int .u64 0, .int .u64 0] 39)) (some ⟨w.heap.size, 0, none⟩) 3 7 w.heap.size (w3 x y z) :=
  natIn_new (fun k hk => by
    have hc : k = 0 ∨ k = 1 ∨ k = 2 := by omega
    rcases hc with rfl | rfl | rfl <;> simp [w3]) (w3_bd hx hy hz) (by omega) (by simp)

/-- 0 < s < 64 -/
theorem lsh_c (w : World) (X cx : Nat) (u : Int) (s : Nat) (hs1 : 1 ≤ s) (hs2 : s ≤ 63) (hu0 : 0 ≤ u) (hu1 : u ≤ 18446744073709551615) (hx : w.cell? ⟨X, 0, none⟩ = some (.int .u64 u)) (hX : X < w.heap.size) :
    Calls Yba.prog 17 #[.slice none 0 0, .slice (some ⟨X, 0, none⟩) 1 cx, .int .u64 s] w (Made w (u * 2 ^ s)) := by
  have hs0 : ((s : Int) == 0) = false := by simp; omega
  have hd : (s : Int) / 64 = 0 := by omega
  have hm : (s : Int) % 64 = s := by omega
  have hmk : ∀ w : World, (Instr.makeSlice 25 (.int .i64 2) (.int .i64 6)).run Yba.prog w = .ok (.slice (some ⟨w.heap.size, 0, none⟩) 2 6) (w.alloc (.cells #[.int .u64 0, .int .u64 0, .int .u64 0, .int .u64 0, .int .u64 0, .int .u64 0] 39)) := fun _ => by kernel_rfl
  have ht := twin26
  have hcl := clear0
  go_enter Yba.func17, Yba.ntmps17
  go_wp2_with (go_at_call 25; go_in)
  refine (lshg _ _ _ _ X cx u s hs1 hs2 (by go_simp) (by go_simp) (by go_simp)).mono ?_
  rintro e w' ⟨rfl, rfl⟩
  have HV := lohi u s (by omega)
  have hlb := lo_bd u s
  have hhb := hi_bd s hu0 hu1
  have HV' : Hid (loW u s + hiW u s * 18446744073709551616 = u * 2 ^ s) := HV
  clear HV
  obtain ⟨lo, hlo⟩ : ∃ lo, lo = loW u s := ⟨_, rfl⟩
  obtain ⟨hi, hhi⟩ : ∃ hi, hi = hiW u s := ⟨_, rfl⟩
  rw [← hlo, ← hhi] at HV' ⊢
  rw [← hlo] at hlb
  rw [← hhi] at hhb
  clear hlo hhi
  go_wp2_with fail
  have N := new2 w lo hi hlb hhb
  refine (norm_any _ 2 6 w.heap.size (w3 lo hi 0) N (by omega)).mono ?_
  rintro e w' ⟨m, rfl, hm1, hz, htp, hw⟩
  subst hw
  have R : Made w (u * 2 ^ s) (.returned (.slice (some ⟨w.heap.size, 0, none⟩) m 6)) (w.alloc (.cells #[.int .u64 lo, .int .u64 hi, .int .u64 0, .int .u64 0, .int .u64 0, .int .u64 0] 39)) :=
    ⟨_, m, _, _, _, rfl, N.cut hm1 (by simp), num_of N.bd (by omega) (fun k h1 h2 => by
      by_cases hk : k < 2
      · exact hz k h1 hk
      · obtain rfl : k = 2 := by omega
        rfl) htp (by have := HV'.out; simp [w3]; omega), (Below.refl _ _).alloc (Nat.le_refl _) _⟩
  clear hz htp N HV'
  go_wp2
  go_ret
  exact R

theorem size39 : (Yba.prog.info? 39).map (·.size) = some 1 := by kernel_rfl
theorem setRow_new (w : World) (cur new : Array Value) (t : TypeId) : (w.alloc (.cells cur t)).setRow w.heap.size new = w.alloc (.cells new t) := by
  unfold World.setRow World.alloc
  congr 1
  apply Array.ext_getElem?
  intro i
  rw [Array.getElem?_modify]
  by_cases h : w.heap.size = i
  · subst h; simp
  · simp [h, Array.getElem?_push, Ne.symm h]
theorem copy_d (w : World) (X cx : Nat) (u : Int) (ty : TypeId) (hx : w.cell? ⟨X, 0, none⟩ = some (.int .u64 u)) (hX : X < w.heap.size) :
    (Builtin.copy_ #[25, 25] ty #[.slice (some ⟨w.heap.size, 1, none⟩) 1 6, .slice (some ⟨X, 0, none⟩) 1 cx]).run Yba.prog (w.alloc (.cells #[.int .u64 0, .int .u64 0, .int .u64 0, .int .u64 0, .int .u64 0, .int .u64 0, .int .u64 0] 39)) =
      .ok (goInt 1) (w.alloc (.cells #[.int .u64 0, .int .u64 u, .int .u64 0, .int .u64 0, .int .u64 0, .int .u64 0, .int .u64 0] 39)) := by
  have hg : (w.alloc (.cells #[.int .u64 0, .int .u64 0, .int .u64 0, .int .u64 0, .int .u64 0, .int .u64 0, .int .u64 0] 39)).heap[w.heap.size]? = some (.cells #[.int .u64 0, .int .u64 0, .int .u64 0, .int .u64 0, .int .u64 0, .int .u64 0, .int .u64 0] 39 (0, 0)) := by
    show (w.heap.push _)[w.heap.size]? = _
    simp
  have h := run_copy_row (P := Yba.prog) (w.alloc (.cells #[.int .u64 0, .int .u64 0, .int .u64 0, .int .u64 0, .int .u64 0, .int .u64 0, .int .u64 0] 39)) 25 25 ty 39 w.heap.size 1 1 6 ⟨X, 0, none⟩ 1 cx _ 39 [.int .u64 u] Yba.underlying25 size39 hg rfl
    (by
      intro j v hj
      match j, hj with
      | 0, hj => simp at hj; subst hj; simp [Addr.add]; rw [World.cell?_alloc_lt _ _ _ hX]; exact hx) (by simp) (by intro v hv; simp at hv; subst hv; rfl)
  rw [h, setRow_new]
  rfl

theorem pow64 (u : Int) : u * 18446744073709551616 = u * 2 ^ 64 := rfl

/-- s = 64 -/
theorem lsh_d (w : World) (X cx : Nat) (u : Int) (hu0 : 0 ≤ u) (hu1 : u ≤ 18446744073709551615) (hx : w.cell? ⟨X, 0, none⟩ = some (.int .u64 u)) (hX : X < w.heap.size) :
    Calls Yba.prog 17 #[.slice none 0 0, .slice (some ⟨X, 0, none⟩) 1 cx, .int .u64 64] w (Made w (u * 2 ^ 64)) := by
  have hmk : ∀ w : World, (Instr.makeSlice 25 (.int .i64 3) (.int .i64 7)).run Yba.prog w = .ok (.slice (some ⟨w.heap.size, 0, none⟩) 3 7) (w.alloc (.cells #[.int .u64 0, .int .u64 0, .int .u64 0, .int .u64 0, .int .u64 0, .int .u64 0, .int .u64 0] 39)) := fun _ => by kernel_rfl
  have hcl := clearNew w
  have hcp := fun ty => copy_d w X cx u ty hx hX
  go_enter Yba.func17, Yba.ntmps17
  go_wp2_with (go_at_call 25; go_in)
  have N := new3 w 0 u 0 (by omega) (by omega) (by omega)
  refine (norm_any _ 3 7 w.heap.size (w3 0 u 0) N (by omega)).mono ?_
  rintro e w' ⟨m, rfl, hm1, hz, htp, hw⟩
  subst hw
  have R : Made w (u * 2 ^ 64) (.returned (.slice (some ⟨w.heap.size, 0, none⟩) m 7)) (w.alloc (.cells #[.int .u64 0, .int .u64 u, .int .u64 0, .int .u64 0, .int .u64 0, .int .u64 0, .int .u64 0] 39)) :=
    ⟨_, m, _, _, _, rfl, N.cut hm1 (by simp), num_of N.bd (by omega) hz htp (by rw [← pow64]; simp [w3]), (Below.refl _ _).alloc (Nat.le_refl _) _⟩
  clear hz htp N hcl hcp
  go_wp2
  go_ret
  exact R

/-- 64 < s < 128 -/
theorem lsh_e (w : World) (X cx : Nat) (u : Int) (s : Nat) (hs1 : 65 ≤ s) (hs2 : s ≤ 100) (hu0 : 0 ≤ u) (hu1 : u ≤ 18446744073709551615) (hx : w.cell? ⟨X, 0, none⟩ = some (.int .u64 u)) (hX : X < w.heap.size) :
    Calls Yba.prog 17 #[.slice none 0 0, .slice (some ⟨X, 0, none⟩) 1 cx, .int .u64 s] w (Made w (u * 2 ^ s)) := by
  have hs0 : ((s : Int) == 0) = false := by simp; omega
  have hd : (s : Int) / 64 = 1 := by omega
  have hm : (s : Int) % 64 = ((s - 64 : Nat) : Int) := by omega
  have hs3 : (((s - 64 : Nat) : Int) == 0) = false := by simp; omega
  have hmk : ∀ w : World, (Instr.makeSlice 25 (.int .i64 3) (.int .i64 7)).run Yba.prog w = .ok (.slice (some ⟨w.heap.size, 0, none⟩) 3 7) (w.alloc (.cells #[.int .u64 0, .int .u64 0, .int .u64 0, .int .u64 0, .int .u64 0, .int .u64 0, .int .u64 0] 39)) := fun _ => by kernel_rfl
  have ht := twin26
  have hcl := clearNew w
  go_enter Yba.func17, Yba.ntmps17
  go_wp2_with (go_at_call 25; go_in)
  refine (lshg _ _ _ _ X cx u (s - 64) (by omega) (by omega) (by go_simp) (by go_simp) (by go_simp)).mono ?_
  rintro e w' ⟨rfl, rfl⟩
  have HV := lohi u (s - 64) (by omega)
  have hlb := lo_bd u (s - 64)
  have hhb := hi_bd (s - 64) hu0 hu1
  have HV' : Hid ((loW u (s - 64) + hiW u (s - 64) * 18446744073709551616) * 18446744073709551616 = u * 2 ^ s) := by
    show _ = _
    rw [HV, pow64, Int.mul_assoc, ← Int.pow_add, Nat.sub_add_cancel (by omega)]
  clear HV
  obtain ⟨lo, hlo⟩ : ∃ lo, lo = loW u (s - 64) := ⟨_, rfl⟩
  obtain ⟨hi, hhi⟩ : ∃ hi, hi = hiW u (s - 64) := ⟨_, rfl⟩
  rw [← hlo, ← hhi] at HV' ⊢
  rw [← hlo] at hlb
  rw [← hhi] at hhb
  clear hlo hhi
  go_wp2_with fail
  have N := new3 w 0 lo hi (by omega) hlb hhb
  refine (norm_any _ 3 7 w.heap.size (w3 0 lo hi) N (by omega)).mono ?_
  rintro e w' ⟨m, rfl, hm1, hz, htp, hw⟩
  subst hw
  have R : Made w (u * 2 ^ s) (.returned (.slice (some ⟨w.heap.size, 0, none⟩) m 7)) (w.alloc (.cells #[.int .u64 0, .int .u64 lo, .int .u64 hi, .int .u64 0, .int .u64 0, .int .u64 0, .int .u64 0] 39)) :=
    ⟨_, m, _, _, _, rfl, N.cut hm1 (by simp), num_of N.bd (by omega) hz htp (by have := HV'.out; simp [w3]; omega), (Below.refl _ _).alloc (Nat.le_refl _) _⟩
  clear hz htp N hcl HV'
  go_wp2
  go_ret
  exact R

theorem make_nil (w : World) : Calls Yba.prog 25 #[.slice none 0 0, .int .i64 0] w fun e w' => e = .returned (.slice none 0 0) ∧ w' = w := by
  go_enter Yba.func25, Yba.ntmps25
  go_wp2
  go_ret
  exact ⟨rfl, rfl⟩

theorem make_any (w : World) (n : Nat) (h1 : 1 ≤ n) (h2 : n ≤ 1000) : Calls Yba.prog 25 #[.slice none 0 0, .int .i64 n] w fun e w' => ∃ (c : Nat) (M : Array Value), e = .returned (.slice (some ⟨w.heap.size, 0, none⟩) n c) ∧ n ≤ c ∧ M.size = c ∧ w' = w.alloc (.cells M 39) := by
  by_cases hn : n = 1
  · subst hn
    have hmk : ∀ w : World, (Instr.makeSlice 25 (.int .i64 1) (.int .i64 1)).run Yba.prog w = .ok (.slice (some ⟨w.heap.size, 0, none⟩) 1 1) (w.alloc (.cells #[.int .u64 0] 39)) := fun _ => by kernel_rfl
    go_enter Yba.func25, Yba.ntmps25
    go_wp2
    go_ret
    exact ⟨1, _, rfl, by omega, rfl, rfl⟩
  · obtain ⟨i, hi, hz, hs, hb⟩ := info_parts zero39
    have hmk : ∀ w : World, (Instr.makeSlice 25 (.int .i64 n) (.int .i64 ((n : Int) + 4))).run Yba.prog w = .ok (.slice (some ⟨w.heap.size, 0, none⟩) n (n + 4)) (w.alloc (.cells (madeCells #[.int .u64 0] (n + 4)) 39)) := fun w => by
      have h := run_make (P := Yba.prog) w 25 39 i (.int .u64 0) Yba.underlying25 hi hz .i64 .i64 (n : Int) ((n : Int) + 4) (by omega) (by omega) (by rw [hb]; omega) (by omega)
      have e1 : ((n : Int) + 4).toNat = n + 4 := by omega
      rw [h, e1, hs, Nat.mul_one]
      rfl
    have hM : (madeCells #[Value.int .u64 0] (n + 4)).size = n + 4 := size_madeCells _ _
    have hn1 : ((n : Int) == 1) = false := by simp; omega
    have HM : Hid ((madeCells #[Value.int .u64 0] (n + 4)).size = n + 4) := hM
    clear hi hz hs hb hM
    generalize madeCells #[Value.int .u64 0] (n + 4) = M at *
    go_enter Yba.func25, Yba.ntmps25
    go_wp2
    go_ret
    exact ⟨n + 4, M, rfl, by omega, HM.out, rfl⟩

/-- 'copy' over the first n cells of a new row -/
theorem copyN {ops : Array Oper} {rest : List Oper} {o : Oper} {a : Act} {Q : Exit → Act → World → Prop} (w : World) (hgd : o.guard = none) (d s : Operand)
    (ho : o.op = .call { callee := .builtin .copy, args := #[d, s], argTypes := #[25, 25] }) (n c c' g : Nat) (sp : Option Addr) (ws : Nat → Int) (M : Array Value) (hn1 : 1 ≤ n) (hM : M.size = c) (hnc : n ≤ c)
    (h : NatIn w sp n c' g ws) (hd : a.eval d = .slice (some ⟨w.heap.size, 0, none⟩) n c) (hs : a.eval s = .slice sp n c')
    (hk : ∀ w', NatIn w' (some ⟨w.heap.size, 0, none⟩) n c w.heap.size ws → Below w.heap.size w w' → wpList Yba.prog ops Q rest (a.put o.dst (goInt n)) w') :
    wpList Yba.prog ops Q (o :: rest) a (w.alloc (.cells M 39)) := by
  obtain ⟨hsp, hgl⟩ := h.head (by omega)
  have hg : (w.alloc (.cells M 39)).heap[w.heap.size]? = some (.cells M 39 (0, 0)) := by
    show (w.heap.push _)[w.heap.size]? = _
    simp
  have hlen : ((List.range n).map fun k => Value.int .u64 (ws k)).length = n := by simp
  refine wpList_copy_own hgd d s 25 25 ho 39 Yba.underlying25 size39 w.heap.size 0 n c ⟨g, 0, none⟩ n c' hd (by rw [hs, hsp]) M 39 hg ((List.range n).map fun k => Value.int .u64 (ws k)) (by simp) ?_ (by simp; omega) ?_ ?_
  · intro j v hj
    have hj2 : j < n := by
      have := (List.getElem?_eq_some_iff.1 hj).1
      simpa using this
    have e : ((List.range n).map fun k => Value.int .u64 (ws k))[j]? = some (.int .u64 (ws j)) := by simp [hj2]
    rw [e] at hj
    obtain rfl := Option.some.inj hj
    rw [Go.WideShapes.add_plain, Nat.zero_add, World.cell?_alloc_lt _ _ _ hgl]
    exact h.cell j hj2
  · intro v hv
    simp at hv
    obtain ⟨k, _, rfl⟩ := hv
    rfl
  · rw [hlen, setRow_new]
    refine hk _ (natIn_new (fun k hk => ?_) h.bd h.nle (by simp)) ((Below.refl _ _).alloc (Nat.le_refl _) _)
    have hg2 : (w.alloc (.cells (M.toList.take 0 ++ (((List.range n).map fun k => Value.int .u64 (ws k)) ++ M.toList.drop (0 + n))).toArray 39)).heap[w.heap.size]? = some (.cells (M.toList.take 0 ++ (((List.range n).map fun k => Value.int .u64 (ws k)) ++ M.toList.drop (0 + n))).toArray 39 (0, 0)) := by
      show (w.heap.push _)[w.heap.size]? = _
      simp
    simp only [World.cell?, hg2]
    simp [List.getElem?_append_left, hk]

/-- nat.set onto a nil nat -/
theorem set_any (w : World) (a : Option Addr) (n c g : Nat) (ws : Nat → Int) (h : NatIn w a n c g ws) (h0 : n = 0 → a = none ∧ c = 0) :
    Calls Yba.prog 18 #[.slice none 0 0, .slice a n c] w fun e w' => ∃ a' c' g', e = .returned (.slice a' n c') ∧ NatIn w' a' n c' g' ws ∧ Below w.heap.size w w' ∧ (n = 0 → a' = none ∧ c' = 0) := by
  have hn := h.nle
  by_cases hn0 : n = 0
  · subst hn0
    obtain ⟨rfl, rfl⟩ := h0 rfl
    have hb := h.bd
    clear h h0
    have hcp : ∀ (ty : TypeId) (w : World), (Builtin.copy_ #[25, 25] ty #[.slice none 0 0, .slice none 0 0]).run Yba.prog w = .ok (goInt 0) w := fun ty w => run_copy_none (P := Yba.prog) w 25 25 ty 39 none none 0 0 0 0 Yba.underlying25 size39 rfl
    go_enter Yba.func18, Yba.ntmps18
    go_wp2_with (go_at_call 25; refine (make_nil _).mono ?_; rintro e w' ⟨rfl, rfl⟩)
    go_ret
    exact ⟨none, 0, 0, rfl, natIn_nil _ ws hb, Below.refl _ _, fun _ => ⟨rfl, rfl⟩⟩
  · have HB := h
    go_enter Yba.func18, Yba.ntmps18
    go_wp2_with fail
    refine (make_any _ n (by omega) hn).mono ?_
    rintro e w' ⟨c', M, rfl, hc', hM, hw'⟩
    subst hw'
    have HM : Hid (M.size = c') := hM
    clear hM
    go_wp2_with (refine copyN _ rfl (.tmp 9) (.tmp 10) rfl n c' c g a ws M (by omega) HM.out hc' h rfl rfl ?_)
    intro w3 hN hbel
    clear h h0
    go_wp2
    go_ret
    exact ⟨_, c', _, rfl, hN, hbel, fun e => absurd e hn0⟩
theorem same_nil (w : World) (a : Option Addr) (n c : Nat) (hn : n ≤ 1) : Calls Yba.prog 23 #[.slice none 0 0, .slice a n c] w fun e w' => e = .returned (.bool false) ∧ ∃ m, w' = w.drewN m := by
  by_cases h : n = 0
  · subst h
    go_enter Yba.func23, Yba.ntmps23
    go_wp2
    go_quiet (fail)
    go_wp2
    go_ret
    exact ⟨rfl, _, rfl⟩
  · obtain rfl : n = 1 := by omega
    go_enter Yba.func23, Yba.ntmps23
    go_wp2
    go_quiet (fail)
    go_wp2
    go_ret
    exact ⟨rfl, _, rfl⟩

theorem alias_nil (w : World) (a : Option Addr) (n c : Nat) : Calls Yba.prog 24 #[.slice none 0 0, .slice a n c] w fun e w' => e = .returned (.bool false) ∧ ∃ m, w' = w.drewN m := by
  go_enter Yba.func24, Yba.ntmps24
  go_wp2
  go_quiet (fail)
  go_wp2
  go_ret
  exact ⟨rfl, _, rfl⟩
/-- what lsh hands back, whatever the case -/
def Shifted (w : World) (V : Int) (e : Ending) (w' : World) : Prop :=
  ∃ a n c g ws, e = .returned (.slice a n c) ∧ NatIn w' a n c g ws ∧ Num n ws V ∧ (n = 0 → a = none ∧ c = 0) ∧ Below w.heap.size w w'

theorem Made.shifted {w w' : World} {V : Int} {e : Ending} (h : Made w V e w') (hV : V ≠ 0) : Shifted w V e w' := by
  obtain ⟨a, n, c, g, ws, he, hN, hV', hb⟩ := h
  exact ⟨a, n, c, g, ws, he, hN, hV', fun h0 => absurd (hV'.1.1 h0) hV, hb⟩

theorem below_drewN' {B : Nat} {w w' : World} {m : Nat} (h : Below B (w.drewN m) w') : Below B w w' := ⟨h.os, h.tape, h.output, h.size, h.block⟩

theorem lsh_0 (w : World) (a : Option Addr) (n c g : Nat) (ws : Nat → Int) (h : NatIn w a n c g ws) (h0 : n = 0 → a = none ∧ c = 0) (hn : n ≤ 1) (hu : n = 1 → ws 0 ≠ 0) :
    Calls Yba.prog 17 #[.slice none 0 0, .slice a n c, .int .u64 0] w (Shifted w (low n ws)) := by
  go_enter Yba.func17, Yba.ntmps17
  go_wp2_with fail
  refine (same_nil _ a n c hn).mono ?_
  rintro e x1 ⟨rfl, m1, hx1⟩
  subst hx1
  go_wp2_with fail
  refine (alias_nil _ a n c).mono ?_
  rintro e x1 ⟨rfl, m2, hx1⟩
  subst hx1
  go_wp2_with fail
  refine (set_any _ a n c g ws ((h.drew _)) h0).mono ?_
  rintro e x2 ⟨a', c', g', rfl, hN, hbel, hnil⟩
  have R : Shifted w (low n ws) (.returned (.slice a' n c')) x2 := by
    refine ⟨a', n, c', g', ws, rfl, hN, ?_, hnil, below_drewN' hbel⟩
    have hb := h.bd 0
    by_cases hn0 : n = 0
    · subst hn0; simp [Num, low]
    · obtain rfl : n = 1 := by omega
      have := hu rfl
      simp [Num, low]; omega
  clear hN hbel hnil h h0 hu
  go_wp2
  go_ret
  exact R

theorem lsh_nil (w : World) (s : Nat) (hs : 1 ≤ s) (hs2 : s ≤ 69) (ws : Nat → Int) (hb : ∀ k, 0 ≤ ws k ∧ ws k ≤ 18446744073709551615) :
    Calls Yba.prog 17 #[.slice none 0 0, .slice none 0 0, .int .u64 s] w (Shifted w 0) := by
  have hs0 : ((s : Int) == 0) = false := by simp; omega
  go_enter Yba.func17, Yba.ntmps17
  go_wp2
  go_ret
  exact ⟨none, 0, 0, 0, ws, rfl, natIn_nil _ ws hb, by simp [Num], fun _ => ⟨rfl, rfl⟩, Below.refl _ _⟩

theorem lsh_any (w : World) (a : Option Addr) (n c g : Nat) (ws : Nat → Int) (h : NatIn w a n c g ws) (h0 : n = 0 → a = none ∧ c = 0) (hn : n ≤ 1) (hu : n = 1 → ws 0 ≠ 0) (s : Nat) (hs : s ≤ 69) :
    Calls Yba.prog 17 #[.slice none 0 0, .slice a n c, .int .u64 s] w (Shifted w (low n ws * 2 ^ s)) := by
  by_cases hs0 : s = 0
  · subst hs0
    have := lsh_0 w a n c g ws h h0 hn hu
    simpa using this
  · by_cases hn0 : n = 0
    · subst hn0
      obtain ⟨rfl, rfl⟩ := h0 rfl
      have := lsh_nil w s (by omega) hs ws h.bd
      simpa [low] using this
    · obtain rfl : n = 1 := by omega
      obtain ⟨rfl, hg⟩ := h.head (by omega)
      have hc := h.cell 0 (by omega)
      obtain ⟨b0, b1⟩ := h.bd 0
      have hp : (0 : Int) < 2 ^ s := Int.pow_pos (by omega)
      have hV : ws 0 * 2 ^ s ≠ 0 := Int.mul_ne_zero (hu rfl) (by omega)
      have el : low 1 ws = ws 0 := rfl
      rw [el]
      by_cases h63 : s ≤ 63
      · exact (lsh_c w g c (ws 0) s (by omega) h63 b0 b1 hc hg).mono fun e w' hm => hm.shifted hV
      · by_cases h64 : s = 64
        · subst h64
          exact (lsh_d w g c (ws 0) b0 b1 hc hg).mono fun e w' hm => hm.shifted hV
        · exact (lsh_e w g c (ws 0) s (by omega) (by omega) b0 b1 hc hg).mono fun e w' hm => hm.shifted hV
end Go.Proofs.Ybulkpra
