/- The shares of wins, draws and losses are each one's part of all three, and there are none of nothing. The variable of the error holds what the program's text lays. -/
import Derived.Test.YtgebocnomapchaaDoorLaid
import Derived.Test.YtgebocnomapchaaDoorKit
import Derived.Laws.FloatArith
import Derived.StillTailTactics
namespace Go.Proofs.YtgebocnomapchaaDoor
open Go.RowKit
set_option maxHeartbeats 1600000
set_option linter.unusedSimpArgs false
set_option linter.unusedVariables false
set_option maxRecDepth 100000

/-! ### the floats -/
theorem up_self (r : Nat) (h : r ≤ 2139095040) : Ieee.single.order r r = some .eq := by
  have e1 : Ieee.single.signWeight = 2147483648 := by decide
  have e2 : Ieee.single.infRung = 2139095040 := by decide
  have hr : r % 2147483648 = r := Nat.mod_eq_of_lt (by omega)
  unfold Ieee.Format.order Ieee.Format.read
  rw [e1, e2, hr]
  simp only
  split
  · simp [Ieee.Datum.order]
  split
  · simp [Ieee.Datum.order]
  split
  · simp [Ieee.Datum.order]
  · omega
theorem up_write (m : Nat) (e : Int) : Ieee.single.write (.number false m e) ≤ 2139095040 := by
  have e2 : Ieee.single.infRung = 2139095040 := by decide
  simp only [Ieee.Format.write, Ieee.Format.nearest, e2, Ieee.Format.word]
  split
  · simp
  · simp; omega
theorem up_min (L K : Nat) (hl : L < 22) (h1 : K < 16777216) (h0 : 8388608 ≤ K) :
    1065353216 ≤ (if false = true then Ieee.single.signWeight + min ((L + 126) * 8388608 + K) 2139095040 else min ((L + 126) * 8388608 + K) 2139095040) ∧
    (if false = true then Ieee.single.signWeight + min ((L + 126) * 8388608 + K) 2139095040 else min ((L + 126) * 8388608 + K) 2139095040) ≤ 1249902592 := by
  rw [if_neg (by decide)]
  omega
/-- A whole number below 2^22 as a float: its rung. -/
theorem up_near (n : Nat) (h0 : 0 < n) (h1 : n < 4194304) : ∃ q, FloatKind.nearest .f32 (n : Int) = q ∧ 1065353216 ≤ q ∧ q ≤ 1249902592 := by
  have e3 : Ieee.single.leastPlace = -149 := by decide
  have e4 : Ieee.single.binade = 8388608 := by decide
  have e2 : Ieee.single.infRung = 2139095040 := by decide
  have hl : n.log2 < 22 := (Nat.log2_lt (by omega)).2 (by simpa using h1)
  have hle : 2 ^ n.log2 ≤ n := Nat.log2_self_le (by omega)
  have hlt : n < 2 ^ (n.log2 + 1) := Nat.lt_log2_self
  refine ⟨_, rfl, ?_⟩
  have hn : ¬ ((n : Int) < 0) := by omega
  simp only [FloatKind.nearest, FloatKind.encode, FloatKind.format, Ieee.Format.write, Ieee.Format.nearest, hn, decide_false, Int.natAbs_natCast, e3, e2, e4]
  rw [if_neg (by omega)]
  have hf : Ieee.single.fractionBits = 23 := rfl
  have hm : max ((0 : Int) + (n.log2 : Nat) - (23 : Nat)) (-149) = (n.log2 : Int) - 23 := by omega
  rw [hf, hm]
  have hd : ((n.log2 : Int) - 23 - 0).toNat = 0 := by omega
  have hu : (0 - ((n.log2 : Int) - 23)).toNat = 23 - n.log2 := by omega
  have ht : ((n.log2 : Int) - 23 - -149).toNat = n.log2 + 126 := by omega
  rw [hd, hu, ht]
  have hk : Ieee.Toward.even.cut false (n <<< (23 - n.log2)) 0 = n <<< (23 - n.log2) := by
    simp [Ieee.Toward.cut]
    omega
  rw [hk, Nat.shiftLeft_eq]
  have hp : 2 ^ n.log2 * 2 ^ (23 - n.log2) = 8388608 := by
    rw [← Nat.pow_add, show n.log2 + (23 - n.log2) = 23 by omega]
  have hq : n * 2 ^ (23 - n.log2) < 16777216 := by
    have : n * 2 ^ (23 - n.log2) < 2 ^ (n.log2 + 1) * 2 ^ (23 - n.log2) := Nat.mul_lt_mul_of_pos_right hlt (Nat.two_pow_pos _)
    rw [← Nat.pow_add, show n.log2 + 1 + (23 - n.log2) = 24 by omega] at this
    exact this
  have hq' : 8388608 ≤ n * 2 ^ (23 - n.log2) := by
    rw [← hp]; exact Nat.mul_le_mul_right _ hle
  simp only [Ieee.Format.word]
  clear hk hu ht hd hm hf hn hle hlt hp e2 e3 e4
  generalize n * 2 ^ (23 - n.log2) = K at *
  generalize n.log2 = L at *
  exact up_min L K hl hq hq'
theorem up_read (q : Nat) (h0 : 1065353216 ≤ q) (h1 : q ≤ 1249902592) : ∃ m e, Ieee.single.read q = .number false m e ∧ m ≠ 0 := by
  have e1 : Ieee.single.signWeight = 2147483648 := by decide
  have e2 : Ieee.single.infRung = 2139095040 := by decide
  have e4 : Ieee.single.binade = 8388608 := by decide
  have hr : q % 2147483648 = q := Nat.mod_eq_of_lt (by omega)
  have hs : q / 2147483648 = 0 := Nat.div_eq_of_lt (by omega)
  unfold Ieee.Format.read
  rw [e1, e2, e4, hr, hs]
  simp only
  rw [if_neg (by omega), if_pos (by omega)]
  exact ⟨_, _, rfl, by omega⟩
theorem up_quot (x y m2 m : Nat) (e2 e : Int) (hx : Ieee.single.read x = .number false m2 e2) (hy : Ieee.single.read y = .number false m e) (hm0 : m ≠ 0) :
    ∃ r, Ieee.single.div x y = some r ∧ Ieee.single.order r r = some .eq := by
  unfold Ieee.Format.div
  rw [hx, hy]
  simp only [Ieee.Datum.quotient, if_neg hm0, Option.map_some]
  exact ⟨_, rfl, up_self _ (up_write _ _)⟩
theorem up_zero : Ieee.single.read (FloatKind.nearest .f32 (0 : Int)) = .number false 0 (-149) := by decide +kernel
theorem up_num (a : Nat) (ha : a < 4194304) : ∃ m e, Ieee.single.read (FloatKind.nearest .f32 (a : Int)) = .number false m e := by
  by_cases h : a = 0
  · subst h
    exact ⟨_, _, up_zero⟩
  · obtain ⟨q, hq, l, u⟩ := up_near a (by omega) ha
    obtain ⟨m, e, hm, _⟩ := up_read q l u
    exact ⟨m, e, hq ▸ hm⟩
/-- What is divided by a number from 1 on: a float that equals itself. -/
theorem up_div (a n : Nat) (ha : a < 4194304) (h0 : 0 < n) (h1 : n < 4194304) : ∃ r, floatBits .quo .f32 (floatOfInt .f32 (a : Int)) (floatOfInt .f32 (n : Int)) = some r ∧ Ieee.single.order r r = some .eq := by
  obtain ⟨q, hq, l, u⟩ := up_near n h0 h1
  obtain ⟨m, e, hm, hm0⟩ := up_read q l u
  obtain ⟨m2, e2, h2⟩ := up_num a ha
  rw [← hq] at hm
  exact up_quot _ _ m2 m e2 e h2 hm hm0

def upScore (a b c : Int) : Value := .agg #[.int .i64 0, .int .i64 0, .bool false, .bool false, .int .i64 a, .int .i64 b, .int .i64 c]

theorem up_win (a b c : Int) (r : Nat) (w : World) (a0 : 0 ≤ a) (a1 : a ≤ 1000000) (b0 : 0 ≤ b) (b1 : b ≤ 1000000) (c0 : 0 ≤ c) (c1 : c ≤ 1000000) (h0 : ¬ a + b + c = 0)
    (hr : floatBits .quo .f32 (floatOfInt .f32 a) (floatOfInt .f32 (a + b + c)) = some r) :
    Calls Tryd.prog 37 #[upScore a b c] w fun e w' => e = .returned (.tuple #[.float .f32 r, .nilIface]) ∧ Below w.heap.size w w' := by
  have hq := fun w => run_float_arith (P := Tryd.prog) w .quo 25 .f32 _ _ r hr
  have hcv := fun (n : Int) w => run_convert_int_float (P := Tryd.prog) w 3 25 .i64 .f32 n (by kernel_rfl) (by kernel_rfl)
  unfold upScore
  go_enter Tryd.func37, Tryd.ntmps37
  go_wp2
  go_ret2
  exact ⟨rfl, (Below.refl _ _).alloc (Nat.le_refl _) _⟩
theorem up_win_none (w : World) (u : TypeId) (v : Value) (hg : w.cell? ⟨2, 0, none⟩ = some (.iface u v)) :
    Calls Tryd.prog 37 #[upScore 0 0 0] w fun e w' => e = .returned (.tuple #[.float .f32 0, .iface u v]) ∧ Below w.heap.size w w' := by
  have hl := lt_of_cell hg
  simp only at hl
  have hg1 : ∀ o, (w.alloc o).cell? ⟨2, 0, none⟩ = some (.iface u v) := fun o => by rw [World.cell?_alloc_lt _ _ _ hl]; exact hg
  unfold upScore
  go_enter Tryd.func37, Tryd.ntmps37
  go_wp2
  go_quiet (fail)
  go_wp2
  go_ret2
  exact ⟨rfl, below_drewN ((Below.refl _ _).alloc (Nat.le_refl _) _) _⟩

theorem up_draw (a b c : Int) (r : Nat) (w : World) (a0 : 0 ≤ a) (a1 : a ≤ 1000000) (b0 : 0 ≤ b) (b1 : b ≤ 1000000) (c0 : 0 ≤ c) (c1 : c ≤ 1000000) (h0 : ¬ a + b + c = 0)
    (hr : floatBits .quo .f32 (floatOfInt .f32 b) (floatOfInt .f32 (a + b + c)) = some r) :
    Calls Tryd.prog 38 #[upScore a b c] w fun e w' => e = .returned (.tuple #[.float .f32 r, .nilIface]) ∧ Below w.heap.size w w' := by
  have hq := fun w => run_float_arith (P := Tryd.prog) w .quo 25 .f32 _ _ r hr
  have hcv := fun (n : Int) w => run_convert_int_float (P := Tryd.prog) w 3 25 .i64 .f32 n (by kernel_rfl) (by kernel_rfl)
  unfold upScore
  go_enter Tryd.func38, Tryd.ntmps38
  go_wp2
  go_ret2
  exact ⟨rfl, (Below.refl _ _).alloc (Nat.le_refl _) _⟩
theorem up_draw_none (w : World) (u : TypeId) (v : Value) (hg : w.cell? ⟨2, 0, none⟩ = some (.iface u v)) :
    Calls Tryd.prog 38 #[upScore 0 0 0] w fun e w' => e = .returned (.tuple #[.float .f32 0, .iface u v]) ∧ Below w.heap.size w w' := by
  have hl := lt_of_cell hg
  simp only at hl
  have hg1 : ∀ o, (w.alloc o).cell? ⟨2, 0, none⟩ = some (.iface u v) := fun o => by rw [World.cell?_alloc_lt _ _ _ hl]; exact hg
  unfold upScore
  go_enter Tryd.func38, Tryd.ntmps38
  go_wp2
  go_quiet (fail)
  go_wp2
  go_ret2
  exact ⟨rfl, below_drewN ((Below.refl _ _).alloc (Nat.le_refl _) _) _⟩

theorem up_loss (a b c : Int) (r : Nat) (w : World) (a0 : 0 ≤ a) (a1 : a ≤ 1000000) (b0 : 0 ≤ b) (b1 : b ≤ 1000000) (c0 : 0 ≤ c) (c1 : c ≤ 1000000) (h0 : ¬ a + b + c = 0)
    (hr : floatBits .quo .f32 (floatOfInt .f32 c) (floatOfInt .f32 (a + b + c)) = some r) :
    Calls Tryd.prog 39 #[upScore a b c] w fun e w' => e = .returned (.tuple #[.float .f32 r, .nilIface]) ∧ Below w.heap.size w w' := by
  have hq := fun w => run_float_arith (P := Tryd.prog) w .quo 25 .f32 _ _ r hr
  have hcv := fun (n : Int) w => run_convert_int_float (P := Tryd.prog) w 3 25 .i64 .f32 n (by kernel_rfl) (by kernel_rfl)
  unfold upScore
  go_enter Tryd.func39, Tryd.ntmps39
  go_wp2
  go_ret2
  exact ⟨rfl, (Below.refl _ _).alloc (Nat.le_refl _) _⟩
theorem up_loss_none (w : World) (u : TypeId) (v : Value) (hg : w.cell? ⟨2, 0, none⟩ = some (.iface u v)) :
    Calls Tryd.prog 39 #[upScore 0 0 0] w fun e w' => e = .returned (.tuple #[.float .f32 0, .iface u v]) ∧ Below w.heap.size w w' := by
  have hl := lt_of_cell hg
  simp only at hl
  have hg1 : ∀ o, (w.alloc o).cell? ⟨2, 0, none⟩ = some (.iface u v) := fun o => by rw [World.cell?_alloc_lt _ _ _ hl]; exact hg
  unfold upScore
  go_enter Tryd.func39, Tryd.ntmps39
  go_wp2
  go_quiet (fail)
  go_wp2
  go_ret2
  exact ⟨rfl, below_drewN ((Below.refl _ _).alloc (Nat.le_refl _) _) _⟩

theorem up_idle (p q : Addr) (w : World) :
    CallsD Tryd.prog 36 #[.pointer (some p), .pointer (some q)] .returning w fun e u' w' => e = .returned (.tuple #[]) ∧ u' = .returning ∧ w = w' := by
  refine callsD_of_wpS Tryd.func36 rfl fun c₀ cs hu => ?_
  apply wpS_seq
  apply wpS_region
  simp [wpOpsS, go_sem, recoverD, hu, Tryd.ntmps36, Exit.thenS]
  refine wpS_cond (t := false) (by simp [Act.eval, Array.replicate]) ?_
  simp only [Bool.false_eq_true, if_false]
  refine wpS_of_wp (wp_skip ?_)
  cases c₀
  simp_all [bodyPostS, results, Tryd.results36]

theorem up_percent (a b c : Int) (r1 r2 r3 : Nat) (w : World) (a0 : 0 ≤ a) (a1 : a ≤ 1000000) (b0 : 0 ≤ b) (b1 : b ≤ 1000000) (c0 : 0 ≤ c) (c1 : c ≤ 1000000) (h0 : ¬ a + b + c = 0)
    (hr1 : floatBits .quo .f32 (floatOfInt .f32 a) (floatOfInt .f32 (a + b + c)) = some r1) (hr2 : floatBits .quo .f32 (floatOfInt .f32 b) (floatOfInt .f32 (a + b + c)) = some r2) (hr3 : floatBits .quo .f32 (floatOfInt .f32 c) (floatOfInt .f32 (a + b + c)) = some r3) :
    Calls Tryd.prog 11 #[.int .i64 a, .int .i64 b, .int .i64 c] w fun e w' => e = .returned (.tuple #[.agg #[.float .f32 r1, .float .f32 r2, .float .f32 r3], .bool true]) ∧ Below w.heap.size w w' := by
  have hmf := makeFunc_run Tryd.prog
  go_enter_defers Tryd.func11, Tryd.ntmps11
  go_wp2_with fail
  refine (up_win a b c r1 _ a0 a1 b0 b1 c0 c1 h0 hr1).mono ?_
  rintro e w1 ⟨rfl, q1⟩
  obtain ⟨hc1, hf1⟩ := bcell q1
  have z1 : w.heap.size + 2 < w1.heap.size := by have := q1.size; simp at this; omega
  go_wp2_with fail
  refine (up_draw a b c r2 _ a0 a1 b0 b1 c0 c1 h0 hr2).mono ?_
  rintro e w2 ⟨rfl, q2⟩
  obtain ⟨hc2, hf2⟩ := bcell q2
  have z2 : w1.heap.size ≤ w2.heap.size := q2.size
  go_wp2_with fail
  refine (up_loss a b c r3 _ a0 a1 b0 b1 c0 c1 h0 hr3).mono ?_
  rintro e w3 ⟨rfl, q3⟩
  obtain ⟨hc3, hf3⟩ := bcell q3
  have z3 : w2.heap.size ≤ w3.heap.size := q3.size
  go_wp2_with fail
  have Q := bstep (bstep q1 q2 (by simp; omega)) q3 (by simp; omega)
  obtain ⟨hc, hf⟩ := bcell Q
  have k0 : w3.cell? ⟨w.heap.size, 0, none⟩ = some (.float .f32 0) := by rw [hc _ _ (by simp; omega)]; simp [go_sem]
  have k1 : w3.cell? ⟨w.heap.size, 1, none⟩ = some (.float .f32 0) := by rw [hc _ _ (by simp; omega)]; simp [go_sem]
  have k2 : w3.cell? ⟨w.heap.size, 2, none⟩ = some (.float .f32 0) := by rw [hc _ _ (by simp; omega)]; simp [go_sem]
  have k3 : w3.cell? ⟨w.heap.size + 1, 0, none⟩ = some (.bool false) := by rw [hc _ _ (by simp)]; simp [go_sem]
  have f0 : ∀ i, w3.frozen? ⟨w.heap.size, i, none⟩ = false := fun i => by rw [hf _ _ (by simp; omega)]; simp [go_sem]
  have f3 : w3.frozen? ⟨w.heap.size + 1, 0, none⟩ = false := by rw [hf _ _ (by simp)]; simp [go_sem]
  have B : Below w.heap.size w w3 := (((((Below.refl _ _).alloc (Nat.le_refl _) _).alloc (by simp) _).alloc (by simp; omega) _).trans (Q.mono (by simp; omega)))
  clear hc hf hc1 hf1 hc2 hf2 hc3 hf3 q1 q2 q3 Q
  have z0 : w.heap.size + 2 < w3.heap.size := by omega
  refine wp_region_noPanic ?_
  go_region
  refine NoPanic.normal ?_
  go_wp2
  refine leaves_cons (f := 36) (args := #[.pointer (some ⟨w.heap.size, 0, none⟩), .pointer (some ⟨w.heap.size + 1, 0, none⟩)]) (by simp) (by simp [go_sem]) ?_
  refine (up_idle _ _ _).mono ?_
  rintro e u' w'' ⟨rfl, rfl, rfl⟩
  simp [Leaves, settle, results, Tryd.results11, go_sem, k0, k1, k2, k3]
  exact ((((B.setCell (by simp) _).setCell (by simp) _).setCell (by simp) _).setCell (by simp) _).drew

theorem up_percent_none (u : TypeId) (v : Value) (w : World) (hg : w.cell? ⟨2, 0, none⟩ = some (.iface u v)) :
    Calls Tryd.prog 11 #[.int .i64 0, .int .i64 0, .int .i64 0] w fun e w' => e = .returned (.tuple #[.agg #[.float .f32 0, .float .f32 0, .float .f32 0], .bool false]) ∧ Below w.heap.size w w' := by
  have hmf := makeFunc_run Tryd.prog
  have hgl := lt_of_cell hg
  simp only at hgl
  have HG := Lib.hid hg
  clear hg
  have G : ∀ {W : World}, Below w.heap.size w W → W.cell? ⟨2, 0, none⟩ = some (.iface u v) := fun h => (h.cell (p := ⟨2, 0, none⟩) hgl).trans HG.out
  go_enter_defers Tryd.func11, Tryd.ntmps11
  go_wp2_with fail
  refine (up_win_none _ u v (G ((((Below.refl _ _).alloc (Nat.le_refl _) _).alloc (by simp) _).alloc (by simp; omega) _))).mono ?_
  rintro e w1 ⟨rfl, q1⟩
  obtain ⟨hc1, hf1⟩ := bcell q1
  have z1 : w.heap.size + 2 < w1.heap.size := by have := q1.size; simp at this; omega
  go_wp2_with fail
  refine (up_draw_none _ u v (G (bstep ((((Below.refl _ _).alloc (Nat.le_refl _) _).alloc (by simp) _).alloc (by simp; omega) _) q1 (by simp; omega)))).mono ?_
  rintro e w2 ⟨rfl, q2⟩
  obtain ⟨hc2, hf2⟩ := bcell q2
  have z2 : w1.heap.size ≤ w2.heap.size := q2.size
  go_wp2_with fail
  refine (up_loss_none _ u v (G (bstep (bstep ((((Below.refl _ _).alloc (Nat.le_refl _) _).alloc (by simp) _).alloc (by simp; omega) _) q1 (by simp; omega)) q2 (by omega)))).mono ?_
  rintro e w3 ⟨rfl, q3⟩
  obtain ⟨hc3, hf3⟩ := bcell q3
  have z3 : w2.heap.size ≤ w3.heap.size := q3.size
  go_wp2_with fail
  have Q := bstep (bstep q1 q2 (by simp; omega)) q3 (by simp; omega)
  obtain ⟨hc, hf⟩ := bcell Q
  have k0 : w3.cell? ⟨w.heap.size, 0, none⟩ = some (.float .f32 0) := by rw [hc _ _ (by simp; omega)]; simp [go_sem]
  have k1 : w3.cell? ⟨w.heap.size, 1, none⟩ = some (.float .f32 0) := by rw [hc _ _ (by simp; omega)]; simp [go_sem]
  have k2 : w3.cell? ⟨w.heap.size, 2, none⟩ = some (.float .f32 0) := by rw [hc _ _ (by simp; omega)]; simp [go_sem]
  have k3 : w3.cell? ⟨w.heap.size + 1, 0, none⟩ = some (.bool false) := by rw [hc _ _ (by simp)]; simp [go_sem]
  have f0 : ∀ i, w3.frozen? ⟨w.heap.size, i, none⟩ = false := fun i => by rw [hf _ _ (by simp; omega)]; simp [go_sem]
  have f3 : w3.frozen? ⟨w.heap.size + 1, 0, none⟩ = false := by rw [hf _ _ (by simp)]; simp [go_sem]
  have B : Below w.heap.size w w3 := (((((Below.refl _ _).alloc (Nat.le_refl _) _).alloc (by simp) _).alloc (by simp; omega) _).trans (Q.mono (by simp; omega)))
  clear hc hf hc1 hf1 hc2 hf2 hc3 hf3 q1 q2 q3 Q
  have z0 : w.heap.size + 2 < w3.heap.size := by omega
  refine wp_region_noPanic ?_
  go_region
  refine NoPanic.normal ?_
  go_wp2
  refine leaves_cons (f := 36) (args := #[.pointer (some ⟨w.heap.size, 0, none⟩), .pointer (some ⟨w.heap.size + 1, 0, none⟩)]) (by simp) (by simp [go_sem]) ?_
  refine (up_idle _ _ _).mono ?_
  rintro e u' w'' ⟨rfl, rfl, rfl⟩
  simp [Leaves, settle, results, Tryd.results11, go_sem, k0, k1, k2, k3]
  exact ((((B.setCell (by simp) _).setCell (by simp) _).setCell (by simp) _).setCell (by simp) _).drew

theorem up_law (a b c : Int) (_ha : -9223372036854775808 ≤ a) (_ha' : a ≤ 9223372036854775807) (_hb : -9223372036854775808 ≤ b) (_hb' : b ≤ 9223372036854775807) (_hc : -9223372036854775808 ≤ c) (_hc' : c ≤ 9223372036854775807) (w : World) (hg : ErrVar w 2) :
    Calls Tryd.prog 4 #[.int .i64 a, .int .i64 b, .int .i64 c] w fun e w' => e = .returned (.bool true) ∧ Below w.heap.size w w' := by
  clear _ha _ha' _hb _hb' _hc _hc'
  by_cases h1 : a < 0
  · go_enter Tryd.func4, Tryd.ntmps4
    go_wp2
    go_ret
    exact ⟨rfl, Below.refl _ _⟩
  by_cases h2 : b < 0
  · go_enter Tryd.func4, Tryd.ntmps4
    go_wp2
    go_ret
    exact ⟨rfl, Below.refl _ _⟩
  by_cases h3 : c < 0
  · go_enter Tryd.func4, Tryd.ntmps4
    go_wp2
    go_ret
    exact ⟨rfl, Below.refl _ _⟩
  by_cases h4 : 1000000 < a
  · go_enter Tryd.func4, Tryd.ntmps4
    go_wp2
    go_ret
    exact ⟨rfl, Below.refl _ _⟩
  by_cases h5 : 1000000 < b
  · go_enter Tryd.func4, Tryd.ntmps4
    go_wp2
    go_ret
    exact ⟨rfl, Below.refl _ _⟩
  by_cases h6 : 1000000 < c
  · go_enter Tryd.func4, Tryd.ntmps4
    go_wp2
    go_ret
    exact ⟨rfl, Below.refl _ _⟩
  by_cases h0 : a + b + c = 0
  · obtain rfl : a = 0 := by omega
    obtain rfl : b = 0 := by omega
    obtain rfl : c = 0 := by omega
    obtain ⟨u, v, hc⟩ := hg.ex
    clear h0 h1 h2 h3 h4 h5 h6 hg
    have HC := Lib.hid hc
    clear hc
    go_enter Tryd.func4, Tryd.ntmps4
    go_wp2_with fail
    refine (up_percent_none u v _ HC.out).mono ?_
    rintro e w1 ⟨rfl, q1⟩
    go_wp2
    go_ret
    exact ⟨rfl, q1.alloc q1.size _⟩
  · obtain ⟨x, rfl⟩ := Int.eq_ofNat_of_zero_le (show 0 ≤ a by omega)
    obtain ⟨y, rfl⟩ := Int.eq_ofNat_of_zero_le (show 0 ≤ b by omega)
    obtain ⟨z, rfl⟩ := Int.eq_ofNat_of_zero_le (show 0 ≤ c by omega)
    have hs : ((x + y + z : Nat) : Int) = (x : Int) + y + z := by omega
    obtain ⟨r1, d1, o1⟩ := up_div x (x + y + z) (by omega) (by omega) (by omega)
    obtain ⟨r2, d2, o2⟩ := up_div y (x + y + z) (by omega) (by omega) (by omega)
    obtain ⟨r3, d3, o3⟩ := up_div z (x + y + z) (by omega) (by omega) (by omega)
    rw [hs] at d1 d2 d3
    have hq1 := fun w => run_float_arith (P := Tryd.prog) w .quo 25 .f32 _ _ r1 d1
    have hq2 := fun w => run_float_arith (P := Tryd.prog) w .quo 25 .f32 _ _ r2 d2
    have hq3 := fun w => run_float_arith (P := Tryd.prog) w .quo 25 .f32 _ _ r3 d3
    have hcv := fun (n : Int) w => run_convert_int_float (P := Tryd.prog) w 3 25 .i64 .f32 n (by kernel_rfl) (by kernel_rfl)
    have p1 : FloatKind.f32.format.order r1 r1 = some .eq := o1
    have p2 : FloatKind.f32.format.order r2 r2 = some .eq := o2
    have p3 : FloatKind.f32.format.order r3 r3 = some .eq := o3
    clear hs hg o1 o2 o3
    go_enter Tryd.func4, Tryd.ntmps4
    go_wp2_with fail
    refine (up_percent _ _ _ r1 r2 r3 _ (by omega) (by omega) (by omega) (by omega) (by omega) (by omega) h0 d1 d2 d3).mono ?_
    rintro e w1 ⟨rfl, q1⟩
    go_wp2
    go_ret
    exact ⟨by simp [p3], q1.alloc q1.size _⟩
end Go.Proofs.YtgebocnomapchaaDoor
