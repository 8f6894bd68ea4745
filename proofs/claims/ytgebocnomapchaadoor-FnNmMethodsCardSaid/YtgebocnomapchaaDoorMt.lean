/- The names of how a game ends, for every method. The table of places holds what the program's text lays. -/
import Derived.Test.YtgebocnomapchaaDoorLaid
import Derived.Test.YtgebocnomapchaaDoorKit
namespace Go.Proofs.YtgebocnomapchaaDoor
open Go.RowKit
set_option maxHeartbeats 1600000
set_option linter.unusedSimpArgs false
set_option linter.unusedVariables false
set_option maxRecDepth 100000

def mtIdx : List Int := [0, 8, 17, 28, 37, 46, 65, 83, 96, 115, 135]
def mtNames : List ByteArray := [⟨#[78, 111, 77, 101, 116, 104, 111, 100]⟩, ⟨#[67, 104, 101, 99, 107, 109, 97, 116, 101]⟩, ⟨#[82, 101, 115, 105, 103, 110, 97, 116, 105, 111, 110]⟩, ⟨#[68, 114, 97, 119, 79, 102, 102, 101, 114]⟩, ⟨#[83, 116, 97, 108, 101, 109, 97, 116, 101]⟩, ⟨#[84, 104, 114, 101, 101, 102, 111, 108, 100, 82, 101, 112, 101, 116, 105, 116, 105, 111, 110]⟩, ⟨#[70, 105, 118, 101, 102, 111, 108, 100, 82, 101, 112, 101, 116, 105, 116, 105, 111, 110]⟩, ⟨#[70, 105, 102, 116, 121, 77, 111, 118, 101, 82, 117, 108, 101]⟩, ⟨#[83, 101, 118, 101, 110, 116, 121, 70, 105, 118, 101, 77, 111, 118, 101, 82, 117, 108, 101]⟩, ⟨#[73, 110, 115, 117, 102, 102, 105, 99, 105, 101, 110, 116, 77, 97, 116, 101, 114, 105, 97, 108]⟩]
def mtName (n : Nat) : ByteArray := mtNames.getD n ByteArray.empty

theorem mt_small (n : Int) (w : World) (h0 : -128 ≤ n) (h1 : n ≤ 127) :
    Calls Tryd.prog 33 #[.int .i64 n] w fun e w' => e = .returned (.int .i8 n) ∧ w = w' := by
  go_enter Tryd.func33, Tryd.ntmps33
  go_wp2
  go_ret
  exact ⟨rfl, rfl⟩

theorem mt_string (n : Nat) (w : World) (h : n < 10) (hg : IntTab w 9 .u8 mtIdx) :
    Calls Tryd.prog 65 #[.int .u8 n] w fun e w' => e = .returned (.string (mtName n)) ∧ Below w.heap.size w w' := by
  have c0 := hg.cell n (by simp [mtIdx]; omega)
  have c1 := hg.cell (n + 1) (by simp [mtIdx]; omega)
  clear hg
  unfold mtIdx at c0 c1
  have hn : n = 0 ∨ n = 1 ∨ n = 2 ∨ n = 3 ∨ n = 4 ∨ n = 5 ∨ n = 6 ∨ n = 7 ∨ n = 8 ∨ n = 9 := by omega
  rcases hn with rfl | rfl | rfl | rfl | rfl | rfl | rfl | rfl | rfl | rfl
  all_goals
    simp at c0 c1
    go_enter Tryd.func65, Tryd.ntmps65
    go_wp2
    go_quiet (fail)
    go_wp2
    go_ret
    exact ⟨by kernel_rfl, below_drewN (Below.refl _ _) _⟩

theorem mt_idle (p q : Addr) (w : World) :
    CallsD Tryd.prog 64 #[.pointer (some p), .pointer (some q)] .returning w fun e u' w' => e = .returned (.tuple #[]) ∧ u' = .returning ∧ w = w' := by
  refine callsD_of_wpS Tryd.func64 rfl fun c₀ cs hu => ?_
  apply wpS_seq
  apply wpS_region
  simp [wpOpsS, go_sem, recoverD, hu, Tryd.ntmps64, Exit.thenS]
  refine wpS_cond (t := false) (by simp [Act.eval, Array.replicate]) ?_
  simp only [Bool.false_eq_true, if_false]
  refine wpS_of_wp (wp_skip ?_)
  cases c₀
  simp_all [bodyPostS, results, Tryd.results64]

theorem mt_impl (n : Int) (w : World) (h0 : 0 ≤ n) (h1 : n < 10) (hg : IntTab w 9 .u8 mtIdx) :
    Calls Tryd.prog 27 #[.int .i64 n] w fun e w' => e = .returned (.tuple #[.string (mtName n.toNat), .bool true]) ∧ Below w.heap.size w w' := by
  obtain ⟨n, rfl⟩ := Int.eq_ofNat_of_zero_le h0
  have hmf := makeFunc_run Tryd.prog
  go_enter_defers Tryd.func27, Tryd.ntmps27
  go_wp2_with fail
  refine (mt_small _ _ (by omega) (by omega)).mono ?_
  rintro e w1 ⟨rfl, rfl⟩
  go_wp2_with fail
  refine (mt_string n _ (by omega) (hg.below (((Below.refl _ _).alloc (Nat.le_refl _) _).alloc (by simp) _))).mono ?_
  rintro e w1 ⟨rfl, q1⟩
  obtain ⟨k0, k1, k2, k3, k4⟩ := two_cells q1
  go_wp2
  refine leaves_cons (f := 64) (args := #[.pointer (some ⟨w.heap.size, 0, none⟩), .pointer (some ⟨w.heap.size + 1, 0, none⟩)]) (by simp) (by simp [go_sem]) ?_
  refine (mt_idle _ _ _).mono ?_
  rintro e u' w'' ⟨rfl, rfl, rfl⟩
  simp [Leaves, settle, results, Tryd.results27, go_sem, k0, k1]
  exact ((two_below q1).setCell (by simp) _).setCell (by simp) _

theorem mt_law (a : Int) (a0 : 0 ≤ a) (a1 : a ≤ 255) (w : World) (hg : IntTab w 9 .u8 mtIdx) :
    Calls Tryd.prog 8 #[.int .u8 a] w fun e w' => e = .returned (.bool true) ∧ Below w.heap.size w w' := by
  have hn : a % 10 = 0 ∨ a % 10 = 1 ∨ a % 10 = 2 ∨ a % 10 = 3 ∨ a % 10 = 4 ∨ a % 10 = 5 ∨ a % 10 = 6 ∨ a % 10 = 7 ∨ a % 10 = 8 ∨ a % 10 = 9 := by omega
  rcases hn with k | k | k | k | k | k | k | k | k | k
  · go_enter Tryd.func8, Tryd.ntmps8
    go_wp2_with fail
    refine (mt_impl 0 _ (by omega) (by omega) (hg.below ((Below.refl _ _).alloc (Nat.le_refl _) _))).mono ?_
    rintro e w1 ⟨rfl, q1⟩
    obtain ⟨hc1, hf1⟩ := bcell q1
    rw [show mtName (Int.toNat 0) = ⟨#[78, 111, 77, 101, 116, 104, 111, 100]⟩ from by kernel_rfl]
    go_wp2
    go_ret
    exact ⟨rfl, bstep ((Below.refl _ _).alloc (Nat.le_refl _) _) q1 (by simp)⟩
  · go_enter Tryd.func8, Tryd.ntmps8
    go_wp2_with fail
    refine (mt_impl 1 _ (by omega) (by omega) (hg.below ((Below.refl _ _).alloc (Nat.le_refl _) _))).mono ?_
    rintro e w1 ⟨rfl, q1⟩
    obtain ⟨hc1, hf1⟩ := bcell q1
    rw [show mtName (Int.toNat 1) = ⟨#[67, 104, 101, 99, 107, 109, 97, 116, 101]⟩ from by kernel_rfl]
    go_wp2
    go_ret
    exact ⟨rfl, bstep ((Below.refl _ _).alloc (Nat.le_refl _) _) q1 (by simp)⟩
  · go_enter Tryd.func8, Tryd.ntmps8
    go_wp2_with fail
    refine (mt_impl 2 _ (by omega) (by omega) (hg.below ((Below.refl _ _).alloc (Nat.le_refl _) _))).mono ?_
    rintro e w1 ⟨rfl, q1⟩
    obtain ⟨hc1, hf1⟩ := bcell q1
    rw [show mtName (Int.toNat 2) = ⟨#[82, 101, 115, 105, 103, 110, 97, 116, 105, 111, 110]⟩ from by kernel_rfl]
    go_wp2
    go_ret
    exact ⟨rfl, bstep ((Below.refl _ _).alloc (Nat.le_refl _) _) q1 (by simp)⟩
  · go_enter Tryd.func8, Tryd.ntmps8
    go_wp2_with fail
    refine (mt_impl 3 _ (by omega) (by omega) (hg.below ((Below.refl _ _).alloc (Nat.le_refl _) _))).mono ?_
    rintro e w1 ⟨rfl, q1⟩
    obtain ⟨hc1, hf1⟩ := bcell q1
    rw [show mtName (Int.toNat 3) = ⟨#[68, 114, 97, 119, 79, 102, 102, 101, 114]⟩ from by kernel_rfl]
    go_wp2
    go_ret
    exact ⟨rfl, bstep ((Below.refl _ _).alloc (Nat.le_refl _) _) q1 (by simp)⟩
  · go_enter Tryd.func8, Tryd.ntmps8
    go_wp2_with fail
    refine (mt_impl 4 _ (by omega) (by omega) (hg.below ((Below.refl _ _).alloc (Nat.le_refl _) _))).mono ?_
    rintro e w1 ⟨rfl, q1⟩
    obtain ⟨hc1, hf1⟩ := bcell q1
    rw [show mtName (Int.toNat 4) = ⟨#[83, 116, 97, 108, 101, 109, 97, 116, 101]⟩ from by kernel_rfl]
    go_wp2
    go_ret
    exact ⟨rfl, bstep ((Below.refl _ _).alloc (Nat.le_refl _) _) q1 (by simp)⟩
  · go_enter Tryd.func8, Tryd.ntmps8
    go_wp2_with fail
    refine (mt_impl 5 _ (by omega) (by omega) (hg.below ((Below.refl _ _).alloc (Nat.le_refl _) _))).mono ?_
    rintro e w1 ⟨rfl, q1⟩
    obtain ⟨hc1, hf1⟩ := bcell q1
    rw [show mtName (Int.toNat 5) = ⟨#[84, 104, 114, 101, 101, 102, 111, 108, 100, 82, 101, 112, 101, 116, 105, 116, 105, 111, 110]⟩ from by kernel_rfl]
    go_wp2
    go_ret
    exact ⟨rfl, bstep ((Below.refl _ _).alloc (Nat.le_refl _) _) q1 (by simp)⟩
  · go_enter Tryd.func8, Tryd.ntmps8
    go_wp2_with fail
    refine (mt_impl 6 _ (by omega) (by omega) (hg.below ((Below.refl _ _).alloc (Nat.le_refl _) _))).mono ?_
    rintro e w1 ⟨rfl, q1⟩
    obtain ⟨hc1, hf1⟩ := bcell q1
    rw [show mtName (Int.toNat 6) = ⟨#[70, 105, 118, 101, 102, 111, 108, 100, 82, 101, 112, 101, 116, 105, 116, 105, 111, 110]⟩ from by kernel_rfl]
    go_wp2
    go_ret
    exact ⟨rfl, bstep ((Below.refl _ _).alloc (Nat.le_refl _) _) q1 (by simp)⟩
  · go_enter Tryd.func8, Tryd.ntmps8
    go_wp2_with fail
    refine (mt_impl 7 _ (by omega) (by omega) (hg.below ((Below.refl _ _).alloc (Nat.le_refl _) _))).mono ?_
    rintro e w1 ⟨rfl, q1⟩
    obtain ⟨hc1, hf1⟩ := bcell q1
    rw [show mtName (Int.toNat 7) = ⟨#[70, 105, 102, 116, 121, 77, 111, 118, 101, 82, 117, 108, 101]⟩ from by kernel_rfl]
    go_wp2
    go_ret
    exact ⟨rfl, bstep ((Below.refl _ _).alloc (Nat.le_refl _) _) q1 (by simp)⟩
  · go_enter Tryd.func8, Tryd.ntmps8
    go_wp2_with fail
    refine (mt_impl 8 _ (by omega) (by omega) (hg.below ((Below.refl _ _).alloc (Nat.le_refl _) _))).mono ?_
    rintro e w1 ⟨rfl, q1⟩
    obtain ⟨hc1, hf1⟩ := bcell q1
    rw [show mtName (Int.toNat 8) = ⟨#[83, 101, 118, 101, 110, 116, 121, 70, 105, 118, 101, 77, 111, 118, 101, 82, 117, 108, 101]⟩ from by kernel_rfl]
    go_wp2
    go_ret
    exact ⟨rfl, bstep ((Below.refl _ _).alloc (Nat.le_refl _) _) q1 (by simp)⟩
  · go_enter Tryd.func8, Tryd.ntmps8
    go_wp2_with fail
    refine (mt_impl 9 _ (by omega) (by omega) (hg.below ((Below.refl _ _).alloc (Nat.le_refl _) _))).mono ?_
    rintro e w1 ⟨rfl, q1⟩
    obtain ⟨hc1, hf1⟩ := bcell q1
    rw [show mtName (Int.toNat 9) = ⟨#[73, 110, 115, 117, 102, 102, 105, 99, 105, 101, 110, 116, 77, 97, 116, 101, 114, 105, 97, 108]⟩ from by kernel_rfl]
    go_wp2
    go_ret
    exact ⟨rfl, bstep ((Below.refl _ _).alloc (Nat.le_refl _) _) q1 (by simp)⟩
end Go.Proofs.YtgebocnomapchaaDoor
