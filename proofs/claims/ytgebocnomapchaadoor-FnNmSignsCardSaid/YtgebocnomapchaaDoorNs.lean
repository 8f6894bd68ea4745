/- The signs of pieces are all different, and in the dark those of the other colour, for any two pieces. The variables hold what the program's text lays. -/
import Derived.Test.YtgebocnomapchaaDoorLaid
import Derived.WalkKit
import Derived.Below
import Derived.Recover
import Derived.WalkLawsBesides
import Derived.WalkSpells
import Derived.Outline
namespace Go.Proofs.YtgebocnomapchaaDoor
open Go.RowKit
set_option maxHeartbeats 400000

theorem ns_small (n : Int) (w : World) (h0 : -128 ≤ n) (h1 : n ≤ 127) :
    Calls Tryd.prog 33 #[.int .i64 n] w fun e w' => e = .returned (.int .i8 n) ∧ w = w' := by
  have g1 : decide (n < -128) = false := by simp; omega
  have g2 : decide (127 < n) = false := by simp; omega
  go_enter Tryd.func33, Tryd.ntmps33
  go_wp2
  go_ret
  exact ⟨rfl, rfl⟩

theorem ns_light (n : Nat) (w : World) (h : n < 13) (ss : List ByteArray) (hl : ss.length = 13) (hg : StrSl w 1 ss) :
    Calls Tryd.prog 35 #[.int .i8 n] w fun e w' => e = .returned (.string (ss.getD n ByteArray.empty)) ∧ w = w' := by
  obtain ⟨⟨⟨b, o, s⟩, hs, ha, hc, hi⟩, hlt⟩ := hg
  cases hs
  have hc' := hi n (by omega)
  rw [hl] at hc
  clear hi ha hlt
  simp only at hc'
  go_enter Tryd.func35, Tryd.ntmps35
  go_wp2
  go_ret
  exact ⟨by simp [hl, h], rfl⟩

theorem ns_dark (n : Nat) (w : World) (h : n < 13) (ss : List ByteArray) (hl : ss.length = 13) (hg : StrSl w 0 ss) :
    Calls Tryd.prog 34 #[.int .i8 n] w fun e w' => e = .returned (.string (ss.getD n ByteArray.empty)) ∧ w = w' := by
  obtain ⟨⟨⟨b, o, s⟩, hs, ha, hc, hi⟩, hlt⟩ := hg
  cases hs
  have hc' := hi n (by omega)
  rw [hl] at hc
  clear hi ha hlt
  simp only at hc'
  go_enter Tryd.func34, Tryd.ntmps34
  go_wp2
  go_ret
  exact ⟨by simp [hl, h], rfl⟩

theorem ns_idle (p q : Addr) (w : World) :
    CallsD Tryd.prog 32 #[.pointer (some p), .pointer (some q)] .returning w fun e u' w' => e = .returned (.tuple #[]) ∧ u' = .returning ∧ w = w' := by
  refine callsD_of_wpS Tryd.func32 rfl fun c₀ cs hu => ?_
  apply wpS_seq
  apply wpS_region
  simp [wpOpsS, go_sem, recoverD, hu, Tryd.ntmps32, Exit.thenS]
  refine wpS_cond (t := false) (by simp [Act.eval, Array.replicate]) ?_
  simp only [Bool.false_eq_true, if_false]
  refine wpS_of_wp (wp_skip ?_)
  cases c₀
  simp_all [bodyPostS, results, Tryd.results32]

theorem ns_sign_light (n : Int) (w : World) (h0 : 0 ≤ n) (h1 : n < 13) (ss : List ByteArray) (hl : ss.length = 13) (hg : StrSl w 1 ss) :
    Calls Tryd.prog 10 #[.int .i64 n, .bool false] w fun e w' => e = .returned (.tuple #[.string (ss.getD n.toNat ByteArray.empty), .bool true]) ∧ Below w.heap.size w w' := by
  obtain ⟨n, rfl⟩ := Int.eq_ofNat_of_zero_le h0
  have h : n < 13 := by omega
  have hmf : ∀ (fn : Fn) (first cap : Array Value) (w : World), (Instr.makeFunc fn first cap).run Tryd.prog w = .ok (.func fn first cap) w := fun _ _ _ _ => rfl
  go_enter_defers Tryd.func10, Tryd.ntmps10
  go_wp2_with (first | (go_at_call 33; refine (ns_small _ _ (by omega) (by omega)).mono ?_; rintro e w' ⟨rfl, rfl⟩) | (go_at_call 35; refine (ns_light n _ h ss hl (hg.below (((Below.refl _ _).alloc (Nat.le_refl _) _).alloc (by simp) _))).mono ?_; rintro e w' ⟨rfl, rfl⟩))
  refine leaves_cons (f := 32) (args := #[.pointer (some ⟨w.heap.size, 0, none⟩), .pointer (some ⟨w.heap.size + 1, 0, none⟩)]) (by simp) (by simp [go_sem]) ?_
  refine (ns_idle _ _ _).mono ?_
  rintro e u' w'' ⟨rfl, rfl, rfl⟩
  simp [Leaves, settle, results, Tryd.results10, go_sem]
  exact ⟨by simp [hl, h], ((Below.refl _ _).alloc (Nat.le_refl _) _).alloc (by simp) _⟩

theorem ns_sign_dark (n : Int) (w : World) (h0 : 0 ≤ n) (h1 : n < 13) (ss : List ByteArray) (hl : ss.length = 13) (hg : StrSl w 0 ss) :
    Calls Tryd.prog 10 #[.int .i64 n, .bool true] w fun e w' => e = .returned (.tuple #[.string (ss.getD n.toNat ByteArray.empty), .bool true]) ∧ Below w.heap.size w w' := by
  obtain ⟨n, rfl⟩ := Int.eq_ofNat_of_zero_le h0
  have h : n < 13 := by omega
  have hmf : ∀ (fn : Fn) (first cap : Array Value) (w : World), (Instr.makeFunc fn first cap).run Tryd.prog w = .ok (.func fn first cap) w := fun _ _ _ _ => rfl
  go_enter_defers Tryd.func10, Tryd.ntmps10
  go_wp2_with (first | (go_at_call 33; refine (ns_small _ _ (by omega) (by omega)).mono ?_; rintro e w' ⟨rfl, rfl⟩) | (go_at_call 34; refine (ns_dark n _ h ss hl (hg.below (((Below.refl _ _).alloc (Nat.le_refl _) _).alloc (by simp) _))).mono ?_; rintro e w' ⟨rfl, rfl⟩))
  refine leaves_cons (f := 32) (args := #[.pointer (some ⟨w.heap.size, 0, none⟩), .pointer (some ⟨w.heap.size + 1, 0, none⟩)]) (by simp) (by simp [go_sem]) ?_
  refine (ns_idle _ _ _).mono ?_
  rintro e u' w'' ⟨rfl, rfl, rfl⟩
  simp [Leaves, settle, results, Tryd.results10, go_sem]
  exact ⟨by simp [hl, h], ((Below.refl _ _).alloc (Nat.le_refl _) _).alloc (by simp) _⟩

def nsLight : List ByteArray := [⟨#[32]⟩, ⟨#[226, 153, 148]⟩, ⟨#[226, 153, 149]⟩, ⟨#[226, 153, 150]⟩, ⟨#[226, 153, 151]⟩, ⟨#[226, 153, 152]⟩, ⟨#[226, 153, 153]⟩, ⟨#[226, 153, 154]⟩, ⟨#[226, 153, 155]⟩, ⟨#[226, 153, 156]⟩, ⟨#[226, 153, 157]⟩, ⟨#[226, 153, 158]⟩, ⟨#[226, 153, 159]⟩]
def nsDark : List ByteArray := [⟨#[32]⟩, ⟨#[226, 153, 154]⟩, ⟨#[226, 153, 155]⟩, ⟨#[226, 153, 156]⟩, ⟨#[226, 153, 157]⟩, ⟨#[226, 153, 158]⟩, ⟨#[226, 153, 159]⟩, ⟨#[226, 153, 148]⟩, ⟨#[226, 153, 149]⟩, ⟨#[226, 153, 150]⟩, ⟨#[226, 153, 151]⟩, ⟨#[226, 153, 152]⟩, ⟨#[226, 153, 153]⟩]

def nsL (n : Int) : ByteArray := nsLight.getD n.toNat ByteArray.empty
def nsD (n : Int) : ByteArray := nsDark.getD n.toNat ByteArray.empty

theorem ns_parts : ∀ x y : Fin 13, 1 ≤ x.val → 1 ≤ y.val → (((nsLight.getD x.val ByteArray.empty).toList == (nsLight.getD y.val ByteArray.empty).toList) == ((x.val : Int) == (y.val : Int))) = true ∧ (nsLight.getD x.val ByteArray.empty).toList.isEmpty = false := by decide +kernel
theorem ns_turned : ∀ x : Fin 13, 1 ≤ x.val → ((nsDark.getD x.val ByteArray.empty).toList == (nsLight.getD (if 6 < x.val then x.val - 6 else x.val + 6) ByteArray.empty).toList) = true := by decide +kernel

theorem ns_one (x y : Int) (x0 : 1 ≤ x) (x1 : x ≤ 12) (y0 : 1 ≤ y) (y1 : y ≤ 12) : (((nsL x).toList == (nsL y).toList) == (x == y)) = true ∧ (nsL x).toList.isEmpty = false := by
  obtain ⟨x, rfl⟩ := Int.eq_ofNat_of_zero_le (by omega : 0 ≤ x)
  obtain ⟨y, rfl⟩ := Int.eq_ofNat_of_zero_le (by omega : 0 ≤ y)
  exact ns_parts ⟨x, by omega⟩ ⟨y, by omega⟩ (by simp; omega) (by simp; omega)
theorem ns_two (x : Int) (x0 : 1 ≤ x) (x1 : x ≤ 6) : ((nsD x).toList == (nsL (x + 6)).toList) = true := by
  obtain ⟨x, rfl⟩ := Int.eq_ofNat_of_zero_le (by omega : 0 ≤ x)
  have h := ns_turned ⟨x, by omega⟩ (by simp; omega)
  simp only at h
  rw [if_neg (by omega)] at h
  exact h
theorem ns_three (x : Int) (x0 : 6 < x) (x1 : x ≤ 12) : ((nsD x).toList == (nsL (x - 6)).toList) = true := by
  obtain ⟨x, rfl⟩ := Int.eq_ofNat_of_zero_le (by omega : 0 ≤ x)
  have h := ns_turned ⟨x, by omega⟩ (by simp; omega)
  simp only at h
  rw [if_pos (by omega)] at h
  have e : ((x : Int) - 6).toNat = x - 6 := by omega
  unfold nsD nsL
  rw [e]
  exact h

theorem ns_light_at (n : Int) (w : World) (h0 : 0 ≤ n) (h1 : n < 13) (hg : StrSl w 1 nsLight) :
    Calls Tryd.prog 10 #[.int .i64 n, .bool false] w fun e w' => e = .returned (.tuple #[.string (nsL n), .bool true]) ∧ Below w.heap.size w w' := ns_sign_light n w h0 h1 nsLight rfl hg
theorem ns_dark_at (n : Int) (w : World) (h0 : 0 ≤ n) (h1 : n < 13) (hg : StrSl w 0 nsDark) :
    Calls Tryd.prog 10 #[.int .i64 n, .bool true] w fun e w' => e = .returned (.tuple #[.string (nsD n), .bool true]) ∧ Below w.heap.size w w' := ns_sign_dark n w h0 h1 nsDark rfl hg

theorem ns_law (a b : Int) (a0 : 0 ≤ a) (a1 : a ≤ 255) (b0 : 0 ≤ b) (b1 : b ≤ 255) (w : World) (hL : StrSl w 1 nsLight) (hD : StrSl w 0 nsDark) :
    Calls Tryd.prog 3 #[.int .u8 a, .int .u8 b] w fun e w' => e = .returned (.bool true) ∧ Below w.heap.size w w' := by
  go_enter Tryd.func3, Tryd.ntmps3
  go_wp2_with fail
  refine (ns_light_at _ _ (by omega) (by omega) hL).mono ?_
  rintro e w1 ⟨rfl, q1⟩
  go_wp2_with fail
  refine (ns_light_at _ _ (by omega) (by omega) (hL.below q1)).mono ?_
  rintro e w2 ⟨rfl, q⟩
  have q2 := q1.trans (q.mono q1.size)
  clear q q1
  by_cases h6 : 6 < 1 + a % 12
  · have e1 := (ns_one (1 + a % 12) (1 + b % 12) (by omega) (by omega) (by omega) (by omega)).1
    have e2 := (ns_one (1 + a % 12) (1 + b % 12) (by omega) (by omega) (by omega) (by omega)).2
    have e3 := ns_three (1 + a % 12) h6 (by omega)
    go_wp2_with fail
    refine (ns_dark_at _ _ (by omega) (by omega) (hD.below q2)).mono ?_
    rintro e w3 ⟨rfl, q⟩
    have q3 := q2.trans (q.mono q2.size)
    clear q q2
    go_wp2_with fail
    refine (ns_light_at _ _ (by omega) (by omega) (hL.below q3)).mono ?_
    rintro e w4 ⟨rfl, q⟩
    have q4 := q3.trans (q.mono q3.size)
    clear q q3
    go_wp2_with fail
    go_ret
    exact ⟨rfl, q4⟩
  · have e1 := (ns_one (1 + a % 12) (1 + b % 12) (by omega) (by omega) (by omega) (by omega)).1
    have e2 := (ns_one (1 + a % 12) (1 + b % 12) (by omega) (by omega) (by omega) (by omega)).2
    have e3 := ns_two (1 + a % 12) (by omega) (by omega)
    go_wp2_with fail
    refine (ns_dark_at _ _ (by omega) (by omega) (hD.below q2)).mono ?_
    rintro e w3 ⟨rfl, q⟩
    have q3 := q2.trans (q.mono q2.size)
    clear q q2
    go_wp2_with fail
    refine (ns_light_at _ _ (by omega) (by omega) (hL.below q3)).mono ?_
    rintro e w4 ⟨rfl, q⟩
    have q4 := q3.trans (q.mono q3.size)
    clear q q3
    go_wp2_with fail
    go_ret
    exact ⟨rfl, q4⟩
end Go.Proofs.YtgebocnomapchaaDoor
