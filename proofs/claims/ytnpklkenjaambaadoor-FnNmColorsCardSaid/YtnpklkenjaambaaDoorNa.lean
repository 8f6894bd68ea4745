/- Colours and their texts, a text that is read as a colour, and the other colour of each. The tables of the library hold what the program's text lays. -/
import Derived.Test.YtnpklkenjaambaaDoorLaid
import Derived.Test.YtnpklkenjaambaaDoorKit
namespace Go.Proofs.YtnpklkenjaambaaDoor
open Go.RowKit
set_option maxHeartbeats 1600000
set_option linter.unusedSimpArgs false
set_option linter.unusedVariables false
set_option maxRecDepth 100000

theorem nc_small (n : Int) (w : World) (h0 : -128 ≤ n) (h1 : n ≤ 127) :
    Calls Tryd.prog 30 #[.int .i64 n] w fun e w' => e = .returned (.int .i8 n) ∧ w = w' := by
  go_enter Tryd.func30, Tryd.ntmps30
  go_wp2
  go_ret
  exact ⟨rfl, rfl⟩

theorem nc_Text_idle (p q : Addr) (w : World) :
    CallsD Tryd.prog 29 #[.pointer (some p), .pointer (some q)] .returning w fun e u' w' => e = .returned (.tuple #[]) ∧ u' = .returning ∧ w = w' := by
  refine callsD_of_wpS Tryd.func29 rfl fun c₀ cs hu => ?_
  apply wpS_seq
  apply wpS_region
  simp [wpOpsS, go_sem, recoverD, hu, Tryd.ntmps29, Exit.thenS]
  refine wpS_cond (t := false) (by simp [Act.eval, Array.replicate]) ?_
  simp only [Bool.false_eq_true, if_false]
  refine wpS_of_wp (wp_skip ?_)
  cases c₀
  simp_all [bodyPostS, results, Tryd.results29]

theorem nc_Text1 (w : World) : Calls Tryd.prog 31 #[.int .i8 1] w fun e w' => e = .returned (.string ⟨#[119]⟩) ∧ w = w' := by
  go_enter Tryd.func31, Tryd.ntmps31
  go_wp2
  go_ret
  exact ⟨rfl, rfl⟩
theorem nc_iText1 (w : World) : Calls Tryd.prog 13 #[.int .i64 1] w fun e w' => e = .returned (.tuple #[.string ⟨#[119]⟩, .bool true]) ∧ Below w.heap.size w w' := by
  have hmf := makeFunc_run Tryd.prog
  go_enter_defers Tryd.func13, Tryd.ntmps13
  go_wp2_with (first | (go_at_call 30; refine (nc_small _ _ (by omega) (by omega)).mono ?_; rintro e w' ⟨rfl, rfl⟩) | (go_at_call 31; refine (nc_Text1 _).mono ?_; rintro e w' ⟨rfl, rfl⟩))
  refine leaves_cons (f := 29) (args := #[.pointer (some ⟨w.heap.size, 0, none⟩), .pointer (some ⟨w.heap.size + 1, 0, none⟩)]) (by simp) (by simp [go_sem]) ?_
  refine (nc_Text_idle _ _ _).mono ?_
  rintro e u' w'' ⟨rfl, rfl, rfl⟩
  simp [Leaves, settle, results, Tryd.results13, go_sem]
  exact ((Below.refl _ _).alloc (Nat.le_refl _) _).alloc (by simp) _

theorem nc_Text2 (w : World) : Calls Tryd.prog 31 #[.int .i8 2] w fun e w' => e = .returned (.string ⟨#[98]⟩) ∧ w = w' := by
  go_enter Tryd.func31, Tryd.ntmps31
  go_wp2
  go_ret
  exact ⟨rfl, rfl⟩
theorem nc_iText2 (w : World) : Calls Tryd.prog 13 #[.int .i64 2] w fun e w' => e = .returned (.tuple #[.string ⟨#[98]⟩, .bool true]) ∧ Below w.heap.size w w' := by
  have hmf := makeFunc_run Tryd.prog
  go_enter_defers Tryd.func13, Tryd.ntmps13
  go_wp2_with (first | (go_at_call 30; refine (nc_small _ _ (by omega) (by omega)).mono ?_; rintro e w' ⟨rfl, rfl⟩) | (go_at_call 31; refine (nc_Text2 _).mono ?_; rintro e w' ⟨rfl, rfl⟩))
  refine leaves_cons (f := 29) (args := #[.pointer (some ⟨w.heap.size, 0, none⟩), .pointer (some ⟨w.heap.size + 1, 0, none⟩)]) (by simp) (by simp [go_sem]) ?_
  refine (nc_Text_idle _ _ _).mono ?_
  rintro e u' w'' ⟨rfl, rfl, rfl⟩
  simp [Leaves, settle, results, Tryd.results13, go_sem]
  exact ((Below.refl _ _).alloc (Nat.le_refl _) _).alloc (by simp) _

theorem nc_Name_idle (p q : Addr) (w : World) :
    CallsD Tryd.prog 32 #[.pointer (some p), .pointer (some q)] .returning w fun e u' w' => e = .returned (.tuple #[]) ∧ u' = .returning ∧ w = w' := by
  refine callsD_of_wpS Tryd.func32 rfl fun c₀ cs hu => ?_
  apply wpS_seq
  apply wpS_region
  simp [wpOpsS, go_sem, recoverD, hu, Tryd.ntmps32, Exit.thenS]
  refine wpS_cond (t := false) (by simp [Act.eval, Array.replicate]) ?_
  simp only [Bool.false_eq_true, if_false]
  refine wpS_of_wp (wp_skip ?_)
  cases c₀
  simp_all [bodyPostS, results, Tryd.results32]

theorem nc_Name1 (w : World) : Calls Tryd.prog 33 #[.int .i8 1] w fun e w' => e = .returned (.string ⟨#[87, 104, 105, 116, 101]⟩) ∧ w = w' := by
  go_enter Tryd.func33, Tryd.ntmps33
  go_wp2
  go_ret
  exact ⟨rfl, rfl⟩
theorem nc_iName1 (w : World) : Calls Tryd.prog 14 #[.int .i64 1] w fun e w' => e = .returned (.tuple #[.string ⟨#[87, 104, 105, 116, 101]⟩, .bool true]) ∧ Below w.heap.size w w' := by
  have hmf := makeFunc_run Tryd.prog
  go_enter_defers Tryd.func14, Tryd.ntmps14
  go_wp2_with (first | (go_at_call 30; refine (nc_small _ _ (by omega) (by omega)).mono ?_; rintro e w' ⟨rfl, rfl⟩) | (go_at_call 33; refine (nc_Name1 _).mono ?_; rintro e w' ⟨rfl, rfl⟩))
  refine leaves_cons (f := 32) (args := #[.pointer (some ⟨w.heap.size, 0, none⟩), .pointer (some ⟨w.heap.size + 1, 0, none⟩)]) (by simp) (by simp [go_sem]) ?_
  refine (nc_Name_idle _ _ _).mono ?_
  rintro e u' w'' ⟨rfl, rfl, rfl⟩
  simp [Leaves, settle, results, Tryd.results14, go_sem]
  exact ((Below.refl _ _).alloc (Nat.le_refl _) _).alloc (by simp) _

theorem nc_Name2 (w : World) : Calls Tryd.prog 33 #[.int .i8 2] w fun e w' => e = .returned (.string ⟨#[66, 108, 97, 99, 107]⟩) ∧ w = w' := by
  go_enter Tryd.func33, Tryd.ntmps33
  go_wp2
  go_ret
  exact ⟨rfl, rfl⟩
theorem nc_iName2 (w : World) : Calls Tryd.prog 14 #[.int .i64 2] w fun e w' => e = .returned (.tuple #[.string ⟨#[66, 108, 97, 99, 107]⟩, .bool true]) ∧ Below w.heap.size w w' := by
  have hmf := makeFunc_run Tryd.prog
  go_enter_defers Tryd.func14, Tryd.ntmps14
  go_wp2_with (first | (go_at_call 30; refine (nc_small _ _ (by omega) (by omega)).mono ?_; rintro e w' ⟨rfl, rfl⟩) | (go_at_call 33; refine (nc_Name2 _).mono ?_; rintro e w' ⟨rfl, rfl⟩))
  refine leaves_cons (f := 32) (args := #[.pointer (some ⟨w.heap.size, 0, none⟩), .pointer (some ⟨w.heap.size + 1, 0, none⟩)]) (by simp) (by simp [go_sem]) ?_
  refine (nc_Name_idle _ _ _).mono ?_
  rintro e u' w'' ⟨rfl, rfl, rfl⟩
  simp [Leaves, settle, results, Tryd.results14, go_sem]
  exact ((Below.refl _ _).alloc (Nat.le_refl _) _).alloc (by simp) _

theorem nc_Other_idle (p q : Addr) (w : World) :
    CallsD Tryd.prog 34 #[.pointer (some p), .pointer (some q)] .returning w fun e u' w' => e = .returned (.tuple #[]) ∧ u' = .returning ∧ w = w' := by
  refine callsD_of_wpS Tryd.func34 rfl fun c₀ cs hu => ?_
  apply wpS_seq
  apply wpS_region
  simp [wpOpsS, go_sem, recoverD, hu, Tryd.ntmps34, Exit.thenS]
  refine wpS_cond (t := false) (by simp [Act.eval, Array.replicate]) ?_
  simp only [Bool.false_eq_true, if_false]
  refine wpS_of_wp (wp_skip ?_)
  cases c₀
  simp_all [bodyPostS, results, Tryd.results34]

theorem nc_Other1 (w : World) : Calls Tryd.prog 35 #[.int .i8 1] w fun e w' => e = .returned (.int .i8 2) ∧ w = w' := by
  go_enter Tryd.func35, Tryd.ntmps35
  go_wp2
  go_ret
  exact ⟨rfl, rfl⟩
theorem nc_iOther1 (w : World) : Calls Tryd.prog 15 #[.int .i64 1] w fun e w' => e = .returned (.tuple #[.int .i64 2, .bool true]) ∧ Below w.heap.size w w' := by
  have hmf := makeFunc_run Tryd.prog
  go_enter_defers Tryd.func15, Tryd.ntmps15
  go_wp2_with (first | (go_at_call 30; refine (nc_small _ _ (by omega) (by omega)).mono ?_; rintro e w' ⟨rfl, rfl⟩) | (go_at_call 35; refine (nc_Other1 _).mono ?_; rintro e w' ⟨rfl, rfl⟩))
  refine leaves_cons (f := 34) (args := #[.pointer (some ⟨w.heap.size, 0, none⟩), .pointer (some ⟨w.heap.size + 1, 0, none⟩)]) (by simp) (by simp [go_sem]) ?_
  refine (nc_Other_idle _ _ _).mono ?_
  rintro e u' w'' ⟨rfl, rfl, rfl⟩
  simp [Leaves, settle, results, Tryd.results15, go_sem]
  exact ((Below.refl _ _).alloc (Nat.le_refl _) _).alloc (by simp) _

theorem nc_Other2 (w : World) : Calls Tryd.prog 35 #[.int .i8 2] w fun e w' => e = .returned (.int .i8 1) ∧ w = w' := by
  go_enter Tryd.func35, Tryd.ntmps35
  go_wp2
  go_ret
  exact ⟨rfl, rfl⟩
theorem nc_iOther2 (w : World) : Calls Tryd.prog 15 #[.int .i64 2] w fun e w' => e = .returned (.tuple #[.int .i64 1, .bool true]) ∧ Below w.heap.size w w' := by
  have hmf := makeFunc_run Tryd.prog
  go_enter_defers Tryd.func15, Tryd.ntmps15
  go_wp2_with (first | (go_at_call 30; refine (nc_small _ _ (by omega) (by omega)).mono ?_; rintro e w' ⟨rfl, rfl⟩) | (go_at_call 35; refine (nc_Other2 _).mono ?_; rintro e w' ⟨rfl, rfl⟩))
  refine leaves_cons (f := 34) (args := #[.pointer (some ⟨w.heap.size, 0, none⟩), .pointer (some ⟨w.heap.size + 1, 0, none⟩)]) (by simp) (by simp [go_sem]) ?_
  refine (nc_Other_idle _ _ _).mono ?_
  rintro e u' w'' ⟨rfl, rfl, rfl⟩
  simp [Leaves, settle, results, Tryd.results15, go_sem]
  exact ((Below.refl _ _).alloc (Nat.le_refl _) _).alloc (by simp) _

theorem nc_Other0 (w : World) : Calls Tryd.prog 35 #[.int .i8 0] w fun e w' => e = .returned (.int .i8 0) ∧ w = w' := by
  go_enter Tryd.func35, Tryd.ntmps35
  go_wp2
  go_ret
  exact ⟨rfl, rfl⟩
theorem nc_iOther0 (w : World) : Calls Tryd.prog 15 #[.int .i64 0] w fun e w' => e = .returned (.tuple #[.int .i64 0, .bool true]) ∧ Below w.heap.size w w' := by
  have hmf := makeFunc_run Tryd.prog
  go_enter_defers Tryd.func15, Tryd.ntmps15
  go_wp2_with (first | (go_at_call 30; refine (nc_small _ _ (by omega) (by omega)).mono ?_; rintro e w' ⟨rfl, rfl⟩) | (go_at_call 35; refine (nc_Other0 _).mono ?_; rintro e w' ⟨rfl, rfl⟩))
  refine leaves_cons (f := 34) (args := #[.pointer (some ⟨w.heap.size, 0, none⟩), .pointer (some ⟨w.heap.size + 1, 0, none⟩)]) (by simp) (by simp [go_sem]) ?_
  refine (nc_Other_idle _ _ _).mono ?_
  rintro e u' w'' ⟨rfl, rfl, rfl⟩
  simp [Leaves, settle, results, Tryd.results15, go_sem]
  exact ((Below.refl _ _).alloc (Nat.le_refl _) _).alloc (by simp) _

end Go.Proofs.YtnpklkenjaambaaDoor
