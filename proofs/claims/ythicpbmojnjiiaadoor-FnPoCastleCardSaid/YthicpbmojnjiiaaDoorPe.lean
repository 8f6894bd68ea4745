/- Castling in a book as a move: for all four codes. -/
import Derived.Test.YthicpbmojnjiiaaDoorKit
import Derived.Test.YthicpbmojnjiiaaDoorPd
import Derived.Test.YthicpbmojnjiiaaDoorHk
import Derived.Laws.IdiomStrings
import Derived.Great.Walk
namespace Go.Proofs.YthicpbmojnjiiaaDoor
open Go Go.RowKit
set_option maxHeartbeats 4000000
set_option linter.unusedSimpArgs false
set_option linter.unusedVariables false
set_option maxRecDepth 100000

/-- The cells of a move of the package that has no parent and no position. -/
def mvCells (a b tags : Int) : Array Value := #[.pointer none, .pointer none, .string ⟨#[]⟩, .string ⟨#[]⟩, .map none, .slice none 0 0, .int .u64 0, .int .u16 tags, .int .i8 a, .int .i8 b, .int .i8 0]
theorem pe_conv (b q : Nat) (hq : q = 104 ∧ b = 103 ∨ q = 97 ∧ b = 99) (r : Int) (w : World) :
    Calls Tryd.prog 13 #[.int .u8 101, .int .u8 (q : Int), .int .u8 r] w fun e w' => e = .returned (.tuple #[.int .u8 101, .int .u8 r, .int .u8 (b : Int), .int .u8 r]) ∧ w = w' := by
  rcases hq with ⟨rfl, rfl⟩ | ⟨rfl, rfl⟩
  all_goals (
    go_enter Tryd.func13, Tryd.ntmps13
    go_wp2
    exact bodyPost_ret (v := .tuple #[.int .u8 101, .int .u8 r, .int .u8 _, .int .u8 r]) (by simp [results, Tryd.results13, go_sem]) rfl ⟨rfl, rfl⟩)
theorem pe_addtag (g : Nat) (a b tags : Int) (w : World) (hg : w.heap[g]? = some (.cells (mvCells a b 0) 45 (0, 0))) (ht : bits .or .u16 0 tags = tags) :
    Calls Tryd.prog 15 #[.pointer (some ⟨g, 0, none⟩), .int .u16 tags] w fun e w' => e = .returned (.tuple #[]) ∧ w' = w.setCell ⟨g, 7, none⟩ (.int .u16 tags) := by
  have c7 := (cell_of_row w g 7 _ _ _ hg).trans (show (mvCells a b 0)[7]? = some (.int .u16 0) from rfl)
  have f7 := frozen_of_row w g 7 _ _ hg
  clear hg
  go_enter Tryd.func15, Tryd.ntmps15
  go_wp2
  go_end0
  exact ⟨rfl, rfl⟩
theorem pe_S1 (g : Nat) (a b tags : Int) (w : World) (hg : w.heap[g]? = some (.cells (mvCells a b tags) 45 (0, 0))) :
    Calls Tryd.prog 16 #[.pointer (some ⟨g, 0, none⟩)] w fun e w' => e = .returned (.int .i8 a) ∧ w = w' := by
  have c := (cell_of_row w g 8 _ _ _ hg).trans (show (mvCells a b tags)[8]? = some (.int .i8 a) from rfl)
  clear hg
  go_enter Tryd.func16, Tryd.ntmps16
  go_wp2
  go_ret
  exact ⟨rfl, rfl⟩
theorem pe_S2 (g : Nat) (a b tags : Int) (w : World) (hg : w.heap[g]? = some (.cells (mvCells a b tags) 45 (0, 0))) :
    Calls Tryd.prog 17 #[.pointer (some ⟨g, 0, none⟩)] w fun e w' => e = .returned (.int .i8 b) ∧ w = w' := by
  have c := (cell_of_row w g 9 _ _ _ hg).trans (show (mvCells a b tags)[9]? = some (.int .i8 b) from rfl)
  clear hg
  go_enter Tryd.func17, Tryd.ntmps17
  go_wp2
  go_ret
  exact ⟨rfl, rfl⟩
theorem pe_Promo (g : Nat) (a b tags : Int) (w : World) (hg : w.heap[g]? = some (.cells (mvCells a b tags) 45 (0, 0))) :
    Calls Tryd.prog 18 #[.pointer (some ⟨g, 0, none⟩)] w fun e w' => e = .returned (.int .i8 0) ∧ w = w' := by
  have c := (cell_of_row w g 10 _ _ _ hg).trans (show (mvCells a b tags)[10]? = some (.int .i8 0) from rfl)
  clear hg
  go_enter Tryd.func18, Tryd.ntmps18
  go_wp2
  go_ret
  exact ⟨rfl, rfl⟩
theorem pe_tags (g : Nat) (a b tags : Int) (w : World) (hg : w.heap[g]? = some (.cells (mvCells a b tags) 45 (0, 0))) :
    Calls Tryd.prog 11 #[.pointer (some ⟨g, 0, none⟩)] w fun e w' => e = .returned (.int .u16 tags) ∧ w = w' := by
  have c := (cell_of_row w g 7 _ _ _ hg).trans (show (mvCells a b tags)[7]? = some (.int .u16 tags) from rfl)
  clear hg
  go_enter Tryd.func11, Tryd.ntmps11
  go_wp2
  go_ret
  exact ⟨rfl, rfl⟩
/-- A move as the thin package has it. -/
def mvPlain (a b : Int) : Value := .agg #[.int .i64 a, .int .i64 b, .int .i64 0]
theorem pe_plain (g : Nat) (a b tags : Int) (ha : 0 ≤ a ∧ a ≤ 63) (hb : 0 ≤ b ∧ b ≤ 63) (w : World) (hg : w.heap[g]? = some (.cells (mvCells a b tags) 45 (0, 0))) :
    Calls Tryd.prog 10 #[.pointer (some ⟨g, 0, none⟩)] w fun e w' => e = .returned (mvPlain a b) ∧ Below w.heap.size w w' := by
  have hg1 := heap_keep (o' := .cells #[.int .i64 0, .int .i64 0, .int .i64 0] 28) hg
  have hwa : wrap64 a = a := by unfold wrap64; omega
  have hwb : wrap64 b = b := by unfold wrap64; omega
  have h1 := pe_S1 g a b tags _ hg1
  have h2 := pe_S2 g a b tags _ hg1
  have h3 := pe_Promo g a b tags _ hg1
  clear hg hg1
  go_enter Tryd.func10, Tryd.ntmps10
  go_wp2_with (first
    | (go_at_call 16; refine h1.mono ?_; rintro e1 w1 ⟨rfl, rfl⟩)
    | (go_at_call 17; refine h2.mono ?_; rintro e1 w1 ⟨rfl, rfl⟩)
    | (go_at_call 18; refine h3.mono ?_; rintro e1 w1 ⟨rfl, rfl⟩))
  exact bodyPost_ret (v := mvPlain a b) (by simp [mvPlain, results, Tryd.results10, go_sem, hwa, hwb]) rfl ⟨rfl, (Below.refl _ _).alloc (Nat.le_refl _) _⟩
theorem pe_decode00 (w : World) :
    Calls Tryd.prog 14 #[.agg #[], .pointer none, .string ⟨#[101, 49, 103, 49]⟩] w fun e w' => ∃ g, e = .returned (.tuple #[.pointer (some ⟨g, 0, none⟩), .nilIface]) ∧ w'.heap[g]? = some (.cells (mvCells 4 6 0) 45 (0, 0)) ∧ w.heap.size ≤ g ∧ Below w.heap.size w w' := by
  go_enter Tryd.func14, Tryd.ntmps14
  go_wp2_with fail
  refine wp_loop_rounds 2 ?_
  rw [rounds_succ]
  go_wp2
  rw [rounds_succ]
  go_wp2
  go_quiet (fail)
  go_wp2
  go_quiet (fail)
  go_wp2
  go_ret2
  refine ⟨w.heap.size + 1, rfl, (heap_at _ _ _ (by simp)).trans (by kernel_rfl), by omega, ?_⟩
  exact (((Below.refl _ _).alloc (Nat.le_refl _) _).trans ((drewN_below _ _).mono (by simp))).alloc (by simp) _
theorem pe_decode01 (w : World) :
    Calls Tryd.prog 14 #[.agg #[], .pointer none, .string ⟨#[101, 49, 99, 49]⟩] w fun e w' => ∃ g, e = .returned (.tuple #[.pointer (some ⟨g, 0, none⟩), .nilIface]) ∧ w'.heap[g]? = some (.cells (mvCells 4 2 0) 45 (0, 0)) ∧ w.heap.size ≤ g ∧ Below w.heap.size w w' := by
  go_enter Tryd.func14, Tryd.ntmps14
  go_wp2_with fail
  refine wp_loop_rounds 2 ?_
  rw [rounds_succ]
  go_wp2
  rw [rounds_succ]
  go_wp2
  go_quiet (fail)
  go_wp2
  go_quiet (fail)
  go_wp2
  go_ret2
  refine ⟨w.heap.size + 1, rfl, (heap_at _ _ _ (by simp)).trans (by kernel_rfl), by omega, ?_⟩
  exact (((Below.refl _ _).alloc (Nat.le_refl _) _).trans ((drewN_below _ _).mono (by simp))).alloc (by simp) _
theorem pe_decode10 (w : World) :
    Calls Tryd.prog 14 #[.agg #[], .pointer none, .string ⟨#[101, 56, 103, 56]⟩] w fun e w' => ∃ g, e = .returned (.tuple #[.pointer (some ⟨g, 0, none⟩), .nilIface]) ∧ w'.heap[g]? = some (.cells (mvCells 60 62 0) 45 (0, 0)) ∧ w.heap.size ≤ g ∧ Below w.heap.size w w' := by
  go_enter Tryd.func14, Tryd.ntmps14
  go_wp2_with fail
  refine wp_loop_rounds 2 ?_
  rw [rounds_succ]
  go_wp2
  rw [rounds_succ]
  go_wp2
  go_quiet (fail)
  go_wp2
  go_quiet (fail)
  go_wp2
  go_ret2
  refine ⟨w.heap.size + 1, rfl, (heap_at _ _ _ (by simp)).trans (by kernel_rfl), by omega, ?_⟩
  exact (((Below.refl _ _).alloc (Nat.le_refl _) _).trans ((drewN_below _ _).mono (by simp))).alloc (by simp) _
theorem pe_decode11 (w : World) :
    Calls Tryd.prog 14 #[.agg #[], .pointer none, .string ⟨#[101, 56, 99, 56]⟩] w fun e w' => ∃ g, e = .returned (.tuple #[.pointer (some ⟨g, 0, none⟩), .nilIface]) ∧ w'.heap[g]? = some (.cells (mvCells 60 58 0) 45 (0, 0)) ∧ w.heap.size ≤ g ∧ Below w.heap.size w w' := by
  go_enter Tryd.func14, Tryd.ntmps14
  go_wp2_with fail
  refine wp_loop_rounds 2 ?_
  rw [rounds_succ]
  go_wp2
  rw [rounds_succ]
  go_wp2
  go_quiet (fail)
  go_wp2
  go_quiet (fail)
  go_wp2
  go_ret2
  refine ⟨w.heap.size + 1, rfl, (heap_at _ _ _ (by simp)).trans (by kernel_rfl), by omega, ?_⟩
  exact (((Below.refl _ _).alloc (Nat.le_refl _) _).trans ((drewN_below _ _).mono (by simp))).alloc (by simp) _
end Go.Proofs.YthicpbmojnjiiaaDoor
