/- A board of the package, made of a map of its squares. For every map that says at most one piece a square. -/
import Derived.Test.YtnpklkenjaambaaDoorBo
namespace Go.Proofs.YtnpklkenjaambaaDoor
open Go Go.RowKit
set_option maxHeartbeats 2000000
set_option linter.unusedSimpArgs false
set_option linter.unusedVariables false
set_option maxRecDepth 100000

theorem bbTo_yes (p : List Int) (k : Int) (j : Nat) (h : p.getD j 0 = k) : bbTo p k (j + 1) = bbTo p k j <<< 1 ||| 1#64 := by rw [bbTo, if_pos h]
theorem bbTo_no (p : List Int) (k : Int) (j : Nat) (h : p.getD j 0 ≠ k) : bbTo p k (j + 1) = bbTo p k j <<< 1 := by rw [bbTo, if_neg h]; simp
def brd0 : Array Value := brdF (fun _ => 0#64) (.int .u64 0) (.int .u64 0) (.int .u64 0) (.int .i8 0) (.int .i8 0)
/-- The first k numbers are there. -/
def bbP (p : List Int) (k : Nat) : Nat → BitVec 64 := fun i => if i < k then bbF p i else 0#64
theorem bn_row0 (p : List Int) (w : World) : (w.alloc (.cells brd0 59)).heap[w.heap.size]? = some (.cells (brdF (bbP p 0) (.int .u64 0) (.int .u64 0) (.int .u64 0) (.int .i8 0) (.int .i8 0)) 59 (0, 0)) := by
  rw [heap_alloc_new]
  rfl
theorem bbP_step (p : List Int) (k : Nat) : (fun j => if j = k then bbF p k else bbP p k j) = bbP p (k + 1) := by
  funext j
  unfold bbP
  by_cases h : j = k
  · subst h; simp
  · rw [if_neg h]
    by_cases h2 : j < k
    · rw [if_pos h2, if_pos (by omega)]
    · rw [if_neg h2, if_neg (by omega)]
/-- What a map says of a square. -/
def Says (f : Int → Option Value) (p : List Int) : Prop := ∀ j : Nat, j < 64 → f (j : Int) = none ∧ p.getD j 0 = 0 ∨ f (j : Int) = some (.int .i8 (p.getD j 0))

theorem bn_new (p : List Int) (b n : Nat) (f : Int → Option Value) (w : World) (hA : IntSl w 1 .i8 allL) (hm : IMap w b f n) (hs : Says f p) :
    Calls Tryd.prog 40 #[.map (some b)] w fun e' w' => e' = .returned (.pointer (some ⟨w.heap.size, 0, none⟩)) ∧ w'.heap[w.heap.size]? = some (.cells (brd p) 59 (0, 0)) ∧ Below w.heap.size w w' := by
  have hblt := hm.lt
  have hA0 : IntSl w 1 .i8 allL := hA
  obtain ⟨⟨q, hq, hqb, hc0, hci⟩, _⟩ := hA
  simp only [show allL.length = 12 from rfl] at hc0 hci
  have hci' : True → ∀ (i : Nat), i < 12 → w.cell? ⟨q.block, q.off + i, none⟩ = some (.int .i8 (allL.getD i 0)) := fun _ => hci
  clear hci
  go_enter Tryd.func40, Tryd.ntmps40
  go_wp2_with fail
  have hrow := bn_row0 p w
  have hAl : Below w.heap.size w (w.alloc (.cells brd0 59)) := (Below.refl _ _).alloc (Nat.le_refl _) _
  change Code.wp _ _ _ _ (w.alloc (.cells brd0 59))
  generalize w.alloc (.cells brd0 59) = W at *
  go_loopw [14] (fun i wr => ∃ k : Nat, k ≤ 12 ∧ i = .int .i64 (k : Int) ∧ wr.heap[w.heap.size]? = some (.cells (brdF (bbP p k) (.int .u64 0) (.int .u64 0) (.int .u64 0) (.int .i8 0) (.int .i8 0)) 59 (0, 0)) ∧ Below w.heap.size w wr) (fun i _ => (12 - intOf i).toNat)
  case atStart => exact ⟨0, by omega, rfl, hrow, hAl⟩
  case round =>
    obtain ⟨k, hk, rfl, hgr, hBr⟩ := hrel
    clear hrow hAl
    have hmr := hm.below hBr
    by_cases hlt : k < 12
    · have hck := (hBr.cell (p := ⟨q.block, q.off + k, none⟩) hqb).trans (hci' trivial k hlt)
      rw [allL_get k hlt, ← add_at hq] at hck
      have hhid : True → _ := fun _ => And.intro hgr hBr
      clear hgr hBr
      go_wp2_with fail
      go_loopw [6, 18] (fun x i wq => ∃ j : Nat, j ≤ 64 ∧ i = .int .i64 (j : Int) ∧ x = bbv (bbTo p ((k : Int) + 1) j) ∧ wq = wr) (fun _ i _ => (64 - intOf i).toNat)
      case atStart => exact ⟨0, by omega, rfl, rfl, rfl⟩
      case round =>
        obtain ⟨j, hj, rfl, rfl, rfl⟩ := hrel
        by_cases hlj : j < 64
        · have hlk := imap_lookup (P := Tryd.prog) (T := 74) (K := 57) (E := 75) (by kernel_rfl) (by kernel_rfl) (z := .int .i8 0) (w := wr) (by kernel_rfl) hmr (j : Int) true
          rcases hs j hlj with ⟨hn, h0⟩ | hsome
          · rw [hn] at hlk
            simp at hlk
            have hno : True → bbTo p ((k : Int) + 1) (j + 1) = bbTo p ((k : Int) + 1) j <<< 1 := fun _ => bbTo_no p _ j (by omega)
            clear hn h0
            go_wp2_with fail
            go_roundw
            case rel => exact ⟨j + 1, by omega, by go_num, by rw [hno trivial], trivial⟩
            case measure => simp [intOf]; omega
          · rw [hsome] at hlk
            simp only [Option.getD_some, Option.isSome_some, if_true] at hlk
            by_cases e : p.getD j 0 = (k : Int) + 1
            · have hyes : True → bbTo p ((k : Int) + 1) (j + 1) = bbTo p ((k : Int) + 1) j <<< 1 ||| 1#64 := fun _ => bbTo_yes p _ j e
              rw [e] at hlk
              clear e hsome
              go_wp2_with fail
              go_roundw
              case rel => exact ⟨j + 1, by omega, by go_num, by rw [hyes trivial], trivial⟩
              case measure => simp [intOf]; omega
            · have hno : True → bbTo p ((k : Int) + 1) (j + 1) = bbTo p ((k : Int) + 1) j <<< 1 := fun _ => bbTo_no p _ j e
              generalize p.getD j 0 = v at *
              have hv : (((k : Int) + 1) == v) = false := by simp; omega
              clear e hsome
              go_wp2_with fail
              go_roundw
              case rel => exact ⟨j + 1, by omega, by go_num, by rw [hno trivial], trivial⟩
              case measure => simp [intOf]; omega
        · obtain rfl : j = 64 := by omega
          obtain ⟨hgr, hBr⟩ := hhid trivial
          clear hhid
          have hs1 := heap_setCell_same wr w.heap.size k _ _ (bbv (bbTo p ((k : Int) + 1) 64)) hgr
          rw [brdF_set _ _ _ _ _ _ k hlt] at hs1
          have hb1 := hBr.setCell (p := ⟨w.heap.size, k, none⟩) (Nat.le_refl _) (bbv (bbTo p ((k : Int) + 1) 64))
          have hhid : True → _ := fun _ => And.intro hs1 hb1
          have hgr' : True → _ := fun _ => hgr
          clear hs1 hb1 hgr hBr
          go_wp2_with (go_at_call 50; refine (bo_set _ _ _ _ _ _ w.heap.size k _ _ (hgr' trivial) hlt).mono ?_; rintro e1 w1 ⟨rfl, rfl⟩)
          go_roundw
          case rel =>
            obtain ⟨hs1, hb1⟩ := hhid trivial
            refine ⟨k + 1, by omega, by go_num, ?_, hb1⟩
            rw [hs1, ← bbP_step]
            rfl
          case measure => simp [intOf]; omega
    · obtain rfl : k = 12 := by omega
      go_wp2_with (go_at_call 51; refine (bo_calc p _ _ _ _ _ rfl w.heap.size _ hgr).mono ?_; rintro e1 w1 ⟨rfl, hg1, hO1⟩)
      go_ret
      exact ⟨rfl, hg1, hO1.2 _ _ (Nat.le_refl _) hBr⟩
end Go.Proofs.YtnpklkenjaambaaDoor
