/- laws.biOn, biOf, biBoard, biReach: the reference's numbers of squares. -/
import Derived.Test.YtgebocnomapchaaDoorRe
import Derived.Test.YtgebocnomapchaaDoorSb
namespace Go.Proofs.YtgebocnomapchaaDoor
open Go Go.RowKit
set_option maxHeartbeats 4000000
set_option linter.unusedSimpArgs false
set_option linter.unusedVariables false
set_option maxRecDepth 100000

theorem bit_and_one (x : BitVec 64) : (x &&& 1#64 == 1#64) = x.getLsbD 0 := by
  rw [Bool.eq_iff_iff]
  constructor
  · intro h
    have h := eq_of_beq h
    have := congrArg (fun z : BitVec 64 => z.getLsbD 0) h
    simpa using this
  · intro h
    apply beq_iff_eq.mpr
    apply BitVec.eq_of_getLsbD_eq
    intro i hi
    by_cases h0 : i = 0
    · subst h0; simpa using h
    · have : (1#64).getLsbD i = false := by
        simp [BitVec.getLsbD_one]; omega
      simp [this]

theorem bi_on (x : BitVec 64) (s : Int) (w : World) (h0 : 0 ≤ s) (h1 : s ≤ 63) :
    Calls Tryd.prog 74 #[bbv x, .int .i64 s] w fun e w' => e = .returned (.bool (occ x s.toNat)) ∧ w = w' := by
  go_enter Tryd.func74, Tryd.ntmps74
  go_wp2
  go_ret
  refine ⟨?_, rfl⟩
  show Ending.returned (.bool (x >>> (63 - s).toNat &&& 1#64 == 1#64)) = _
  rw [bit_and_one]
  unfold occ
  rw [BitVec.getLsbD_ushiftRight]
  congr 3
  omega

/-- The number of some squares. -/
def biOf (l : List Int) : BitVec 64 := l.foldl (fun a s => a ||| sqBit s.toNat) 0#64
theorem biOf_snoc (l : List Int) (s : Int) : biOf (l ++ [s]) = biOf l ||| sqBit s.toNat := by simp [biOf]
theorem pow_bit (k : Nat) (h : k < 64) : BitVec.ofInt 64 (IntKind.u64.wrap (2 ^ k)) = 1#64 <<< k := by
  rw [wrap_ofInt, ofInt_toNat]
  have hp : ((2 : Int) ^ k) = ((2 ^ k : Nat) : Int) := by rw [Int.natCast_pow]; rfl
  rw [hp, BitVec.ofInt_natCast]
  apply BitVec.eq_of_toNat_eq
  simp [Nat.shiftLeft_eq]

theorem bi_of (l : List Int) (v : Value) (base : Nat) (w : World) (hl : ∀ x ∈ l, 0 ≤ x ∧ x ≤ 63) (hv : ownInts w base v l) (hn : l.length ≤ 1000) :
    Calls Tryd.prog 21 #[v] w fun e w' => e = .returned (bbv (biOf l)) ∧ w = w' := by
  have hcell : ∃ p cap, v = .slice p l.length cap ∧ ∀ i, i < l.length → ∃ a, p = some a ∧ a.spot = none ∧ w.cell? (a.add i) = some (.int .i64 (l.getD i 0)) := by
    rcases hv.2 with ⟨h1, h2⟩ | ⟨g, cap, cur, h1, _, hg, _⟩
    · exact ⟨none, 0, by rw [h1, h2], fun i hi => by omega⟩
    · refine ⟨_, cap, h1, fun i hi => ⟨_, rfl, rfl, ?_⟩⟩
      have := hv.cells (g := g) (by rw [h1]; rfl) i (.int .i64 (l.getD i 0)) (by simp [hi])
      exact this
  obtain ⟨p, cap, rfl, hc⟩ := hcell
  go_enter Tryd.func21, Tryd.ntmps21
  go_wp2_with fail
  go_loop [3, 4] (fun a i => ∃ k : Nat, k ≤ l.length ∧ i = .int .i64 (k : Int) ∧ a = bbv (biOf (l.take k))) (fun _ i => (l.length - (intOf i).toNat))
  case atStart => exact ⟨0, by omega, rfl, by simp [biOf]; rfl⟩
  case round =>
    obtain ⟨k, hk, rfl, rfl⟩ := hrel
    by_cases hlt : k < l.length
    · obtain ⟨a, rfl, hs, hck⟩ := hc k hlt
      have hlk := hl (l.getD k 0) (by simp [hlt])
      have hpb := pow_bit (63 - l.getD k 0).toNat (by omega)
      have hsn := biOf_snoc (l.take k) (l.getD k 0)
      have htk : l.take (k + 1) = l.take k ++ [l.getD k 0] := by
        rw [List.take_add_one]; simp [hlt]
      rw [← htk] at hsn
      generalize l.getD k 0 = z at *
      go_wp2_with fail
      go_round
      case rel => exact ⟨k + 1, by omega, by go_num, by rw [hsn, sqBit]; congr 3; omega⟩
      case measure => simp [intOf]; omega
    · obtain rfl : k = l.length := by omega
      go_wp2_with fail
      go_ret
      exact ⟨by simp, rfl⟩

/-- A position with knights on the squares of x below k, but for one square. -/
def bdTo (x : BitVec 64) (but : Int) (k : Nat) : List Int := (List.range 69).map fun i => if i < k ∧ i < 64 ∧ occ x i = true ∧ (i : Int) ≠ but then 5 else 0
theorem bdTo_len (x : BitVec 64) (but : Int) (k : Nat) : (bdTo x but k).length = 69 := by simp [bdTo]
theorem bdTo_zero (x : BitVec 64) (but : Int) : bdTo x but 0 = List.replicate 69 0 := by
  apply List.ext_getElem
  · simp [bdTo]
  · intro i h1 h2
    simp only [bdTo, List.getElem_map, List.getElem_replicate]
    rw [if_neg (by omega)]
theorem bdTo_yes (x : BitVec 64) (but : Int) (k : Nat) (hk : k < 64) (h : occ x k = true) (hb : (k : Int) ≠ but) : (bdTo x but k).set k 5 = bdTo x but (k + 1) := by
  apply List.ext_getElem
  · simp [bdTo]
  · intro i h1 h2
    rw [List.getElem_set]
    simp only [bdTo, List.getElem_map, List.getElem_range]
    by_cases e : k = i
    · subst e
      rw [if_pos rfl, if_pos ⟨by omega, hk, h, hb⟩]
    · rw [if_neg e]
      by_cases c : i < k ∧ i < 64 ∧ occ x i = true ∧ (i : Int) ≠ but
      · rw [if_pos c, if_pos ⟨by omega, c.2⟩]
      · rw [if_neg c, if_neg (fun hc => c ⟨by omega, hc.2⟩)]
theorem bdTo_no (x : BitVec 64) (but : Int) (k : Nat) (h : ¬ (occ x k = true ∧ (k : Int) ≠ but)) : bdTo x but k = bdTo x but (k + 1) := by
  unfold bdTo
  apply List.map_congr_left
  intro i _
  by_cases c : i < k ∧ i < 64 ∧ occ x i = true ∧ (i : Int) ≠ but
  · rw [if_pos c, if_pos ⟨by omega, c.2⟩]
  · rw [if_neg c, if_neg (fun hc => by
      by_cases e : i = k
      · subst e; exact h hc.2.2
      · exact c ⟨by omega, hc.2⟩)]
theorem bi_board (x : BitVec 64) (but : Int) (w : World) :
    Calls Tryd.prog 55 #[bbv x, .int .i64 but] w fun e w' => e = .returned (.agg (ints (bdTo x but 64))) ∧ Below w.heap.size w w' := by
  go_enter Tryd.func55, Tryd.ntmps55
  go_wp2_with fail
  go_loopw [6] (fun i wr => ∃ k : Nat, k ≤ 64 ∧ i = .int .i64 (k : Int) ∧ wr.heap[w.heap.size + 1]? = some (.cells (ints (bdTo x but k)) 71 (0, 0)) ∧ wr.heap[w.heap.size]? = some (.cells (ints (List.replicate 69 0)) 71 (0, 0)) ∧ Below w.heap.size w wr) (fun i _ => (64 - (intOf i).toNat))
  case atStart => exact ⟨0, by omega, rfl, (heap_alloc2_new w _ _).trans (by rw [bdTo_zero]; kernel_rfl), (heap_alloc2_old w _ _).trans (by kernel_rfl), ((Below.refl _ _).alloc (Nat.le_refl _) _).alloc (by simp) _⟩
  case round =>
    obtain ⟨k, hk, rfl, hg1, hg0, hbr⟩ := hrel
    have hz : w.heap.size + 1 < wr.heap.size := (Array.getElem?_eq_some_iff.1 hg1).1
    by_cases hlt : k < 64
    · have hno := bdTo_no x but k
      by_cases ho : occ x k = true
      · by_cases hne : (k : Int) = but
        · rw [hno (by simp [hne])] at hg1
          clear hno
          subst hne
          go_wp2_with (first | (go_at_call 74; refine (bi_on _ _ _ (by omega) (by omega)).mono ?_; rintro e w1 ⟨rfl, rfl⟩))
          go_roundw
          case rel => exact ⟨k + 1, by omega, by go_num, hg1, hg0, hbr⟩
          case measure => simp [intOf]; omega
        · have hcl : wr.cell? ⟨w.heap.size + 1, k, none⟩ = some (.int .i64 ((bdTo x but k).getD k 0)) := (cell_of_row _ _ _ _ _ _ hg1).trans (ints_get _ _ (by rw [bdTo_len]; omega))
          have hfz := frozen_of_row wr (w.heap.size + 1) k _ _ hg1
          have hset := heap_setCell_same wr (w.heap.size + 1) k _ _ (.int .i64 5) hg1
          rw [ints_set, bdTo_yes x but k hlt ho hne] at hset
          have hoth := heap_setCell_other wr ⟨w.heap.size + 1, k, none⟩ w.heap.size (.int .i64 5) (by simp)
          have hbs := hbr.setCell (p := ⟨w.heap.size + 1, k, none⟩) (by simp) (.int .i64 5)
          have hne' : ((k : Int) != but) = true := by simp [hne]
          clear hno
          go_wp2_with (first | (go_at_call 74; refine (bi_on _ _ _ (by omega) (by omega)).mono ?_; rintro e w1 ⟨rfl, rfl⟩) | (go_at_call 56; refine (po_of _ _ _ (by omega) (by omega) (by omega) (by omega)).mono ?_; rintro e w1 ⟨rfl, rfl⟩))
          go_roundw
          case rel => exact ⟨k + 1, by omega, by go_num, hset, hoth.trans hg0, hbs⟩
          case measure => simp [intOf]; omega
      · rw [hno (by simp [ho])] at hg1
        clear hno
        have ho : occ x k = false := by simpa using ho
        go_wp2_with (first | (go_at_call 74; refine (bi_on _ _ _ (by omega) (by omega)).mono ?_; rintro e w1 ⟨rfl, rfl⟩))
        go_roundw
        case rel => exact ⟨k + 1, by omega, by go_num, hg1, hg0, hbr⟩
        case measure => simp [intOf]; omega
    · obtain rfl : k = 64 := by omega
      go_wp2_with (first | ((with_reducible refine at_load_pos hg1 (bdTo_len _ _ _) ?_ ?_); rfl) | ((with_reducible refine at_store_pos (bdTo x but 64) hg0 (by simp) (bdTo_len _ _ _) ?_ ?_ ?_); rfl; rfl))
      refine bodyPost_ret (v := .agg (ints (bdTo x but 64))) (results_cell_row rfl _ _ w.heap.size 71 _ (0, 0) _ rfl (setRow_heap _ _ _ _ _ _ hg0) Tryd.underlying71 rfl (by rw [ints_size, bdTo_len]; kernel_rfl)) rfl ⟨rfl, below_setRow hbr (Nat.le_refl _) _⟩

/-- What a piece of a kind sees from a square over the squares of x. -/
def biReach (x : BitVec 64) (k s : Int) : BitVec 64 := biOf (reach ((bdTo x s 64).set s.toNat k) s)
theorem bd_small (x : BitVec 64) (s k : Int) (h0 : 0 ≤ k) (h1 : k ≤ 6) : ∀ z ∈ (bdTo x s 64).set s.toNat k, -4294967296 < z ∧ z < 4294967296 := by
  intro z hz
  rcases List.mem_or_eq_of_mem_set hz with h | h
  · simp only [bdTo, List.mem_map] at h
    obtain ⟨i, _, rfl⟩ := h
    split <;> omega
  · subst h; omega
theorem ray_range (B : Int → Int) (far : Bool) (f r df dr : Int) : ∀ n m, ∀ z ∈ ray B far f r df dr n m, 0 ≤ z ∧ z ≤ 63
  | _, 0 => by simp [ray]
  | n, m + 1 => by
    intro z hz
    have h := ray_range B far f r df dr (n + 1) m z
    have ha := atSq_range (f + n * df) (r + n * dr)
    unfold ray at hz
    split at hz
    · cases hz
    · split at hz
      · simp at hz; omega
      · simp at hz
        rcases hz with rfl | hz
        · omega
        · exact h hz
theorem rays_range (B : Int → Int) (far : Bool) (f r : Int) : ∀ l : List Int, ∀ z ∈ rays B far f r l, 0 ≤ z ∧ z ≤ 63
  | [] => by simp [rays]
  | [_] => by simp [rays]
  | df :: dr :: l => by
    intro z hz
    simp only [rays, List.mem_append] at hz
    rcases hz with hz | hz
    · exact ray_range _ _ _ _ _ _ _ _ z hz
    · exact rays_range B far f r l z hz
theorem reach_range (p : List Int) (s : Int) : ∀ z ∈ reach p s, 0 ≤ z ∧ z ≤ 63 := rays_range _ _ _ _ _

theorem bi_reach (x : BitVec 64) (k s : Int) (w : World) (h0 : 0 ≤ s) (h1 : s ≤ 63) (k0 : 0 ≤ k) (k1 : k ≤ 6) :
    Calls Tryd.prog 22 #[bbv x, .int .i64 k, .int .i64 s] w fun e w' => e = .returned (bbv (biReach x k s)) ∧ Below w.heap.size w w' := by
  go_enter Tryd.func22, Tryd.ntmps22
  go_wp2_with (first | (go_at_call 55; refine (bi_board _ _ _).mono ?_; rintro e w1 ⟨rfl, q1⟩) | ((with_reducible refine at_store_pos (bdTo x s 64) (pos_alloc _) (by simp) (bdTo_len _ _ _) ?_ ?_ ?_); rfl; rfl))
  refine (po_of _ _ _ k0 k1 (by omega) (by omega)).mono ?_
  rintro e w2 ⟨rfl, hw2⟩
  have hg2 := setRow_heap _ _ _ (ints (bdTo x s 64)) _ _ (pos_alloc w1)
  have hb2 : Below w1.heap.size w1 w2 := by rw [← hw2]; exact below_setRow ((Below.refl _ _).alloc (Nat.le_refl _) _) (Nat.le_refl _) _
  rw [hw2] at hg2
  clear hw2
  have hc2 := row_cell hg2 s.toNat (by rw [bdTo_len]; omega)
  have hf2 := frozen_of_row w2 w1.heap.size s.toNat _ _ hg2
  have hg3 := row_set hg2 s.toNat (k + 6 * 0)
  have hb3 := hb2.setCell (p := ⟨w1.heap.size, s.toNat, none⟩) (Nat.le_refl _) (.int .i64 (k + 6 * 0))
  rw [show k + 6 * 0 = k by omega] at hg3 hb3
  clear hg2 hb2
  go_wp2_with (first | ((with_reducible refine at_load_pos hg3 (by simp [bdTo_len]) ?_ ?_); rfl))
  refine (re_reach _ s _ (by simp [bdTo_len]) (bd_small x s k k0 k1) h0 h1).mono ?_
  rintro e w4 ⟨v, rfl, hown, q4⟩
  go_wp2_with fail
  refine (bi_of _ _ _ _ (reach_range _ _) hown (Nat.le_trans (reach_le _ _) (by decide))).mono ?_
  rintro e w5 ⟨rfl, rfl⟩
  go_wp2
  go_ret
  refine ⟨rfl, bstep q1 (bstep hb3 q4 hb3.size) q1.size⟩
end Go.Proofs.YtgebocnomapchaaDoor
