/- impl.position: the engine's position of a plain one. (Printed by gen_pz.py.) -/
import Derived.Test.YtplkcmlpomjojaaDoorKl
import Derived.Test.YtplkcmlpomjojaaDoorEn
namespace Go.Proofs.YtplkcmlpomjojaaDoor
open Go Go.RowKit
set_option maxHeartbeats 8000000
set_option linter.unusedSimpArgs false
set_option linter.unusedVariables false
set_option maxRecDepth 100000

def letB : Nat → ByteArray
  | 0 => ⟨#[75]⟩
  | 1 => ⟨#[81]⟩
  | 2 => ⟨#[107]⟩
  | _ => ⟨#[113]⟩
def letC : Array Value := #[.string ⟨#[75]⟩, .string ⟨#[81]⟩, .string ⟨#[107]⟩, .string ⟨#[113]⟩]
/-- The rights to castle as a text, without the sign for none. -/
def casTo (c : Int) : Nat → ByteArray
  | 0 => ByteArray.empty
  | n + 1 => if c / 2 ^ n % 2 = 1 then casTo c n ++ letB n else casTo c n
theorem and_small : ∀ n < 16, bits .and .i64 ((n : Nat) : Int) 1 = ((n : Nat) : Int) % 2 := by decide
theorem cas_bit (ca : Int) (k : Nat) (h0 : 0 ≤ ca) (h1 : ca ≤ 15) : bits .and .i64 (ca / 2 ^ k) 1 = ca / 2 ^ k % 2 := by
  obtain ⟨c, rfl⟩ := Int.eq_ofNat_of_zero_le h0
  have e : ((c : Int) / 2 ^ k) = ((c / 2 ^ k : Nat) : Int) := by rw [Int.natCast_ediv, Int.natCast_pow]; rfl
  rw [e]
  exact and_small _ (by have := Nat.div_le_self c (2 ^ k); omega)
theorem letB_size (k : Nat) : (letB k).size = 1 := by unfold letB; split <;> rfl
theorem casTo_size (c : Int) : ∀ k, (casTo c k).size ≤ k
  | 0 => by simp [casTo]
  | k + 1 => by
    have := casTo_size c k
    rw [casTo]
    split
    · rw [ByteArray.size_append, letB_size]; omega
    · omega
-- GEN
/-- The rights to castle as a text. -/
def casText (c : Int) : ByteArray := if casTo c 4 = ByteArray.empty then ⟨#[45]⟩ else casTo c 4
theorem wrap_i8 (n : Int) (h0 : -128 ≤ n) (h1 : n ≤ 127) : IntKind.i8.wrap n = n := by
  unfold IntKind.wrap
  simp only [show IntKind.i8.bits = 8 from rfl, show IntKind.i8.signed = true from rfl, Bool.true_and]
  split <;> rename_i h <;> simp at h <;> omega
theorem txt_empty {s : ByteArray} (h : s = ByteArray.empty) : s.toList.isEmpty = true := by rw [h, ByteArray.toList_eq]; rfl
theorem txt_some {s : ByteArray} (h : ¬ s = ByteArray.empty) : s.toList.isEmpty = false := by
  rw [ByteArray.toList_eq]
  cases hd : s.data.toList with
  | nil => exact absurd (ByteArray.ext (Array.ext' (by rw [hd]; rfl))) h
  | cons a l => rfl
/-- The engine's position, in block pg, its board in block bg. -/
structure EngPos (p : List Int) (tn pg bg : Nat) (w : World) : Prop where
  ps : w.heap[pg]? = some (.cells (posC bg (casText (p.getD 65 0)) (p.getD 67 0) (p.getD 68 0) tn (p.getD 66 0) (checkedB p tn)) 62 (0, 0))
  bd : w.heap[bg]? = some (.cells (brd p) 75 (0, 0))
theorem EngPos.below {p : List Int} {tn pg bg : Nat} {w w' : World} (h : EngPos p tn pg bg w) (hb : Below w.heap.size w w') : EngPos p tn pg bg w' :=
  ⟨(hb.block _ (Array.getElem?_eq_some_iff.1 h.ps).1).trans h.ps, (hb.block _ (Array.getElem?_eq_some_iff.1 h.bd).1).trans h.bd⟩
/-- The board's cells of a position. -/
def brdV (p : List Int) : List Value := (p.take 64).map (Value.int .i64)
theorem range64 {p : List Int} {g : Nat} {w : World} (h : PosAt p g w) : w.rangeAt g 0 (brdV p) := fun j v hj => by
  unfold brdV at hj
  have hr := h.range j v
  simp only [List.getElem?_map, List.getElem?_take] at hj
  simp only [List.getElem?_map] at hr
  by_cases hlt : j < 64
  · rw [if_pos hlt] at hj; exact hr hj
  · rw [if_neg hlt] at hj; simp at hj
theorem info64 (p : List Int) (hl : p.length = 69) : (Tryd.prog.info? 22).map (·.size) = some (brdV p).length := by
  unfold brdV
  rw [List.length_map, List.length_take, hl]; kernel_rfl
/-- Both kings, and whether the side to move is in check. -/
theorem Sound.kings {p : List Int} {tn : Nat} (hs : Sound p tn) : ∃ k0 k1 : Nat, lastK p 1 64 = (k0 : Int) ∧ lastK p 7 64 = (k1 : Int) ∧ k0 < 64 ∧ k1 < 64 ∧ kingAt p 0 = (k0 : Int) ∧ kingAt p 1 = (k1 : Int) ∧ engB p tn (if tn = 1 then k1 else k0) = checkedB p tn := by
  obtain ⟨k0, a0, b0, c0, -⟩ := king_both p 0 hs.n1
  obtain ⟨k1, a1, b1, c1, -⟩ := king_both p 1 hs.n7
  refine ⟨k0, k1, a0, a1, c0, c1, b0, b1, ?_⟩
  have h1 := hs.one
  rw [eng_attacked p hs.pos tn h1 _ (by split <;> omega)]
  unfold checkedB
  obtain rfl | rfl : tn = 0 ∨ tn = 1 := by omega
  · rw [show ((0 : Nat) : Int) = 0 from rfl, b0]; simp
  · rw [show ((1 : Nat) : Int) = 1 from rfl, b1]; simp
theorem pz_board (p : List Int) (hp : Pos p) (w : World) (hA : IntSl w 6 .i8 allL) :
    Calls Tryd.prog 37 #[.agg (brdV p).toArray] w fun e' w' => ∃ g, e' = .returned (.pointer (some ⟨g, 0, none⟩)) ∧ w.heap.size ≤ g ∧ w'.heap[g]? = some (.cells (brd (p.take 64)) 75 (0, 0)) ∧ Below w.heap.size w w' := bp_board (p.take 64) hp.board w hA
theorem dp_pos (p : List Int) (tn : Nat) (hs : Sound p tn) (bg : Nat) (w : World) (cas : ByteArray) (half full ep tv : Int) (htv : tv = (tn : Int) + 1) (hbd : w.heap[bg]? = some (.cells (brd (p.take 64)) 75 (0, 0))) (hT : Tabs w) (hA : IntSl w 6 .i8 allL) :
    Calls Tryd.prog 36 #[.pointer (some ⟨bg, 0, none⟩), .int .i8 tv, .string cas, .int .i8 ep, .int .i64 half, .int .i64 full] w fun e w' => e = .returned (.pointer (some ⟨w.heap.size, 0, none⟩)) ∧ w'.heap[w.heap.size]? = some (.cells (posC bg cas half full tn ep (checkedB p tn)) 62 (0, 0)) ∧ Below w.heap.size w w' := by
  subst htv
  rw [brd_take] at hbd
  obtain ⟨k0, k1, h0, h1, l0, l1, -, -, hc⟩ := hs.kings
  exact dp_position p tn hs.one bg w cas half full ep hbd hT hA k0 k1 h0 h1 l0 l1 _ hc
theorem pz_end {p : List Int} {tn g : Nat} {w w0 w1 w2 : World} {cas : ByteArray} (hc : casText (p.getD 65 0) = cas) (hB : Below w.heap.size w w0) (hg : w0.heap.size ≤ g) (hbd : w1.heap[g]? = some (.cells (brd (p.take 64)) 75 (0, 0))) (hb1 : Below w0.heap.size w0 w1)
    (hps : w2.heap[w1.heap.size]? = some (.cells (posC g cas (p.getD 67 0) (p.getD 68 0) tn (p.getD 66 0) (checkedB p tn)) 62 (0, 0))) (hb2 : Below w1.heap.size w1 w2) : ∃ pg bg, Value.pointer (some ⟨w1.heap.size, 0, none⟩) = .pointer (some ⟨pg, 0, none⟩) ∧ w.heap.size ≤ pg ∧ EngPos p tn pg bg w2 ∧ Below w.heap.size w w2 := by
  have s1 := hB.size
  have s2 := hb1.size
  rw [brd_take] at hbd
  refine ⟨w1.heap.size, g, rfl, by omega, ⟨by rw [hc]; exact hps, (hb2.block g (Array.getElem?_eq_some_iff.1 hbd).1).trans hbd⟩, hB.trans ((hb1.trans (hb2.mono s2)).mono s1)⟩
theorem pz_position (p : List Int) (tn : Nat) (hs : Sound p tn) (hh : p.getD 67 0 ≤ 1000000) (hf : p.getD 68 0 ≤ 1000000) (w : World) (hT : Tabs w) (hA : IntSl w 6 .i8 allL) :
    Calls Tryd.prog 19 #[.agg (ints p)] w fun e w' => ∃ v, e = .returned v ∧ ∃ pg bg, v = .pointer (some ⟨pg, 0, none⟩) ∧ w.heap.size ≤ pg ∧ EngPos p tn pg bg w' ∧ Below w.heap.size w w' := by
  have hl := hs.pos.len
  have hrow0 : PosAt p w.heap.size (w.alloc (.cells (ints p) 24)) := heap_alloc_new w (.cells (ints p) 24)
  have hBW : Below w.heap.size w (w.alloc (.cells (ints p) 24)) := (Below.refl _ _).alloc (Nat.le_refl _) _
  have hTs := lay (hT.below hBW (Nat.le_refl _))
  have hAs := lay (hA.below hBW)
  clear hT hA
  have c64 := hrow0.cell 64 (by omega)
  have c65 := hrow0.cell 65 (by omega)
  rw [hs.turn] at c64
  have hss := lay hs
  have hfin := lay (fun (cas : ByteArray) (w0 w1 w2 : World) (g : Nat) hc hB hg hbd hb1 hps hb2 => pz_end (p := p) (tn := tn) (g := g) (w := w) (w0 := w0) (w1 := w1) (w2 := w2) (cas := cas) hc hB hg hbd hb1 hps hb2)
  have hdp := lay (fun (bg : Nat) (W : World) (cas : ByteArray) (half full ep tv : Int) htv hbd hT hA => dp_pos p tn hs bg W cas half full ep tv htv hbd hT hA)
  have hbp := lay (fun (W : World) hA => pz_board p hs.pos W hA)
  have hr0 := lay hrow0
  have hB0 := lay hBW
  have hcT := lay (show casText (p.getD 65 0) = if casTo (p.getD 65 0) 4 = ByteArray.empty then ⟨#[45]⟩ else casTo (p.getD 65 0) 4 from rfl)
  have hinf := lay (info64 p hl)
  clear hs hrow0 hBW
  go_enter Tryd.func19, Tryd.ntmps19
  go_upto_region 1 with (fail)
  generalize w.alloc (.cells (ints p) 24) = W at *
  have hca0 := hss.out.ca0
  have hca1 := hss.out.ca1
  have hcell := lay (fun (V : World) (hV : PosAt p w.heap.size V) => hV.cell 65 (by omega))
  obtain ⟨ep0, ep1⟩ := hss.out.ep
  have hhf0 := hss.out.hf
  have hfu0 := hss.out.fu
  have hce6 := lay (fun (V : World) (hV : PosAt p w.heap.size V) => hV.cell 66 (by omega))
  have hce7 := lay (fun (V : World) (hV : PosAt p w.heap.size V) => hV.cell 67 (by omega))
  have hce8 := lay (fun (V : World) (hV : PosAt p w.heap.size V) => hV.cell 68 (by omega))
  generalize p.getD 65 0 = ca at *
  generalize p.getD 66 0 = ep at *
  generalize p.getD 67 0 = ha at *
  generalize p.getD 68 0 = fu at *
  rcases (show tn = 0 ∨ tn = 1 by have := hss.out.one; omega) with rfl | rfl
  · go_wp2_with fail
    have hW1 : (W.alloc (.cells letC 9)).heap[W.heap.size]? = some (.cells letC 9 (0, 0)) := heap_alloc_new W _
    have hBl : Below W.heap.size W (W.alloc (.cells letC 9)) := (Below.refl W.heap.size W).alloc (Nat.le_refl _) _
    have hP1 : PosAt p w.heap.size (W.alloc (.cells letC 9)) := hr0.out.below hBl
    have hS0 := lay (show PosAt p w.heap.size (W.alloc (.cells letC 9)).drew ∧ Tabs (W.alloc (.cells letC 9)).drew ∧ IntSl (W.alloc (.cells letC 9)).drew 6 .i8 allL from ⟨hP1, hTs.out.below hBl.drew (Nat.le_refl _), hAs.out.below hBl.drew⟩)
    have hBr := lay (show Below w.heap.size w (W.alloc (.cells letC 9)).drew from hB0.out.trans (hBl.drew.mono hB0.out.size))
    have c65w := hcell.out _ hP1
    clear c65 hBl
    change Code.wp _ _ _ _ (W.alloc (.cells letC 9))
    generalize W.alloc (.cells letC 9) = W1 at *
    go_loopw [4, 12] (fun t i wr => ∃ k : Nat, k ≤ 4 ∧ i = .int .i64 (k : Int) ∧ t = .string (casTo ca k) ∧ wr = W1) (fun _ i _ => (4 - intOf i).toNat)
    case atStart => exact ⟨0, by omega, rfl, rfl, rfl⟩
    case round =>
      obtain ⟨k, hk, rfl, rfl, rfl⟩ := hrel
      have hlet : ∀ j : Nat, j < 4 → wr.cell? ⟨W.heap.size, j, none⟩ = some (.string (letB j)) := fun j hj => by
        rw [cell_of_row _ _ _ _ _ _ hW1]
        rcases (show j = 0 ∨ j = 1 ∨ j = 2 ∨ j = 3 by omega) with rfl | rfl | rfl | rfl <;> rfl
      by_cases hlt : k < 4
      · have hc := hlet k hlt
        have hcas := lay (show casTo ca (k + 1) = if ca / 2 ^ k % 2 = 1 then casTo ca k ++ letB k else casTo ca k from rfl)
        have hbit := cas_bit ca k hca0 hca1
        have hz1 := casTo_size ca k
        have hz2 := letB_size k
        have hls := lay hlet
        clear hlet
        by_cases hb : ca / 2 ^ k % 2 = 1
        · have hb1 : (bits .and .i64 (ca / 2 ^ k) 1 == 1) = true := by rw [hbit, hb]; rfl
          have hbs := lay hb
          clear hbit hb
          have hsz : ((casTo ca k).size : Int) + (letB k).size ≤ 9223372036854775807 := by omega
          go_wp2_with fail
          go_roundw
          case rel => exact ⟨k + 1, by omega, by go_num, by rw [hcas.out, if_pos hbs.out], trivial⟩
          case measure => simp [intOf]; omega
        · have hb1 : (bits .and .i64 (ca / 2 ^ k) 1 == 1) = false := by rw [hbit]; simpa using hb
          have hbs := lay hb
          clear hbit hb
          go_wp2_with fail
          go_roundw
          case rel => exact ⟨k + 1, by omega, by go_num, by rw [hcas.out, if_neg hbs.out], trivial⟩
          case measure => simp [intOf]; omega
      · obtain rfl : k = 4 := by omega
        have c64w := (PosAt.below (p := p) (w := wr) (w' := wr) hP1 (Below.refl _ _)).cell 64 (by omega)
        have c66 := hce6.out _ hP1
        have c67 := hce7.out _ hP1
        have c68 := hce8.out _ hP1
        rw [hss.out.turn] at c64w
        have b1 : decide (ca < 0) = false := decide_eq_false (by omega)
        have b2 : decide (15 < ca) = false := decide_eq_false (by omega)
        have b3 : decide (ep < -1) = false := decide_eq_false (by omega)
        have b4 : decide (63 < ep) = false := decide_eq_false (by omega)
        have b5 : decide (ha < 0) = false := decide_eq_false (by omega)
        have b6 : decide (fu < 0) = false := decide_eq_false (by omega)
        have hwep : IntKind.i8.wrap ep = ep := wrap_i8 ep (by omega) (by omega)
        clear hlet
        by_cases hc : casTo ca 4 = ByteArray.empty
        · have hcb : (casTo ca 4).toList.isEmpty = true := txt_empty hc
          have hcs := lay hc
          clear hc
          go_wp2_with fail
          clear c64w c66 c67 c68 c65w
          refine wp_region_held_drew (S := fun w' : World => PosAt p w.heap.size w' ∧ Tabs w' ∧ IntSl w' 6 .i8 allL) (by kernel_rfl) ⟨hS0.out.1, hS0.out.2.1, hS0.out.2.2⟩ (fun hHeld => ?_)
          refine wpAnyH_take (i := 0) (v := ?vpa0_1_0) rfl (by kernel_rfl) (by kernel_rfl) (by kernel_rfl) (fun _ _ _ h => h) (Or.inl ⟨by rfl, ?ypa0_1_0⟩) hHeld ?rpa0_1_0
          case ypa0_1_0 => (intro wq hSw; clear hSw; go_simp; try with_reducible rfl)
          try simp only [List.getElem_toArray, List.getElem_cons_zero, List.getElem_cons_succ, Act.put, List.setIfInBounds_toArray, List.set_cons_zero, List.set_cons_succ]
          refine' wpAnyH_take (i := 1) (v := _) rfl (by kernel_rfl) (by kernel_rfl) (by kernel_rfl) (fun _ _ _ h => h) (yieldsIf_load_mid (by rfl) _ _ rfl _ _ rfl _ _ (fun _ h => range64 h.1) Tryd.underlying22 rfl hinf.out) hHeld ?_
          try simp only [List.getElem_toArray, List.getElem_cons_zero, List.getElem_cons_succ, Act.put, List.setIfInBounds_toArray, List.set_cons_zero, List.set_cons_succ]
          refine wpAnyH_take (i := 3) (v := ?vpa0_3_3) rfl (by kernel_rfl) (by kernel_rfl) (by kernel_rfl) (fun _ _ _ h => h) (Or.inl ⟨by rfl, ?ypa0_3_3⟩) hHeld ?rpa0_3_3
          case ypa0_3_3 => (intro wq hSw; clear hSw; go_simp; try with_reducible rfl)
          try simp only [List.getElem_toArray, List.getElem_cons_zero, List.getElem_cons_succ, Act.put, List.setIfInBounds_toArray, List.set_cons_zero, List.set_cons_succ]
          refine wpAnyH_take (i := 4) (v := ?vpa0_4_4) rfl (by kernel_rfl) (by kernel_rfl) (by kernel_rfl) (fun _ _ _ h => h) (Or.inl ⟨by rfl, ?ypa0_4_4⟩) hHeld ?rpa0_4_4
          case ypa0_4_4 => (intro wq hSw; clear hSw; go_simp; try with_reducible rfl)
          try simp only [List.getElem_toArray, List.getElem_cons_zero, List.getElem_cons_succ, Act.put, List.setIfInBounds_toArray, List.set_cons_zero, List.set_cons_succ]
          refine wpAnyH_take (i := 5) (v := ?vpa0_5_5) rfl (by kernel_rfl) (by kernel_rfl) (by kernel_rfl) (fun _ _ _ h => h) (Or.inl ⟨by rfl, ?ypa0_5_5⟩) hHeld ?rpa0_5_5
          case ypa0_5_5 => (intro wq hSw; clear hSw; go_simp; try with_reducible rfl)
          try simp only [List.getElem_toArray, List.getElem_cons_zero, List.getElem_cons_succ, Act.put, List.setIfInBounds_toArray, List.set_cons_zero, List.set_cons_succ]
          refine wpAnyH_take (i := 6) (v := ?vpa0_6_6) rfl (by kernel_rfl) (by kernel_rfl) (by kernel_rfl) (fun _ _ _ h => h) (Or.inl ⟨by rfl, ?ypa0_6_6⟩) hHeld ?rpa0_6_6
          case ypa0_6_6 => (intro wq hSw; have hq := hce6.out _ hSw.1; clear hSw; go_simp; try with_reducible rfl)
          try simp only [List.getElem_toArray, List.getElem_cons_zero, List.getElem_cons_succ, Act.put, List.setIfInBounds_toArray, List.set_cons_zero, List.set_cons_succ]
          refine wpAnyH_take (i := 7) (v := ?vpa0_7_7) rfl (by kernel_rfl) (by kernel_rfl) (by kernel_rfl) (fun _ _ _ h => h) (Or.inl ⟨by rfl, ?ypa0_7_7⟩) hHeld ?rpa0_7_7
          case ypa0_7_7 => (intro wq hSw; clear hSw; go_simp; try with_reducible rfl)
          try simp only [List.getElem_toArray, List.getElem_cons_zero, List.getElem_cons_succ, Act.put, List.setIfInBounds_toArray, List.set_cons_zero, List.set_cons_succ]
          refine wpAnyH_take (i := 8) (v := ?vpa0_8_8) rfl (by kernel_rfl) (by kernel_rfl) (by kernel_rfl) (fun _ _ _ h => h) (Or.inl ⟨by rfl, ?ypa0_8_8⟩) hHeld ?rpa0_8_8
          case ypa0_8_8 => (intro wq hSw; clear hSw; go_simp; try with_reducible rfl)
          try simp only [List.getElem_toArray, List.getElem_cons_zero, List.getElem_cons_succ, Act.put, List.setIfInBounds_toArray, List.set_cons_zero, List.set_cons_succ]
          refine wpAnyH_take (i := 9) (v := ?vpa0_9_9) rfl (by kernel_rfl) (by kernel_rfl) (by kernel_rfl) (fun _ _ _ h => h) (Or.inl ⟨by rfl, ?ypa0_9_9⟩) hHeld ?rpa0_9_9
          case ypa0_9_9 => (intro wq hSw; have hq := hce7.out _ hSw.1; clear hSw; go_simp; try with_reducible rfl)
          try simp only [List.getElem_toArray, List.getElem_cons_zero, List.getElem_cons_succ, Act.put, List.setIfInBounds_toArray, List.set_cons_zero, List.set_cons_succ]
          refine wpAnyH_take (i := 10) (v := ?vpa0_10_10) rfl (by kernel_rfl) (by kernel_rfl) (by kernel_rfl) (fun _ _ _ h => h) (Or.inl ⟨by rfl, ?ypa0_10_10⟩) hHeld ?rpa0_10_10
          case ypa0_10_10 => (intro wq hSw; clear hSw; go_simp; try with_reducible rfl)
          try simp only [List.getElem_toArray, List.getElem_cons_zero, List.getElem_cons_succ, Act.put, List.setIfInBounds_toArray, List.set_cons_zero, List.set_cons_succ]
          refine wpAnyH_take (i := 11) (v := ?vpa0_11_11) rfl (by kernel_rfl) (by kernel_rfl) (by kernel_rfl) (fun _ _ _ h => h) (Or.inl ⟨by rfl, ?ypa0_11_11⟩) hHeld ?rpa0_11_11
          case ypa0_11_11 => (intro wq hSw; have hq := hce8.out _ hSw.1; clear hSw; go_simp; try with_reducible rfl)
          try simp only [List.getElem_toArray, List.getElem_cons_zero, List.getElem_cons_succ, Act.put, List.setIfInBounds_toArray, List.set_cons_zero, List.set_cons_succ]
          refine wpAnyH_ready (rs := [2]) (by kernel_rfl) (by simp) ?_
          refine AllReadyH.cons rfl (fun K hK => ?_) AllReadyH.nil
          try simp only [List.getElem_toArray, List.getElem_cons_zero, List.getElem_cons_succ, Act.put, List.setIfInBounds_toArray, List.set_cons_zero, List.set_cons_succ]
          try rw [if_pos (by rfl)]
          go_simp
          refine (hbp.out _ hHeld.2.2).mono ?_
          rintro e1 w1 ⟨g, rfl, hge, hbd, hb1⟩
          go_wp2_with fail
          refine hK.out _ _ (⟨hHeld.1.below hb1, hHeld.2.1.below hb1 (Nat.le_refl _), hHeld.2.2.below hb1⟩) (fun hHeld => ?_)
          clear hK K
          try simp only [List.getElem_toArray, List.getElem_cons_zero, List.getElem_cons_succ, Act.put, List.setIfInBounds_toArray, List.set_cons_zero, List.set_cons_succ]
          refine wpAnyH_ready (rs := [12]) (by kernel_rfl) (by simp) ?_
          refine AllReadyH.cons rfl (fun K hK => ?_) AllReadyH.nil
          try simp only [List.getElem_toArray, List.getElem_cons_zero, List.getElem_cons_succ, Act.put, List.setIfInBounds_toArray, List.set_cons_zero, List.set_cons_succ]
          try rw [if_pos (by rfl)]
          go_simp
          refine (hdp.out g w1 (⟨#[45]⟩) ha fu ep 1 rfl hbd hHeld.2.1 hHeld.2.2).mono ?_
          rintro e2 w2 ⟨rfl, hps, hb2⟩
          go_wp2_with fail
          refine hK.out _ _ (⟨hHeld.1.below hb2, hHeld.2.1.below hb2 (Nat.le_refl _), hHeld.2.2.below hb2⟩) (fun hHeld => ?_)
          clear hK K
          try simp only [List.getElem_toArray, List.getElem_cons_zero, List.getElem_cons_succ, Act.put, List.setIfInBounds_toArray, List.set_cons_zero, List.set_cons_succ]
          refine wpAnyH_take (i := 13) (v := ?vpa0_12_13) rfl (by kernel_rfl) (by kernel_rfl) (by kernel_rfl) (fun _ _ _ h => h) (Or.inl ⟨by rfl, ?ypa0_12_13⟩) hHeld ?rpa0_12_13
          case ypa0_12_13 => (intro wq hSw; clear hSw; go_simp; try with_reducible rfl)
          try simp only [List.getElem_toArray, List.getElem_cons_zero, List.getElem_cons_succ, Act.put, List.setIfInBounds_toArray, List.set_cons_zero, List.set_cons_succ]
          refine wpAnyH_done (by kernel_rfl) ?_ _
          have hE := lay (hfin.out (⟨#[45]⟩) _ w1 w2 g (by rw [hcT.out, if_pos hcs.out]) hBr.out hge hbd hb1 hps hb2)
          clear hHeld hbd hb1 hps hb2 hge
          go_wp2_with fail
          go_ret
          exact ⟨_, rfl, hE.out⟩
        · have hcb : (casTo ca 4).toList.isEmpty = false := txt_some hc
          have hcs := lay hc
          clear hc
          go_wp2_with fail
          clear c64w c66 c67 c68 c65w
          refine wp_region_held_drew (S := fun w' : World => PosAt p w.heap.size w' ∧ Tabs w' ∧ IntSl w' 6 .i8 allL) (by kernel_rfl) ⟨hS0.out.1, hS0.out.2.1, hS0.out.2.2⟩ (fun hHeld => ?_)
          refine wpAnyH_take (i := 0) (v := ?vpb0_1_0) rfl (by kernel_rfl) (by kernel_rfl) (by kernel_rfl) (fun _ _ _ h => h) (Or.inl ⟨by rfl, ?ypb0_1_0⟩) hHeld ?rpb0_1_0
          case ypb0_1_0 => (intro wq hSw; clear hSw; go_simp; try with_reducible rfl)
          try simp only [List.getElem_toArray, List.getElem_cons_zero, List.getElem_cons_succ, Act.put, List.setIfInBounds_toArray, List.set_cons_zero, List.set_cons_succ]
          refine' wpAnyH_take (i := 1) (v := _) rfl (by kernel_rfl) (by kernel_rfl) (by kernel_rfl) (fun _ _ _ h => h) (yieldsIf_load_mid (by rfl) _ _ rfl _ _ rfl _ _ (fun _ h => range64 h.1) Tryd.underlying22 rfl hinf.out) hHeld ?_
          try simp only [List.getElem_toArray, List.getElem_cons_zero, List.getElem_cons_succ, Act.put, List.setIfInBounds_toArray, List.set_cons_zero, List.set_cons_succ]
          refine wpAnyH_take (i := 3) (v := ?vpb0_3_3) rfl (by kernel_rfl) (by kernel_rfl) (by kernel_rfl) (fun _ _ _ h => h) (Or.inl ⟨by rfl, ?ypb0_3_3⟩) hHeld ?rpb0_3_3
          case ypb0_3_3 => (intro wq hSw; clear hSw; go_simp; try with_reducible rfl)
          try simp only [List.getElem_toArray, List.getElem_cons_zero, List.getElem_cons_succ, Act.put, List.setIfInBounds_toArray, List.set_cons_zero, List.set_cons_succ]
          refine wpAnyH_take (i := 4) (v := ?vpb0_4_4) rfl (by kernel_rfl) (by kernel_rfl) (by kernel_rfl) (fun _ _ _ h => h) (Or.inl ⟨by rfl, ?ypb0_4_4⟩) hHeld ?rpb0_4_4
          case ypb0_4_4 => (intro wq hSw; clear hSw; go_simp; try with_reducible rfl)
          try simp only [List.getElem_toArray, List.getElem_cons_zero, List.getElem_cons_succ, Act.put, List.setIfInBounds_toArray, List.set_cons_zero, List.set_cons_succ]
          refine wpAnyH_take (i := 5) (v := ?vpb0_5_5) rfl (by kernel_rfl) (by kernel_rfl) (by kernel_rfl) (fun _ _ _ h => h) (Or.inl ⟨by rfl, ?ypb0_5_5⟩) hHeld ?rpb0_5_5
          case ypb0_5_5 => (intro wq hSw; clear hSw; go_simp; try with_reducible rfl)
          try simp only [List.getElem_toArray, List.getElem_cons_zero, List.getElem_cons_succ, Act.put, List.setIfInBounds_toArray, List.set_cons_zero, List.set_cons_succ]
          refine wpAnyH_take (i := 6) (v := ?vpb0_6_6) rfl (by kernel_rfl) (by kernel_rfl) (by kernel_rfl) (fun _ _ _ h => h) (Or.inl ⟨by rfl, ?ypb0_6_6⟩) hHeld ?rpb0_6_6
          case ypb0_6_6 => (intro wq hSw; have hq := hce6.out _ hSw.1; clear hSw; go_simp; try with_reducible rfl)
          try simp only [List.getElem_toArray, List.getElem_cons_zero, List.getElem_cons_succ, Act.put, List.setIfInBounds_toArray, List.set_cons_zero, List.set_cons_succ]
          refine wpAnyH_take (i := 7) (v := ?vpb0_7_7) rfl (by kernel_rfl) (by kernel_rfl) (by kernel_rfl) (fun _ _ _ h => h) (Or.inl ⟨by rfl, ?ypb0_7_7⟩) hHeld ?rpb0_7_7
          case ypb0_7_7 => (intro wq hSw; clear hSw; go_simp; try with_reducible rfl)
          try simp only [List.getElem_toArray, List.getElem_cons_zero, List.getElem_cons_succ, Act.put, List.setIfInBounds_toArray, List.set_cons_zero, List.set_cons_succ]
          refine wpAnyH_take (i := 8) (v := ?vpb0_8_8) rfl (by kernel_rfl) (by kernel_rfl) (by kernel_rfl) (fun _ _ _ h => h) (Or.inl ⟨by rfl, ?ypb0_8_8⟩) hHeld ?rpb0_8_8
          case ypb0_8_8 => (intro wq hSw; clear hSw; go_simp; try with_reducible rfl)
          try simp only [List.getElem_toArray, List.getElem_cons_zero, List.getElem_cons_succ, Act.put, List.setIfInBounds_toArray, List.set_cons_zero, List.set_cons_succ]
          refine wpAnyH_take (i := 9) (v := ?vpb0_9_9) rfl (by kernel_rfl) (by kernel_rfl) (by kernel_rfl) (fun _ _ _ h => h) (Or.inl ⟨by rfl, ?ypb0_9_9⟩) hHeld ?rpb0_9_9
          case ypb0_9_9 => (intro wq hSw; have hq := hce7.out _ hSw.1; clear hSw; go_simp; try with_reducible rfl)
          try simp only [List.getElem_toArray, List.getElem_cons_zero, List.getElem_cons_succ, Act.put, List.setIfInBounds_toArray, List.set_cons_zero, List.set_cons_succ]
          refine wpAnyH_take (i := 10) (v := ?vpb0_10_10) rfl (by kernel_rfl) (by kernel_rfl) (by kernel_rfl) (fun _ _ _ h => h) (Or.inl ⟨by rfl, ?ypb0_10_10⟩) hHeld ?rpb0_10_10
          case ypb0_10_10 => (intro wq hSw; clear hSw; go_simp; try with_reducible rfl)
          try simp only [List.getElem_toArray, List.getElem_cons_zero, List.getElem_cons_succ, Act.put, List.setIfInBounds_toArray, List.set_cons_zero, List.set_cons_succ]
          refine wpAnyH_take (i := 11) (v := ?vpb0_11_11) rfl (by kernel_rfl) (by kernel_rfl) (by kernel_rfl) (fun _ _ _ h => h) (Or.inl ⟨by rfl, ?ypb0_11_11⟩) hHeld ?rpb0_11_11
          case ypb0_11_11 => (intro wq hSw; have hq := hce8.out _ hSw.1; clear hSw; go_simp; try with_reducible rfl)
          try simp only [List.getElem_toArray, List.getElem_cons_zero, List.getElem_cons_succ, Act.put, List.setIfInBounds_toArray, List.set_cons_zero, List.set_cons_succ]
          refine wpAnyH_ready (rs := [2]) (by kernel_rfl) (by simp) ?_
          refine AllReadyH.cons rfl (fun K hK => ?_) AllReadyH.nil
          try simp only [List.getElem_toArray, List.getElem_cons_zero, List.getElem_cons_succ, Act.put, List.setIfInBounds_toArray, List.set_cons_zero, List.set_cons_succ]
          try rw [if_pos (by rfl)]
          go_simp
          refine (hbp.out _ hHeld.2.2).mono ?_
          rintro e1 w1 ⟨g, rfl, hge, hbd, hb1⟩
          go_wp2_with fail
          refine hK.out _ _ (⟨hHeld.1.below hb1, hHeld.2.1.below hb1 (Nat.le_refl _), hHeld.2.2.below hb1⟩) (fun hHeld => ?_)
          clear hK K
          try simp only [List.getElem_toArray, List.getElem_cons_zero, List.getElem_cons_succ, Act.put, List.setIfInBounds_toArray, List.set_cons_zero, List.set_cons_succ]
          refine wpAnyH_ready (rs := [12]) (by kernel_rfl) (by simp) ?_
          refine AllReadyH.cons rfl (fun K hK => ?_) AllReadyH.nil
          try simp only [List.getElem_toArray, List.getElem_cons_zero, List.getElem_cons_succ, Act.put, List.setIfInBounds_toArray, List.set_cons_zero, List.set_cons_succ]
          try rw [if_pos (by rfl)]
          go_simp
          refine (hdp.out g w1 (casTo ca 4) ha fu ep 1 rfl hbd hHeld.2.1 hHeld.2.2).mono ?_
          rintro e2 w2 ⟨rfl, hps, hb2⟩
          go_wp2_with fail
          refine hK.out _ _ (⟨hHeld.1.below hb2, hHeld.2.1.below hb2 (Nat.le_refl _), hHeld.2.2.below hb2⟩) (fun hHeld => ?_)
          clear hK K
          try simp only [List.getElem_toArray, List.getElem_cons_zero, List.getElem_cons_succ, Act.put, List.setIfInBounds_toArray, List.set_cons_zero, List.set_cons_succ]
          refine wpAnyH_take (i := 13) (v := ?vpb0_12_13) rfl (by kernel_rfl) (by kernel_rfl) (by kernel_rfl) (fun _ _ _ h => h) (Or.inl ⟨by rfl, ?ypb0_12_13⟩) hHeld ?rpb0_12_13
          case ypb0_12_13 => (intro wq hSw; clear hSw; go_simp; try with_reducible rfl)
          try simp only [List.getElem_toArray, List.getElem_cons_zero, List.getElem_cons_succ, Act.put, List.setIfInBounds_toArray, List.set_cons_zero, List.set_cons_succ]
          refine wpAnyH_done (by kernel_rfl) ?_ _
          have hE := lay (hfin.out (casTo ca 4) _ w1 w2 g (by rw [hcT.out, if_neg hcs.out]) hBr.out hge hbd hb1 hps hb2)
          clear hHeld hbd hb1 hps hb2 hge
          go_wp2_with fail
          go_ret
          exact ⟨_, rfl, hE.out⟩
  · go_wp2_with fail
    have hW1 : (W.alloc (.cells letC 9)).heap[W.heap.size]? = some (.cells letC 9 (0, 0)) := heap_alloc_new W _
    have hBl : Below W.heap.size W (W.alloc (.cells letC 9)) := (Below.refl W.heap.size W).alloc (Nat.le_refl _) _
    have hP1 : PosAt p w.heap.size (W.alloc (.cells letC 9)) := hr0.out.below hBl
    have hS0 := lay (show PosAt p w.heap.size (W.alloc (.cells letC 9)).drew ∧ Tabs (W.alloc (.cells letC 9)).drew ∧ IntSl (W.alloc (.cells letC 9)).drew 6 .i8 allL from ⟨hP1, hTs.out.below hBl.drew (Nat.le_refl _), hAs.out.below hBl.drew⟩)
    have hBr := lay (show Below w.heap.size w (W.alloc (.cells letC 9)).drew from hB0.out.trans (hBl.drew.mono hB0.out.size))
    have c65w := hcell.out _ hP1
    clear c65 hBl
    change Code.wp _ _ _ _ (W.alloc (.cells letC 9))
    generalize W.alloc (.cells letC 9) = W1 at *
    go_loopw [4, 12] (fun t i wr => ∃ k : Nat, k ≤ 4 ∧ i = .int .i64 (k : Int) ∧ t = .string (casTo ca k) ∧ wr = W1) (fun _ i _ => (4 - intOf i).toNat)
    case atStart => exact ⟨0, by omega, rfl, rfl, rfl⟩
    case round =>
      obtain ⟨k, hk, rfl, rfl, rfl⟩ := hrel
      have hlet : ∀ j : Nat, j < 4 → wr.cell? ⟨W.heap.size, j, none⟩ = some (.string (letB j)) := fun j hj => by
        rw [cell_of_row _ _ _ _ _ _ hW1]
        rcases (show j = 0 ∨ j = 1 ∨ j = 2 ∨ j = 3 by omega) with rfl | rfl | rfl | rfl <;> rfl
      by_cases hlt : k < 4
      · have hc := hlet k hlt
        have hcas := lay (show casTo ca (k + 1) = if ca / 2 ^ k % 2 = 1 then casTo ca k ++ letB k else casTo ca k from rfl)
        have hbit := cas_bit ca k hca0 hca1
        have hz1 := casTo_size ca k
        have hz2 := letB_size k
        have hls := lay hlet
        clear hlet
        by_cases hb : ca / 2 ^ k % 2 = 1
        · have hb1 : (bits .and .i64 (ca / 2 ^ k) 1 == 1) = true := by rw [hbit, hb]; rfl
          have hbs := lay hb
          clear hbit hb
          have hsz : ((casTo ca k).size : Int) + (letB k).size ≤ 9223372036854775807 := by omega
          go_wp2_with fail
          go_roundw
          case rel => exact ⟨k + 1, by omega, by go_num, by rw [hcas.out, if_pos hbs.out], trivial⟩
          case measure => simp [intOf]; omega
        · have hb1 : (bits .and .i64 (ca / 2 ^ k) 1 == 1) = false := by rw [hbit]; simpa using hb
          have hbs := lay hb
          clear hbit hb
          go_wp2_with fail
          go_roundw
          case rel => exact ⟨k + 1, by omega, by go_num, by rw [hcas.out, if_neg hbs.out], trivial⟩
          case measure => simp [intOf]; omega
      · obtain rfl : k = 4 := by omega
        have c64w := (PosAt.below (p := p) (w := wr) (w' := wr) hP1 (Below.refl _ _)).cell 64 (by omega)
        have c66 := hce6.out _ hP1
        have c67 := hce7.out _ hP1
        have c68 := hce8.out _ hP1
        rw [hss.out.turn] at c64w
        have b1 : decide (ca < 0) = false := decide_eq_false (by omega)
        have b2 : decide (15 < ca) = false := decide_eq_false (by omega)
        have b3 : decide (ep < -1) = false := decide_eq_false (by omega)
        have b4 : decide (63 < ep) = false := decide_eq_false (by omega)
        have b5 : decide (ha < 0) = false := decide_eq_false (by omega)
        have b6 : decide (fu < 0) = false := decide_eq_false (by omega)
        have hwep : IntKind.i8.wrap ep = ep := wrap_i8 ep (by omega) (by omega)
        clear hlet
        by_cases hc : casTo ca 4 = ByteArray.empty
        · have hcb : (casTo ca 4).toList.isEmpty = true := txt_empty hc
          have hcs := lay hc
          clear hc
          go_wp2_with fail
          clear c64w c66 c67 c68 c65w
          refine wp_region_held_drew (S := fun w' : World => PosAt p w.heap.size w' ∧ Tabs w' ∧ IntSl w' 6 .i8 allL) (by kernel_rfl) ⟨hS0.out.1, hS0.out.2.1, hS0.out.2.2⟩ (fun hHeld => ?_)
          refine wpAnyH_take (i := 0) (v := ?vpa1_1_0) rfl (by kernel_rfl) (by kernel_rfl) (by kernel_rfl) (fun _ _ _ h => h) (Or.inl ⟨by rfl, ?ypa1_1_0⟩) hHeld ?rpa1_1_0
          case ypa1_1_0 => (intro wq hSw; clear hSw; go_simp; try with_reducible rfl)
          try simp only [List.getElem_toArray, List.getElem_cons_zero, List.getElem_cons_succ, Act.put, List.setIfInBounds_toArray, List.set_cons_zero, List.set_cons_succ]
          refine' wpAnyH_take (i := 1) (v := _) rfl (by kernel_rfl) (by kernel_rfl) (by kernel_rfl) (fun _ _ _ h => h) (yieldsIf_load_mid (by rfl) _ _ rfl _ _ rfl _ _ (fun _ h => range64 h.1) Tryd.underlying22 rfl hinf.out) hHeld ?_
          try simp only [List.getElem_toArray, List.getElem_cons_zero, List.getElem_cons_succ, Act.put, List.setIfInBounds_toArray, List.set_cons_zero, List.set_cons_succ]
          refine wpAnyH_take (i := 3) (v := ?vpa1_3_3) rfl (by kernel_rfl) (by kernel_rfl) (by kernel_rfl) (fun _ _ _ h => h) (Or.inl ⟨by rfl, ?ypa1_3_3⟩) hHeld ?rpa1_3_3
          case ypa1_3_3 => (intro wq hSw; clear hSw; go_simp; try with_reducible rfl)
          try simp only [List.getElem_toArray, List.getElem_cons_zero, List.getElem_cons_succ, Act.put, List.setIfInBounds_toArray, List.set_cons_zero, List.set_cons_succ]
          refine wpAnyH_take (i := 4) (v := ?vpa1_4_4) rfl (by kernel_rfl) (by kernel_rfl) (by kernel_rfl) (fun _ _ _ h => h) (Or.inl ⟨by rfl, ?ypa1_4_4⟩) hHeld ?rpa1_4_4
          case ypa1_4_4 => (intro wq hSw; clear hSw; go_simp; try with_reducible rfl)
          try simp only [List.getElem_toArray, List.getElem_cons_zero, List.getElem_cons_succ, Act.put, List.setIfInBounds_toArray, List.set_cons_zero, List.set_cons_succ]
          refine wpAnyH_take (i := 5) (v := ?vpa1_5_5) rfl (by kernel_rfl) (by kernel_rfl) (by kernel_rfl) (fun _ _ _ h => h) (Or.inl ⟨by rfl, ?ypa1_5_5⟩) hHeld ?rpa1_5_5
          case ypa1_5_5 => (intro wq hSw; clear hSw; go_simp; try with_reducible rfl)
          try simp only [List.getElem_toArray, List.getElem_cons_zero, List.getElem_cons_succ, Act.put, List.setIfInBounds_toArray, List.set_cons_zero, List.set_cons_succ]
          refine wpAnyH_take (i := 6) (v := ?vpa1_6_6) rfl (by kernel_rfl) (by kernel_rfl) (by kernel_rfl) (fun _ _ _ h => h) (Or.inl ⟨by rfl, ?ypa1_6_6⟩) hHeld ?rpa1_6_6
          case ypa1_6_6 => (intro wq hSw; have hq := hce6.out _ hSw.1; clear hSw; go_simp; try with_reducible rfl)
          try simp only [List.getElem_toArray, List.getElem_cons_zero, List.getElem_cons_succ, Act.put, List.setIfInBounds_toArray, List.set_cons_zero, List.set_cons_succ]
          refine wpAnyH_take (i := 7) (v := ?vpa1_7_7) rfl (by kernel_rfl) (by kernel_rfl) (by kernel_rfl) (fun _ _ _ h => h) (Or.inl ⟨by rfl, ?ypa1_7_7⟩) hHeld ?rpa1_7_7
          case ypa1_7_7 => (intro wq hSw; clear hSw; go_simp; try with_reducible rfl)
          try simp only [List.getElem_toArray, List.getElem_cons_zero, List.getElem_cons_succ, Act.put, List.setIfInBounds_toArray, List.set_cons_zero, List.set_cons_succ]
          refine wpAnyH_take (i := 8) (v := ?vpa1_8_8) rfl (by kernel_rfl) (by kernel_rfl) (by kernel_rfl) (fun _ _ _ h => h) (Or.inl ⟨by rfl, ?ypa1_8_8⟩) hHeld ?rpa1_8_8
          case ypa1_8_8 => (intro wq hSw; clear hSw; go_simp; try with_reducible rfl)
          try simp only [List.getElem_toArray, List.getElem_cons_zero, List.getElem_cons_succ, Act.put, List.setIfInBounds_toArray, List.set_cons_zero, List.set_cons_succ]
          refine wpAnyH_take (i := 9) (v := ?vpa1_9_9) rfl (by kernel_rfl) (by kernel_rfl) (by kernel_rfl) (fun _ _ _ h => h) (Or.inl ⟨by rfl, ?ypa1_9_9⟩) hHeld ?rpa1_9_9
          case ypa1_9_9 => (intro wq hSw; have hq := hce7.out _ hSw.1; clear hSw; go_simp; try with_reducible rfl)
          try simp only [List.getElem_toArray, List.getElem_cons_zero, List.getElem_cons_succ, Act.put, List.setIfInBounds_toArray, List.set_cons_zero, List.set_cons_succ]
          refine wpAnyH_take (i := 10) (v := ?vpa1_10_10) rfl (by kernel_rfl) (by kernel_rfl) (by kernel_rfl) (fun _ _ _ h => h) (Or.inl ⟨by rfl, ?ypa1_10_10⟩) hHeld ?rpa1_10_10
          case ypa1_10_10 => (intro wq hSw; clear hSw; go_simp; try with_reducible rfl)
          try simp only [List.getElem_toArray, List.getElem_cons_zero, List.getElem_cons_succ, Act.put, List.setIfInBounds_toArray, List.set_cons_zero, List.set_cons_succ]
          refine wpAnyH_take (i := 11) (v := ?vpa1_11_11) rfl (by kernel_rfl) (by kernel_rfl) (by kernel_rfl) (fun _ _ _ h => h) (Or.inl ⟨by rfl, ?ypa1_11_11⟩) hHeld ?rpa1_11_11
          case ypa1_11_11 => (intro wq hSw; have hq := hce8.out _ hSw.1; clear hSw; go_simp; try with_reducible rfl)
          try simp only [List.getElem_toArray, List.getElem_cons_zero, List.getElem_cons_succ, Act.put, List.setIfInBounds_toArray, List.set_cons_zero, List.set_cons_succ]
          refine wpAnyH_ready (rs := [2]) (by kernel_rfl) (by simp) ?_
          refine AllReadyH.cons rfl (fun K hK => ?_) AllReadyH.nil
          try simp only [List.getElem_toArray, List.getElem_cons_zero, List.getElem_cons_succ, Act.put, List.setIfInBounds_toArray, List.set_cons_zero, List.set_cons_succ]
          try rw [if_pos (by rfl)]
          go_simp
          refine (hbp.out _ hHeld.2.2).mono ?_
          rintro e1 w1 ⟨g, rfl, hge, hbd, hb1⟩
          go_wp2_with fail
          refine hK.out _ _ (⟨hHeld.1.below hb1, hHeld.2.1.below hb1 (Nat.le_refl _), hHeld.2.2.below hb1⟩) (fun hHeld => ?_)
          clear hK K
          try simp only [List.getElem_toArray, List.getElem_cons_zero, List.getElem_cons_succ, Act.put, List.setIfInBounds_toArray, List.set_cons_zero, List.set_cons_succ]
          refine wpAnyH_ready (rs := [12]) (by kernel_rfl) (by simp) ?_
          refine AllReadyH.cons rfl (fun K hK => ?_) AllReadyH.nil
          try simp only [List.getElem_toArray, List.getElem_cons_zero, List.getElem_cons_succ, Act.put, List.setIfInBounds_toArray, List.set_cons_zero, List.set_cons_succ]
          try rw [if_pos (by rfl)]
          go_simp
          refine (hdp.out g w1 (⟨#[45]⟩) ha fu ep 2 rfl hbd hHeld.2.1 hHeld.2.2).mono ?_
          rintro e2 w2 ⟨rfl, hps, hb2⟩
          go_wp2_with fail
          refine hK.out _ _ (⟨hHeld.1.below hb2, hHeld.2.1.below hb2 (Nat.le_refl _), hHeld.2.2.below hb2⟩) (fun hHeld => ?_)
          clear hK K
          try simp only [List.getElem_toArray, List.getElem_cons_zero, List.getElem_cons_succ, Act.put, List.setIfInBounds_toArray, List.set_cons_zero, List.set_cons_succ]
          refine wpAnyH_take (i := 13) (v := ?vpa1_12_13) rfl (by kernel_rfl) (by kernel_rfl) (by kernel_rfl) (fun _ _ _ h => h) (Or.inl ⟨by rfl, ?ypa1_12_13⟩) hHeld ?rpa1_12_13
          case ypa1_12_13 => (intro wq hSw; clear hSw; go_simp; try with_reducible rfl)
          try simp only [List.getElem_toArray, List.getElem_cons_zero, List.getElem_cons_succ, Act.put, List.setIfInBounds_toArray, List.set_cons_zero, List.set_cons_succ]
          refine wpAnyH_done (by kernel_rfl) ?_ _
          have hE := lay (hfin.out (⟨#[45]⟩) _ w1 w2 g (by rw [hcT.out, if_pos hcs.out]) hBr.out hge hbd hb1 hps hb2)
          clear hHeld hbd hb1 hps hb2 hge
          go_wp2_with fail
          go_ret
          exact ⟨_, rfl, hE.out⟩
        · have hcb : (casTo ca 4).toList.isEmpty = false := txt_some hc
          have hcs := lay hc
          clear hc
          go_wp2_with fail
          clear c64w c66 c67 c68 c65w
          refine wp_region_held_drew (S := fun w' : World => PosAt p w.heap.size w' ∧ Tabs w' ∧ IntSl w' 6 .i8 allL) (by kernel_rfl) ⟨hS0.out.1, hS0.out.2.1, hS0.out.2.2⟩ (fun hHeld => ?_)
          refine wpAnyH_take (i := 0) (v := ?vpb1_1_0) rfl (by kernel_rfl) (by kernel_rfl) (by kernel_rfl) (fun _ _ _ h => h) (Or.inl ⟨by rfl, ?ypb1_1_0⟩) hHeld ?rpb1_1_0
          case ypb1_1_0 => (intro wq hSw; clear hSw; go_simp; try with_reducible rfl)
          try simp only [List.getElem_toArray, List.getElem_cons_zero, List.getElem_cons_succ, Act.put, List.setIfInBounds_toArray, List.set_cons_zero, List.set_cons_succ]
          refine' wpAnyH_take (i := 1) (v := _) rfl (by kernel_rfl) (by kernel_rfl) (by kernel_rfl) (fun _ _ _ h => h) (yieldsIf_load_mid (by rfl) _ _ rfl _ _ rfl _ _ (fun _ h => range64 h.1) Tryd.underlying22 rfl hinf.out) hHeld ?_
          try simp only [List.getElem_toArray, List.getElem_cons_zero, List.getElem_cons_succ, Act.put, List.setIfInBounds_toArray, List.set_cons_zero, List.set_cons_succ]
          refine wpAnyH_take (i := 3) (v := ?vpb1_3_3) rfl (by kernel_rfl) (by kernel_rfl) (by kernel_rfl) (fun _ _ _ h => h) (Or.inl ⟨by rfl, ?ypb1_3_3⟩) hHeld ?rpb1_3_3
          case ypb1_3_3 => (intro wq hSw; clear hSw; go_simp; try with_reducible rfl)
          try simp only [List.getElem_toArray, List.getElem_cons_zero, List.getElem_cons_succ, Act.put, List.setIfInBounds_toArray, List.set_cons_zero, List.set_cons_succ]
          refine wpAnyH_take (i := 4) (v := ?vpb1_4_4) rfl (by kernel_rfl) (by kernel_rfl) (by kernel_rfl) (fun _ _ _ h => h) (Or.inl ⟨by rfl, ?ypb1_4_4⟩) hHeld ?rpb1_4_4
          case ypb1_4_4 => (intro wq hSw; clear hSw; go_simp; try with_reducible rfl)
          try simp only [List.getElem_toArray, List.getElem_cons_zero, List.getElem_cons_succ, Act.put, List.setIfInBounds_toArray, List.set_cons_zero, List.set_cons_succ]
          refine wpAnyH_take (i := 5) (v := ?vpb1_5_5) rfl (by kernel_rfl) (by kernel_rfl) (by kernel_rfl) (fun _ _ _ h => h) (Or.inl ⟨by rfl, ?ypb1_5_5⟩) hHeld ?rpb1_5_5
          case ypb1_5_5 => (intro wq hSw; clear hSw; go_simp; try with_reducible rfl)
          try simp only [List.getElem_toArray, List.getElem_cons_zero, List.getElem_cons_succ, Act.put, List.setIfInBounds_toArray, List.set_cons_zero, List.set_cons_succ]
          refine wpAnyH_take (i := 6) (v := ?vpb1_6_6) rfl (by kernel_rfl) (by kernel_rfl) (by kernel_rfl) (fun _ _ _ h => h) (Or.inl ⟨by rfl, ?ypb1_6_6⟩) hHeld ?rpb1_6_6
          case ypb1_6_6 => (intro wq hSw; have hq := hce6.out _ hSw.1; clear hSw; go_simp; try with_reducible rfl)
          try simp only [List.getElem_toArray, List.getElem_cons_zero, List.getElem_cons_succ, Act.put, List.setIfInBounds_toArray, List.set_cons_zero, List.set_cons_succ]
          refine wpAnyH_take (i := 7) (v := ?vpb1_7_7) rfl (by kernel_rfl) (by kernel_rfl) (by kernel_rfl) (fun _ _ _ h => h) (Or.inl ⟨by rfl, ?ypb1_7_7⟩) hHeld ?rpb1_7_7
          case ypb1_7_7 => (intro wq hSw; clear hSw; go_simp; try with_reducible rfl)
          try simp only [List.getElem_toArray, List.getElem_cons_zero, List.getElem_cons_succ, Act.put, List.setIfInBounds_toArray, List.set_cons_zero, List.set_cons_succ]
          refine wpAnyH_take (i := 8) (v := ?vpb1_8_8) rfl (by kernel_rfl) (by kernel_rfl) (by kernel_rfl) (fun _ _ _ h => h) (Or.inl ⟨by rfl, ?ypb1_8_8⟩) hHeld ?rpb1_8_8
          case ypb1_8_8 => (intro wq hSw; clear hSw; go_simp; try with_reducible rfl)
          try simp only [List.getElem_toArray, List.getElem_cons_zero, List.getElem_cons_succ, Act.put, List.setIfInBounds_toArray, List.set_cons_zero, List.set_cons_succ]
          refine wpAnyH_take (i := 9) (v := ?vpb1_9_9) rfl (by kernel_rfl) (by kernel_rfl) (by kernel_rfl) (fun _ _ _ h => h) (Or.inl ⟨by rfl, ?ypb1_9_9⟩) hHeld ?rpb1_9_9
          case ypb1_9_9 => (intro wq hSw; have hq := hce7.out _ hSw.1; clear hSw; go_simp; try with_reducible rfl)
          try simp only [List.getElem_toArray, List.getElem_cons_zero, List.getElem_cons_succ, Act.put, List.setIfInBounds_toArray, List.set_cons_zero, List.set_cons_succ]
          refine wpAnyH_take (i := 10) (v := ?vpb1_10_10) rfl (by kernel_rfl) (by kernel_rfl) (by kernel_rfl) (fun _ _ _ h => h) (Or.inl ⟨by rfl, ?ypb1_10_10⟩) hHeld ?rpb1_10_10
          case ypb1_10_10 => (intro wq hSw; clear hSw; go_simp; try with_reducible rfl)
          try simp only [List.getElem_toArray, List.getElem_cons_zero, List.getElem_cons_succ, Act.put, List.setIfInBounds_toArray, List.set_cons_zero, List.set_cons_succ]
          refine wpAnyH_take (i := 11) (v := ?vpb1_11_11) rfl (by kernel_rfl) (by kernel_rfl) (by kernel_rfl) (fun _ _ _ h => h) (Or.inl ⟨by rfl, ?ypb1_11_11⟩) hHeld ?rpb1_11_11
          case ypb1_11_11 => (intro wq hSw; have hq := hce8.out _ hSw.1; clear hSw; go_simp; try with_reducible rfl)
          try simp only [List.getElem_toArray, List.getElem_cons_zero, List.getElem_cons_succ, Act.put, List.setIfInBounds_toArray, List.set_cons_zero, List.set_cons_succ]
          refine wpAnyH_ready (rs := [2]) (by kernel_rfl) (by simp) ?_
          refine AllReadyH.cons rfl (fun K hK => ?_) AllReadyH.nil
          try simp only [List.getElem_toArray, List.getElem_cons_zero, List.getElem_cons_succ, Act.put, List.setIfInBounds_toArray, List.set_cons_zero, List.set_cons_succ]
          try rw [if_pos (by rfl)]
          go_simp
          refine (hbp.out _ hHeld.2.2).mono ?_
          rintro e1 w1 ⟨g, rfl, hge, hbd, hb1⟩
          go_wp2_with fail
          refine hK.out _ _ (⟨hHeld.1.below hb1, hHeld.2.1.below hb1 (Nat.le_refl _), hHeld.2.2.below hb1⟩) (fun hHeld => ?_)
          clear hK K
          try simp only [List.getElem_toArray, List.getElem_cons_zero, List.getElem_cons_succ, Act.put, List.setIfInBounds_toArray, List.set_cons_zero, List.set_cons_succ]
          refine wpAnyH_ready (rs := [12]) (by kernel_rfl) (by simp) ?_
          refine AllReadyH.cons rfl (fun K hK => ?_) AllReadyH.nil
          try simp only [List.getElem_toArray, List.getElem_cons_zero, List.getElem_cons_succ, Act.put, List.setIfInBounds_toArray, List.set_cons_zero, List.set_cons_succ]
          try rw [if_pos (by rfl)]
          go_simp
          refine (hdp.out g w1 (casTo ca 4) ha fu ep 2 rfl hbd hHeld.2.1 hHeld.2.2).mono ?_
          rintro e2 w2 ⟨rfl, hps, hb2⟩
          go_wp2_with fail
          refine hK.out _ _ (⟨hHeld.1.below hb2, hHeld.2.1.below hb2 (Nat.le_refl _), hHeld.2.2.below hb2⟩) (fun hHeld => ?_)
          clear hK K
          try simp only [List.getElem_toArray, List.getElem_cons_zero, List.getElem_cons_succ, Act.put, List.setIfInBounds_toArray, List.set_cons_zero, List.set_cons_succ]
          refine wpAnyH_take (i := 13) (v := ?vpb1_12_13) rfl (by kernel_rfl) (by kernel_rfl) (by kernel_rfl) (fun _ _ _ h => h) (Or.inl ⟨by rfl, ?ypb1_12_13⟩) hHeld ?rpb1_12_13
          case ypb1_12_13 => (intro wq hSw; clear hSw; go_simp; try with_reducible rfl)
          try simp only [List.getElem_toArray, List.getElem_cons_zero, List.getElem_cons_succ, Act.put, List.setIfInBounds_toArray, List.set_cons_zero, List.set_cons_succ]
          refine wpAnyH_done (by kernel_rfl) ?_ _
          have hE := lay (hfin.out (casTo ca 4) _ w1 w2 g (by rw [hcT.out, if_neg hcs.out]) hBr.out hge hbd hb1 hps hb2)
          clear hHeld hbd hb1 hps hb2 hge
          go_wp2_with fail
          go_ret
          exact ⟨_, rfl, hE.out⟩
end Go.Proofs.YtplkcmlpomjojaaDoor
