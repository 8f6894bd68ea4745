/- spec.Pseudo: the moves that are legal but for leaving the king in check. For every position of pieces from 0 to 12. (Printed by gen_ps.py.) -/
import Derived.Test.YtplkcmlpomjojaaDoorCs
import Derived.Test.YtplkcmlpomjojaaDoorSt
namespace Go.Proofs.YtplkcmlpomjojaaDoor
open Go Go.RowKit
set_option maxHeartbeats 8000000
set_option linter.unusedSimpArgs false
set_option linter.unusedVariables false
set_option maxRecDepth 100000

def promos (f to : Int) : Nat → List Mv
  | 0 => []
  | n + 1 => promos f to n ++ [⟨f, to, (n : Int) + 2⟩]
/-- The moves from f to one square. -/
def pmOf (p : List Int) (f to : Int) : List Mv :=
  if pcAt p to ≠ 0 ∧ sideOf (pcAt p to) = p.getD 64 0 then []
  else if kindOf (pcAt p f) ≠ 6 ∨ to / 8 ≠ 7 - 7 * p.getD 64 0 then [⟨f, to, 0⟩] else promos f to 4
def sqL (p : List Int) (f : Int) : List Int := if kindOf (pcAt p f) = 6 then stepL p f else reach p f
def pmTo (p : List Int) (f : Int) (L : List Int) : Nat → List Mv
  | 0 => []
  | n + 1 => pmTo p f L n ++ pmOf p f (L.getD n 0)
def pseudoOf (p : List Int) (f : Int) : List Mv := if pcAt p f = 0 ∨ sideOf (pcAt p f) ≠ p.getD 64 0 then [] else pmTo p f (sqL p f) (sqL p f).length
def pseudoTo (p : List Int) : Nat → List Mv
  | 0 => []
  | n + 1 => pseudoTo p n ++ pseudoOf p (n : Int)
/-- The moves that are legal but for leaving the king in check, in one order. -/
def pseudoL (p : List Int) : List Mv := pseudoTo p 64 ++ castL p
theorem promos_len (f to : Int) : ∀ n, (promos f to n).length = n
  | 0 => rfl
  | n + 1 => by rw [promos, List.length_append, promos_len f to n]; rfl
theorem pmOf_le (p : List Int) (f to : Int) : (pmOf p f to).length ≤ 4 := by
  unfold pmOf
  split
  · simp
  · split
    · simp
    · rw [promos_len]; omega
theorem pmTo_le (p : List Int) (f : Int) (L : List Int) : ∀ n, (pmTo p f L n).length ≤ 4 * n
  | 0 => by simp [pmTo]
  | n + 1 => by
    have h1 := pmTo_le p f L n
    have h2 := pmOf_le p f (L.getD n 0)
    rw [pmTo, List.length_append]
    omega
theorem stepL_le (p : List Int) (s : Int) : (stepL p s).length ≤ 4 := by
  have h1 := fwd_le p s (sideOf (pcAt p s))
  have h2 := List.length_filter_le (takeOk p (sideOf (pcAt p s))) (hitL s (sideOf (pcAt p s)))
  have h3 := hitTo_le s (sideOf (pcAt p s)) 2
  change (hitL s (sideOf (pcAt p s))).length ≤ 2 at h3
  unfold stepL
  rw [List.length_append]
  omega
theorem sqL_le (p : List Int) (f : Int) : (sqL p f).length ≤ 56 := by
  unfold sqL
  split
  · have := stepL_le p f; omega
  · exact reach_le p f
theorem pseudoOf_le (p : List Int) (f : Int) : (pseudoOf p f).length ≤ 224 := by
  unfold pseudoOf
  split
  · simp
  · have h1 := pmTo_le p f (sqL p f) (sqL p f).length
    have h2 := sqL_le p f
    omega
theorem pseudoTo_le (p : List Int) : ∀ n, (pseudoTo p n).length ≤ 224 * n
  | 0 => by simp [pseudoTo]
  | n + 1 => by
    have h1 := pseudoTo_le p n
    have h2 := pseudoOf_le p (n : Int)
    rw [pseudoTo, List.length_append]
    omega
theorem stepL_range (p : List Int) (s : Int) (s0 : 0 ≤ s) (s1 : s ≤ 63) : ∀ t ∈ stepL p s, 0 ≤ t ∧ t ≤ 63 := by
  intro t ht
  unfold stepL at ht
  rw [List.mem_append] at ht
  rcases ht with h | h
  · unfold fwdL at h
    have hc : sideOf (pcAt p s) = 0 ∨ sideOf (pcAt p s) = 1 := by unfold sideOf; split <;> omega
    by_cases c1 : 0 ≤ atSq (s % 8) (s / 8 + upOf (sideOf (pcAt p s))) ∧ pcAt p (atSq (s % 8) (s / 8 + upOf (sideOf (pcAt p s)))) = 0
    · rw [if_pos c1] at h
      have r1 := atSq_range (s % 8) (s / 8 + upOf (sideOf (pcAt p s)))
      by_cases c2 : s / 8 = 1 + 5 * sideOf (pcAt p s) ∧ pcAt p (atSq (s % 8) (s / 8 + 2 * upOf (sideOf (pcAt p s)))) = 0
      · rw [if_pos c2] at h
        have r2 := atSq_range (s % 8) (s / 8 + 2 * upOf (sideOf (pcAt p s)))
        have r3 : 0 ≤ atSq (s % 8) (s / 8 + 2 * upOf (sideOf (pcAt p s))) := by
          unfold atSq upOf
          rw [if_neg (by omega)]
          omega
        simp only [List.mem_cons, List.not_mem_nil, or_false] at h
        rcases h with rfl | rfl <;> omega
      · rw [if_neg c2] at h
        simp only [List.mem_cons, List.not_mem_nil, or_false] at h
        subst h
        omega
    · rw [if_neg c1] at h
      cases h
  · exact hitL_range _ _ t ((List.mem_filter.1 h).1)
theorem sqL_range (p : List Int) (f : Int) (f0 : 0 ≤ f) (f1 : f ≤ 63) : ∀ t ∈ sqL p f, 0 ≤ t ∧ t ≤ 63 := by
  unfold sqL
  split
  · exact stepL_range p f f0 f1
  · exact reach_range p f
/-- The squares of a list lie in a block that is not that of the list l. -/
def SqAt (a : Option Addr) (L : List Int) (l : Value) (w : World) : Prop := ∀ i, i < L.length → ∃ g, a = some ⟨g, 0, none⟩ ∧ g < w.heap.size ∧ w.cell? ⟨g, i, none⟩ = some (.int .i64 (L.getD i 0)) ∧ l.ownBlock ≠ some g
theorem SqAt.drewN {a : Option Addr} {L : List Int} {l : Value} {w : World} (h : SqAt a L l w) (n : Nat) : SqAt a L l (w.drewN n) := h
theorem SqAt.next {a : Option Addr} {L : List Int} {l l' : Value} {w w' : World} (h : SqAt a L l w) (hs : w.heap.size ≤ w'.heap.size) (hk : ∀ g, g < w.heap.size → l.ownBlock ≠ some g → w'.heap[g]? = w.heap[g]?) (ha : ∀ g, g < w.heap.size → l.ownBlock ≠ some g → l'.ownBlock ≠ some g) : SqAt a L l' w' := fun i hi => by
  obtain ⟨g, h1, h2, h3, h4⟩ := h i hi
  exact ⟨g, h1, by omega, (World.cell?_of_block (a := ⟨g, i, none⟩) (hk g h2 h4)).trans h3, ha g h2 h4⟩
theorem own_drewN {w : World} {base : Nat} {v : Value} {l : List Mv} (h : ownMvs w base v l) (n : Nat) : ownMvs (w.drewN n) base v l := h
theorem ps_pseudo (p : List Int) (hp : Pos p) (tn : Nat) (hT : p.getD 64 0 = (tn : Int)) (ht : tn ≤ 1) (hc0 : 0 ≤ p.getD 65 0) (hc1 : p.getD 65 0 ≤ 15) (hep : -1 ≤ p.getD 66 0 ∧ p.getD 66 0 ≤ 63) (w : World) :
    Calls Tryd.prog 30 #[.agg (ints p)] w fun e w' => ∃ v l', e = .returned v ∧ l'.Perm (pseudoL p) ∧ ownMvs w' w.heap.size v l' ∧ Below w.heap.size w w' := by
  obtain ⟨i0, hi, hz0, hz1, hz2⟩ := info_parts mv_info
  have hlp := hp.len
  have hrow : PosAt p w.heap.size (w.alloc (.cells (ints p) 24)) := heap_alloc_new w (.cells (ints p) 24)
  have hBW : Below w.heap.size w (w.alloc (.cells (ints p) 24)) := (Below.refl _ _).alloc (Nat.le_refl _) _
  have h64 := show Shut (∀ W : World, PosAt p w.heap.size W → W.cell? ⟨w.heap.size, 64, none⟩ = some (.int .i64 (tn : Int))) from fun W h => (h.cell 64 (by omega)).trans (by rw [hT])
  have hcl := show Shut (∀ (W : World) (i : Int), PosAt p w.heap.size W → 0 ≤ i → i ≤ 63 → W.cell? ⟨w.heap.size, i.toNat, none⟩ = some (.int .i64 (pcAt p i))) from fun W i h h0 h1 => row_cell h i.toNat (by omega)
  have hpr := show Shut (∀ i : Int, 0 ≤ i → i ≤ 63 → 0 ≤ pcAt p i ∧ pcAt p i ≤ 12) from fun i h0 h1 => ⟨hp.lo _ (by omega), hp.hi _ (by omega)⟩
  have hSt := show Shut (∀ s : Int, 0 ≤ s → s ≤ 63 → ∀ W : World, Calls Tryd.prog 42 #[.agg (ints p), .int .i64 s] W fun e w' => ∃ v, e = .returned v ∧ ownInts w' W.heap.size v (stepL p s) ∧ Below W.heap.size W w') from fun s h0 h1 W => st_steps p hp s h0 h1 hep W
  have hRe := show Shut (∀ s : Int, 0 ≤ s → s ≤ 63 → ∀ W : World, Calls Tryd.prog 43 #[.agg (ints p), .int .i64 s] W fun e w' => ∃ v, e = .returned v ∧ ownInts w' W.heap.size v (reach p s) ∧ Below W.heap.size W w') from fun s h0 h1 W => re_reach0 p s W hp.len (by have := hp.hi s.toNat (by omega); unfold pcAt; omega) h0 h1
  have hCs := show Shut (∀ W : World, Calls Tryd.prog 45 #[.agg (ints p)] W fun e w' => ∃ v, e = .returned v ∧ ownMvs w' W.heap.size v (castL p) ∧ Below W.heap.size W w') from fun W => cs_castles p hp tn hT ht hc0 hc1 W
  have hPm := show Shut (∀ f to, pmOf p f to = if pcAt p to ≠ 0 ∧ sideOf (pcAt p to) = (tn : Int) then [] else if kindOf (pcAt p f) ≠ 6 ∨ to / 8 ≠ 7 - 7 * (tn : Int) then [⟨f, to, 0⟩] else promos f to 4) from fun f to => by unfold pmOf; rw [hT]
  have hOf := show Shut (∀ f, pseudoOf p f = if pcAt p f = 0 ∨ sideOf (pcAt p f) ≠ (tn : Int) then [] else pmTo p f (sqL p f) (sqL p f).length) from fun f => by unfold pseudoOf; rw [hT]
  have hcle := castTo_le p (p.getD 64 0).toNat 2
  change (castL p).length ≤ 2 at hcle
  clear hT
  go_enter Tryd.func30, Tryd.ntmps30
  go_upto_region 1 with (fail)
  generalize w.alloc (.cells (ints p) 24) = W at *
  go_wp2_with fail
  go_loopw [3, 4] (fun l i wr => ∃ n : Nat, n ≤ 64 ∧ i = .int .i64 (n : Int) ∧ PosAt p w.heap.size wr ∧ ownMvs wr (w.heap.size + 1) l (pseudoTo p n) ∧ Below w.heap.size w wr) (fun _ i _ => (64 - intOf i).toNat)
  case atStart => exact ⟨0, by omega, rfl, hrow, World.ownsRow_nil _ _ _ _, hBW⟩
  case round =>
    clear hrow hBW
    obtain ⟨n, hn, rfl, hrow, hown, hB⟩ := hrel
    by_cases hlt : n < 64
    · have hst := show Shut (pseudoTo p (n + 1) = pseudoTo p n ++ pseudoOf p (n : Int)) from rfl
      have hle := pseudoTo_le p n
      have ct := h64.out wr hrow
      have cx := hcl.out wr (n : Int) hrow (by omega) (by omega)
      rw [Int.toNat_natCast] at cx
      obtain ⟨x0, x1⟩ := hpr.out (n : Int) (by omega) (by omega)
      have hof := hOf.out (n : Int)
      have hsql : sqL p (n : Int) = if kindOf (pcAt p (n : Int)) = 6 then stepL p (n : Int) else reach p (n : Int) := rfl
      have hsqr := sqL_range p (n : Int) (by omega) (by omega)
      have hsqle := sqL_le p (n : Int)
      have hpm := hPm.out (n : Int)
      generalize hxe : pcAt p (n : Int) = x at *
      generalize hbs0 : pseudoTo p n = bs at *
      have hids := show Shut _ from And.intro hof (And.intro hsql (And.intro hsqr (And.intro hpm (And.intro hbs0 hle))))
      clear hof hsql hsqr hpm hbs0 hle hxe
      have hownS := show Shut _ from And.intro hown hB
      clear hown hB
      by_cases hx0 : x = 0
      · subst hx0
        have hE : pseudoOf p (n : Int) = [] := by rw [hids.out.1, if_pos (Or.inl rfl)]
        have hEs := show Shut _ from hE
        clear hE
        go_wp2_with fail
        go_quiet (fail)
        go_wp2_with fail
        go_roundw
        case rel => exact ⟨n + 1, by omega, by go_num, hrow, by rw [hst.out, hEs.out, List.append_nil]; exact hownS.out.1, below_drewN hownS.out.2 _⟩
        case measure => simp [intOf]; omega
      have hx1 : (x == 0) = false := by simpa using hx0
      have hx0s := show Shut _ from hx0
      clear hx0
      by_cases hs : sideOf x = (tn : Int)
      · have hsb : (sideOf x != (tn : Int)) = false := by simpa using hs
        have hss := show Shut _ from hs
        clear hs
        by_cases k6 : kindOf x = 6
        · skip
          have k6b : (kindOf x == 6) = true := by simpa using k6
          have k6c : (kindOf x != 6) = false := by simpa using k6
          have k6s := show Shut _ from k6
          have hLd : sqL p (n : Int) = stepL p (n : Int) := by rw [hids.out.2.1, if_pos k6]
          clear k6
          go_wp2_with fail
          go_quiet (first | (go_at_call 14; refine quiet' (hi_side _ _ (by omega))))
          have hrowW : PosAt p w.heap.size (wr.drewN nq) := hrow
          have huW : (wr.drewN nq).heap[w.heap.size]? = some (.cells (ints p) 24 (0, 0)) := hrow
          have hownW := own_drewN hownS.out.1 nq
          have hBW := below_drewN hownS.out.2 nq
          clear ct cx hrow
          generalize wr.drewN nq = W1 at *
          go_wp2_with (first
            | (go_at_call 24; refine (po_kindOf _ _ (by omega)).mono ?_; rintro e1 w1 ⟨rfl, rfl⟩)
            | ((with_reducible refine at_load_row huW Tryd.underlying24 rfl ?_ ?_ ?_); (rw [ints_size, hlp]; kernel_rfl); rfl))
          refine (hSt.out (n : Int) (by omega) (by omega) _).mono ?_
          rintro e2 w2 ⟨v2, rfl, hown2, hb2⟩
          rw [← hLd] at hown2
          have hsqr := show Shut _ from hids.out.2.2.1
          have hE0 : pseudoOf p (n : Int) = pmTo p (n : Int) (sqL p (n : Int)) (sqL p (n : Int)).length := by rw [hids.out.1, if_neg (by intro h; rcases h with h | h; exact hx0s.out h; exact h hss.out)]
          have hEs0 := show Shut _ from hE0
          clear hE0 hLd
          generalize sqL p (n : Int) = L at *
          have hszW := hownS.out.2.size
          have hlt3 : ∀ g, u3.ownBlock = some g → g < W1.heap.size := fun g hg => (hownW.lt g hg).2
          obtain ⟨a2, cap2, rfl, hcells⟩ := ints_slice hown2
          have hsq0 : SqAt a2 L u3 w2 := fun i hi => by
            obtain ⟨g, h1, h2, h3, h4⟩ := hcells i hi
            exact ⟨g, h1, h3, h4, fun e => by have := hlt3 g e; omega⟩
          have hS2 := show Shut _ from And.intro (hrowW.below hb2) (And.intro (own_next hownW hb2) (And.intro (hBW.trans (hb2.mono hBW.size)) hsq0))
          clear hcells hsq0 hlt3 hown2 hb2 hrowW hownW hBW huW hszW
          go_wp2_with fail
          go_loopw [3, 7] (fun l i wr3 => ∃ k : Nat, k ≤ L.length ∧ i = .int .i64 (k : Int) ∧ PosAt p w.heap.size wr3 ∧ ownMvs wr3 (w.heap.size + 1) l (bs ++ pmTo p (n : Int) L k) ∧ Below w.heap.size w wr3 ∧ SqAt a2 L l wr3) (fun _ i _ => L.length - (intOf i).toNat)
          case atStart => exact ⟨0, by omega, rfl, hS2.out.1, by simpa [pmTo] using hS2.out.2.1, hS2.out.2.2.1, hS2.out.2.2.2⟩
          case round =>
            clear hS2
            obtain ⟨k, hk, rfl, hrow, hown, hB, hsq⟩ := hrel
            by_cases hltk : k < L.length
            · obtain ⟨g2, rfl, hg2, hck, hng⟩ := hsq k hltk
              have hpst := show Shut (pmTo p (n : Int) L (k + 1) = pmTo p (n : Int) L k ++ pmOf p (n : Int) (L.getD k 0)) from rfl
              have hple := pmTo_le p (n : Int) L k
              obtain ⟨to0, to1⟩ := hsqr.out (L.getD k 0) (by simp [hltk])
              have hpm := hids.out.2.2.2.1 (L.getD k 0)
              generalize hq : L.getD k 0 = to at *
              have hqs := show Shut _ from hq
              clear hq
              have ct := h64.out wr hrow
              have cy := hcl.out wr to hrow to0 to1
              obtain ⟨y0, y1⟩ := hpr.out to to0 to1
              generalize pmTo p (n : Int) L k = ms at *
              generalize pcAt p to = y at *
              have hmS := show Shut _ from And.intro hpm hple
              clear hpm hple
              have hlen1 : (bs ++ ms).length ≤ 20000 := by rw [List.length_append]; have := hids.out.2.2.2.2.2; have := hmS.out.2; omega
              have hS3 := show Shut _ from And.intro hrow (And.intro hown (And.intro hB hsq))
              clear hrow hown hB hsq hng
              by_cases hskip : y ≠ 0 ∧ sideOf y = (tn : Int)
              · obtain ⟨hy0, hys⟩ := hskip
                have hE : pmOf p (n : Int) to = [] := by rw [hmS.out.1, if_pos ⟨hy0, hys⟩]
                have hEs := show Shut _ from hE
                have hy1 : (y != 0) = true := by simpa using hy0
                have hys2 : (sideOf y == (tn : Int)) = true := by simpa using hys
                clear hE hy0 hys
                go_wp2_with fail
                go_quiet (first | (go_at_call 14; refine quiet' (hi_side _ _ (by omega))))
                go_wp2_with fail
                go_roundw
                case rel =>
                  have R : ∃ k' : Nat, k' ≤ L.length ∧ Value.int .i64 ((k : Int) + 1) = .int .i64 (k' : Int) ∧ PosAt p w.heap.size (wr.drewN nq) ∧ ownMvs (wr.drewN nq) (w.heap.size + 1) u3 (bs ++ pmTo p (n : Int) L k') ∧ Below w.heap.size w (wr.drewN nq) ∧ SqAt (some ⟨g2, 0, none⟩) L u3 (wr.drewN nq) := ⟨k + 1, by omega, by go_num, hS3.out.1, by rw [hpst.out, hEs.out, List.append_nil]; exact hS3.out.2.1, below_drewN hS3.out.2.2.1 nq, hS3.out.2.2.2⟩
                  first | exact R | ((repeat apply Exists.intro); exact ⟨R, rfl⟩)
                case measure => simp [intOf]; omega
              · have hpm2 := hmS.out.1
                rw [if_neg hskip] at hpm2
                have hp2 := show Shut _ from hpm2
                clear hpm2
                have hgo : y = 0 ∨ (y ≠ 0 ∧ sideOf y ≠ (tn : Int)) := by
                  by_cases c : y = 0
                  · exact Or.inl c
                  · exact Or.inr ⟨c, fun e => hskip ⟨c, e⟩⟩
                clear hskip
                rcases hgo with rfl | ⟨hy0, hys⟩
                · have hw : ((0 : Int) != 0) = false := rfl
                  go_wp2_with fail
                  go_quiet (first | (go_at_call 14; refine quiet' (hi_side _ _ (by omega))))
                  go_wp2_with fail
                  have hrowq : PosAt p w.heap.size (wr.drewN nq) := hS3.out.1
                  have hownq := own_drewN hS3.out.2.1 nq
                  have hBq := below_drewN hS3.out.2.2.1 nq
                  have hsqq := hS3.out.2.2.2.drewN nq
                  have hSq := show Shut _ from And.intro hrowq (And.intro hownq (And.intro hBq hsqq))
                  clear hrowq hownq hBq hsqq
                  generalize wr.drewN nq = wq at *
                  have hrq := hSq.out.1
                  have ct := h64.out wq hrq
                  by_cases hrk : to / 8 = 7 - 7 * (tn : Int)
                  · have hrkb : (to / 8 != 7 - 7 * (tn : Int)) = false := by simpa using hrk
                    have hrks := show Shut _ from hrk
                    clear hrk
                    have hE : pmOf p (n : Int) to = promos (n : Int) to 4 := by rw [hp2.out, if_neg (by intro h; rcases h with h | h; exact h k6s.out; exact h hrks.out)]
                    have hEs := show Shut _ from hE
                    clear hE
                    go_wp2_with fail
                    go_quiet (first | (go_at_call 24; refine quiet' (po_kindOf _ _ (by omega))) | (go_at_call 25; refine quiet' (po_rank _ _ (by omega) (by omega))))
                    have hSr := show Shut _ from And.intro (show PosAt p w.heap.size (wq.drewN nq) from hSq.out.1) (And.intro (show ownMvs (wq.drewN nq) (w.heap.size + 1) u3 (bs ++ ms) from hSq.out.2.1) (And.intro (below_drewN hSq.out.2.2.1 nq) (hSq.out.2.2.2.drewN nq)))
                    clear hrq ct
                    generalize wq.drewN nq = wz at *
                    go_wp2_with fail
                    go_loopw [3, 9] (fun l d wr4 => ∃ q : Nat, q ≤ 4 ∧ d = .int .i64 ((q : Int) + 2) ∧ PosAt p w.heap.size wr4 ∧ ownMvs wr4 (w.heap.size + 1) l (bs ++ (ms ++ promos (n : Int) to q)) ∧ Below w.heap.size w wr4 ∧ SqAt (some ⟨g2, 0, none⟩) L l wr4) (fun _ d _ => 7 - (intOf d).toNat)
                    case atStart => exact ⟨0, by omega, rfl, hSr.out.1, by simpa [promos] using hSr.out.2.1, hSr.out.2.2.1, hSr.out.2.2.2⟩
                    case round =>
                      clear hSr
                      obtain ⟨q, hq, rfl, hrow, hownA, hB, hsq⟩ := hrel
                      by_cases hlq : q < 4
                      · have hlen2 : (bs ++ (ms ++ promos (n : Int) to q)).length ≤ 20010 := by rw [← List.append_assoc, List.length_append, promos_len]; omega
                        have hqst := show Shut (promos (n : Int) to (q + 1) = promos (n : Int) to q ++ [⟨(n : Int), to, (q : Int) + 2⟩]) from rfl
                        have hszA : w.heap.size + 1 ≤ wr.heap.size := by have := hrow.lt; omega
                        have hSr := show Shut _ from And.intro hrow (And.intro hB hsq)
                        clear hrow hB hsq
                        generalize promos (n : Int) to q = qs at *
                        go_wp2_with (with_reducible refine at_appendk (esz := 3) [.int .i64 (n : Int), .int .i64 to, .int .i64 ((q : Int) + 2)] rfl Tryd.underlying36 hi hz0 hz1 hz2 rfl (by decide) (by decide) ?_ (w.heap.size + 1) _ _ _ hownA ?_ hszA ?_ ?_ ?_)
                        · intro u hu; simp at hu; rcases hu with rfl | rfl | rfl <;> rfl
                        · omega
                        · rfl
                        · rfl
                        intro v' w' hown' hbel' hkeep' hap' hsz'
                        have R : ∃ q' : Nat, q' ≤ 4 ∧ Value.int .i64 ((q : Int) + 2 + 1) = .int .i64 ((q' : Int) + 2) ∧ PosAt p w.heap.size w' ∧ ownMvs w' (w.heap.size + 1) v' (bs ++ (ms ++ promos (n : Int) to q')) ∧ Below w.heap.size w w' ∧ SqAt (some ⟨g2, 0, none⟩) L v' w' := by
                          refine ⟨q + 1, by omega, by first | rfl | (congr 1; done) | (congr 1; omega), (hbel'.block w.heap.size (by omega)).trans hSr.out.1, ?_, hSr.out.2.1.trans (hbel'.mono (by omega)), hSr.out.2.2.next hsz' hkeep' hap'⟩
                          rw [hqst.out, ← List.append_assoc, ← List.append_assoc, List.append_assoc bs ms]
                          unfold ownMvs mvsC
                          rw [List.length_append, List.flatMap_append]
                          exact hown'
                        have RS := show Shut _ from R
                        clear R hown' hbel' hkeep' hap' hownA
                        go_wp2_with fail
                        go_roundw
                        case rel =>
                          have R := RS.out
                          first | exact R | ((repeat apply Exists.intro); exact ⟨R, rfl⟩)
                        case measure => simp [intOf]; omega
                      · obtain rfl : q = 4 := by omega
                        have hSr := show Shut _ from And.intro hrow (And.intro hownA (And.intro hB hsq))
                        clear hrow hownA hB hsq
                        go_wp2_with fail
                        go_roundw
                        case rel =>
                          have R : ∃ k' : Nat, k' ≤ L.length ∧ Value.int .i64 ((k : Int) + 1) = .int .i64 (k' : Int) ∧ PosAt p w.heap.size wr ∧ ownMvs wr (w.heap.size + 1) u3 (bs ++ pmTo p (n : Int) L k') ∧ Below w.heap.size w wr ∧ SqAt (some ⟨g2, 0, none⟩) L u3 wr := ⟨k + 1, by omega, by go_num, hSr.out.1, by rw [hpst.out, hEs.out]; exact hSr.out.2.1, hSr.out.2.2.1, hSr.out.2.2.2⟩
                          first | exact R | ((repeat apply Exists.intro); exact ⟨R, rfl⟩)
                        case measure => simp [intOf]; omega
                  · have hrkb : (to / 8 != 7 - 7 * (tn : Int)) = true := by simpa using hrk
                    have hrks := show Shut _ from hrk
                    clear hrk
                    have hownA := hSq.out.2.1
                    have hszA : w.heap.size + 1 ≤ wq.heap.size := by have := hrq.lt; omega
                    have hE : pmOf p (n : Int) to = [⟨(n : Int), to, 0⟩] := by rw [hp2.out, if_pos (Or.inr hrks.out)]
                    have hEs := show Shut _ from hE
                    clear hE
                    go_wp2_with fail
                    go_quiet (first | (go_at_call 24; refine quiet' (po_kindOf _ _ (by omega))) | (go_at_call 25; refine quiet' (po_rank _ _ (by omega) (by omega))))
                    have hsA := show Shut (w.heap.size + 1 ≤ (wq.drewN nq).heap.size) from hszA
                    have hownA : ownMvs (wq.drewN nq) (w.heap.size + 1) u3 (bs ++ ms) := hSq.out.2.1
                    have hSr := show Shut _ from And.intro (show PosAt p w.heap.size (wq.drewN nq) from hSq.out.1) (And.intro (below_drewN hSq.out.2.2.1 nq) (hSq.out.2.2.2.drewN nq))
                    clear hszA hrq ct
                    generalize wq.drewN nq = wz at *
                    have hszA := hsA.out
                    go_wp2_with (with_reducible refine at_appendk (esz := 3) [.int .i64 (n : Int), .int .i64 to, .int .i64 0] rfl Tryd.underlying36 hi hz0 hz1 hz2 rfl (by decide) (by decide) ?_ (w.heap.size + 1) _ _ _ hownA ?_ hszA ?_ ?_ ?_)
                    · intro u hu; simp at hu; rcases hu with rfl | rfl | rfl <;> rfl
                    · omega
                    · rfl
                    · rfl
                    intro v' w' hown' hbel' hkeep' hap' hsz'
                    have R : ∃ k' : Nat, k' ≤ L.length ∧ Value.int .i64 ((k : Int) + 1) = .int .i64 (k' : Int) ∧ PosAt p w.heap.size w' ∧ ownMvs w' (w.heap.size + 1) v' (bs ++ pmTo p (n : Int) L k') ∧ Below w.heap.size w w' ∧ SqAt (some ⟨g2, 0, none⟩) L v' w' := by
                      refine ⟨k + 1, by omega, by go_num, (hbel'.block w.heap.size (by omega)).trans hSr.out.1, ?_, hSr.out.2.1.trans (hbel'.mono (by omega)), hSr.out.2.2.next hsz' hkeep' hap'⟩
                      rw [hpst.out, hEs.out, ← List.append_assoc]
                      unfold ownMvs mvsC
                      rw [List.length_append, List.flatMap_append]
                      exact hown'
                    have RS := show Shut _ from R
                    clear R hown' hbel' hkeep' hap' hownA
                    go_wp2_with fail
                    go_roundw
                    case rel =>
                      have R := RS.out
                      first | exact R | ((repeat apply Exists.intro); exact ⟨R, rfl⟩)
                    case measure => simp [intOf]; omega
                · have hy1 : (y != 0) = true := by simpa using hy0
                  have hys2 : (sideOf y == (tn : Int)) = false := by simpa using hys
                  clear hy0 hys
                  go_wp2_with fail
                  go_quiet (first | (go_at_call 14; refine quiet' (hi_side _ _ (by omega))))
                  go_wp2_with fail
                  have hrowq : PosAt p w.heap.size (wr.drewN nq) := hS3.out.1
                  have hownq := own_drewN hS3.out.2.1 nq
                  have hBq := below_drewN hS3.out.2.2.1 nq
                  have hsqq := hS3.out.2.2.2.drewN nq
                  have hSq := show Shut _ from And.intro hrowq (And.intro hownq (And.intro hBq hsqq))
                  clear hrowq hownq hBq hsqq
                  generalize wr.drewN nq = wq at *
                  have hrq := hSq.out.1
                  have ct := h64.out wq hrq
                  by_cases hrk : to / 8 = 7 - 7 * (tn : Int)
                  · have hrkb : (to / 8 != 7 - 7 * (tn : Int)) = false := by simpa using hrk
                    have hrks := show Shut _ from hrk
                    clear hrk
                    have hE : pmOf p (n : Int) to = promos (n : Int) to 4 := by rw [hp2.out, if_neg (by intro h; rcases h with h | h; exact h k6s.out; exact h hrks.out)]
                    have hEs := show Shut _ from hE
                    clear hE
                    go_wp2_with fail
                    go_quiet (first | (go_at_call 24; refine quiet' (po_kindOf _ _ (by omega))) | (go_at_call 25; refine quiet' (po_rank _ _ (by omega) (by omega))))
                    have hSr := show Shut _ from And.intro (show PosAt p w.heap.size (wq.drewN nq) from hSq.out.1) (And.intro (show ownMvs (wq.drewN nq) (w.heap.size + 1) u3 (bs ++ ms) from hSq.out.2.1) (And.intro (below_drewN hSq.out.2.2.1 nq) (hSq.out.2.2.2.drewN nq)))
                    clear hrq ct
                    generalize wq.drewN nq = wz at *
                    go_wp2_with fail
                    go_loopw [3, 9] (fun l d wr4 => ∃ q : Nat, q ≤ 4 ∧ d = .int .i64 ((q : Int) + 2) ∧ PosAt p w.heap.size wr4 ∧ ownMvs wr4 (w.heap.size + 1) l (bs ++ (ms ++ promos (n : Int) to q)) ∧ Below w.heap.size w wr4 ∧ SqAt (some ⟨g2, 0, none⟩) L l wr4) (fun _ d _ => 7 - (intOf d).toNat)
                    case atStart => exact ⟨0, by omega, rfl, hSr.out.1, by simpa [promos] using hSr.out.2.1, hSr.out.2.2.1, hSr.out.2.2.2⟩
                    case round =>
                      clear hSr
                      obtain ⟨q, hq, rfl, hrow, hownA, hB, hsq⟩ := hrel
                      by_cases hlq : q < 4
                      · have hlen2 : (bs ++ (ms ++ promos (n : Int) to q)).length ≤ 20010 := by rw [← List.append_assoc, List.length_append, promos_len]; omega
                        have hqst := show Shut (promos (n : Int) to (q + 1) = promos (n : Int) to q ++ [⟨(n : Int), to, (q : Int) + 2⟩]) from rfl
                        have hszA : w.heap.size + 1 ≤ wr.heap.size := by have := hrow.lt; omega
                        have hSr := show Shut _ from And.intro hrow (And.intro hB hsq)
                        clear hrow hB hsq
                        generalize promos (n : Int) to q = qs at *
                        go_wp2_with (with_reducible refine at_appendk (esz := 3) [.int .i64 (n : Int), .int .i64 to, .int .i64 ((q : Int) + 2)] rfl Tryd.underlying36 hi hz0 hz1 hz2 rfl (by decide) (by decide) ?_ (w.heap.size + 1) _ _ _ hownA ?_ hszA ?_ ?_ ?_)
                        · intro u hu; simp at hu; rcases hu with rfl | rfl | rfl <;> rfl
                        · omega
                        · rfl
                        · rfl
                        intro v' w' hown' hbel' hkeep' hap' hsz'
                        have R : ∃ q' : Nat, q' ≤ 4 ∧ Value.int .i64 ((q : Int) + 2 + 1) = .int .i64 ((q' : Int) + 2) ∧ PosAt p w.heap.size w' ∧ ownMvs w' (w.heap.size + 1) v' (bs ++ (ms ++ promos (n : Int) to q')) ∧ Below w.heap.size w w' ∧ SqAt (some ⟨g2, 0, none⟩) L v' w' := by
                          refine ⟨q + 1, by omega, by first | rfl | (congr 1; done) | (congr 1; omega), (hbel'.block w.heap.size (by omega)).trans hSr.out.1, ?_, hSr.out.2.1.trans (hbel'.mono (by omega)), hSr.out.2.2.next hsz' hkeep' hap'⟩
                          rw [hqst.out, ← List.append_assoc, ← List.append_assoc, List.append_assoc bs ms]
                          unfold ownMvs mvsC
                          rw [List.length_append, List.flatMap_append]
                          exact hown'
                        have RS := show Shut _ from R
                        clear R hown' hbel' hkeep' hap' hownA
                        go_wp2_with fail
                        go_roundw
                        case rel =>
                          have R := RS.out
                          first | exact R | ((repeat apply Exists.intro); exact ⟨R, rfl⟩)
                        case measure => simp [intOf]; omega
                      · obtain rfl : q = 4 := by omega
                        have hSr := show Shut _ from And.intro hrow (And.intro hownA (And.intro hB hsq))
                        clear hrow hownA hB hsq
                        go_wp2_with fail
                        go_roundw
                        case rel =>
                          have R : ∃ k' : Nat, k' ≤ L.length ∧ Value.int .i64 ((k : Int) + 1) = .int .i64 (k' : Int) ∧ PosAt p w.heap.size wr ∧ ownMvs wr (w.heap.size + 1) u3 (bs ++ pmTo p (n : Int) L k') ∧ Below w.heap.size w wr ∧ SqAt (some ⟨g2, 0, none⟩) L u3 wr := ⟨k + 1, by omega, by go_num, hSr.out.1, by rw [hpst.out, hEs.out]; exact hSr.out.2.1, hSr.out.2.2.1, hSr.out.2.2.2⟩
                          first | exact R | ((repeat apply Exists.intro); exact ⟨R, rfl⟩)
                        case measure => simp [intOf]; omega
                  · have hrkb : (to / 8 != 7 - 7 * (tn : Int)) = true := by simpa using hrk
                    have hrks := show Shut _ from hrk
                    clear hrk
                    have hownA := hSq.out.2.1
                    have hszA : w.heap.size + 1 ≤ wq.heap.size := by have := hrq.lt; omega
                    have hE : pmOf p (n : Int) to = [⟨(n : Int), to, 0⟩] := by rw [hp2.out, if_pos (Or.inr hrks.out)]
                    have hEs := show Shut _ from hE
                    clear hE
                    go_wp2_with fail
                    go_quiet (first | (go_at_call 24; refine quiet' (po_kindOf _ _ (by omega))) | (go_at_call 25; refine quiet' (po_rank _ _ (by omega) (by omega))))
                    have hsA := show Shut (w.heap.size + 1 ≤ (wq.drewN nq).heap.size) from hszA
                    have hownA : ownMvs (wq.drewN nq) (w.heap.size + 1) u3 (bs ++ ms) := hSq.out.2.1
                    have hSr := show Shut _ from And.intro (show PosAt p w.heap.size (wq.drewN nq) from hSq.out.1) (And.intro (below_drewN hSq.out.2.2.1 nq) (hSq.out.2.2.2.drewN nq))
                    clear hszA hrq ct
                    generalize wq.drewN nq = wz at *
                    have hszA := hsA.out
                    go_wp2_with (with_reducible refine at_appendk (esz := 3) [.int .i64 (n : Int), .int .i64 to, .int .i64 0] rfl Tryd.underlying36 hi hz0 hz1 hz2 rfl (by decide) (by decide) ?_ (w.heap.size + 1) _ _ _ hownA ?_ hszA ?_ ?_ ?_)
                    · intro u hu; simp at hu; rcases hu with rfl | rfl | rfl <;> rfl
                    · omega
                    · rfl
                    · rfl
                    intro v' w' hown' hbel' hkeep' hap' hsz'
                    have R : ∃ k' : Nat, k' ≤ L.length ∧ Value.int .i64 ((k : Int) + 1) = .int .i64 (k' : Int) ∧ PosAt p w.heap.size w' ∧ ownMvs w' (w.heap.size + 1) v' (bs ++ pmTo p (n : Int) L k') ∧ Below w.heap.size w w' ∧ SqAt (some ⟨g2, 0, none⟩) L v' w' := by
                      refine ⟨k + 1, by omega, by go_num, (hbel'.block w.heap.size (by omega)).trans hSr.out.1, ?_, hSr.out.2.1.trans (hbel'.mono (by omega)), hSr.out.2.2.next hsz' hkeep' hap'⟩
                      rw [hpst.out, hEs.out, ← List.append_assoc]
                      unfold ownMvs mvsC
                      rw [List.length_append, List.flatMap_append]
                      exact hown'
                    have RS := show Shut _ from R
                    clear R hown' hbel' hkeep' hap' hownA
                    go_wp2_with fail
                    go_roundw
                    case rel =>
                      have R := RS.out
                      first | exact R | ((repeat apply Exists.intro); exact ⟨R, rfl⟩)
                    case measure => simp [intOf]; omega
            · obtain rfl : k = L.length := by omega
              have hS3 := show Shut _ from And.intro hrow (And.intro hown (And.intro hB hsq))
              clear hrow hown hB hsq
              go_wp2_with fail
              go_roundw
              case rel =>
                have R : ∃ n' : Nat, n' ≤ 64 ∧ Value.int .i64 ((n : Int) + 1) = .int .i64 (n' : Int) ∧ PosAt p w.heap.size wr ∧ ownMvs wr (w.heap.size + 1) u3 (pseudoTo p n') ∧ Below w.heap.size w wr := ⟨n + 1, by omega, by go_num, hS3.out.1, by rw [hst.out, hEs0.out]; exact hS3.out.2.1, hS3.out.2.2.1⟩
                first | exact R | ((repeat apply Exists.intro); exact ⟨R, rfl⟩)
              case measure => simp [intOf]; omega
        · skip
          have k6b : (kindOf x == 6) = false := by simpa using k6
          have k6c : (kindOf x != 6) = true := by simpa using k6
          have k6s := show Shut _ from k6
          have hLd : sqL p (n : Int) = reach p (n : Int) := by rw [hids.out.2.1, if_neg k6]
          clear k6
          go_wp2_with fail
          go_quiet (first | (go_at_call 14; refine quiet' (hi_side _ _ (by omega))))
          have hrowW : PosAt p w.heap.size (wr.drewN nq) := hrow
          have huW : (wr.drewN nq).heap[w.heap.size]? = some (.cells (ints p) 24 (0, 0)) := hrow
          have hownW := own_drewN hownS.out.1 nq
          have hBW := below_drewN hownS.out.2 nq
          clear ct cx hrow
          generalize wr.drewN nq = W1 at *
          go_wp2_with (first
            | (go_at_call 24; refine (po_kindOf _ _ (by omega)).mono ?_; rintro e1 w1 ⟨rfl, rfl⟩)
            | ((with_reducible refine at_load_row huW Tryd.underlying24 rfl ?_ ?_ ?_); (rw [ints_size, hlp]; kernel_rfl); rfl))
          refine (hRe.out (n : Int) (by omega) (by omega) _).mono ?_
          rintro e2 w2 ⟨v2, rfl, hown2, hb2⟩
          rw [← hLd] at hown2
          have hsqr := show Shut _ from hids.out.2.2.1
          have hE0 : pseudoOf p (n : Int) = pmTo p (n : Int) (sqL p (n : Int)) (sqL p (n : Int)).length := by rw [hids.out.1, if_neg (by intro h; rcases h with h | h; exact hx0s.out h; exact h hss.out)]
          have hEs0 := show Shut _ from hE0
          clear hE0 hLd
          generalize sqL p (n : Int) = L at *
          have hszW := hownS.out.2.size
          have hlt3 : ∀ g, u3.ownBlock = some g → g < W1.heap.size := fun g hg => (hownW.lt g hg).2
          obtain ⟨a2, cap2, rfl, hcells⟩ := ints_slice hown2
          have hsq0 : SqAt a2 L u3 w2 := fun i hi => by
            obtain ⟨g, h1, h2, h3, h4⟩ := hcells i hi
            exact ⟨g, h1, h3, h4, fun e => by have := hlt3 g e; omega⟩
          have hS2 := show Shut _ from And.intro (hrowW.below hb2) (And.intro (own_next hownW hb2) (And.intro (hBW.trans (hb2.mono hBW.size)) hsq0))
          clear hcells hsq0 hlt3 hown2 hb2 hrowW hownW hBW huW hszW
          go_wp2_with fail
          go_loopw [3, 7] (fun l i wr3 => ∃ k : Nat, k ≤ L.length ∧ i = .int .i64 (k : Int) ∧ PosAt p w.heap.size wr3 ∧ ownMvs wr3 (w.heap.size + 1) l (bs ++ pmTo p (n : Int) L k) ∧ Below w.heap.size w wr3 ∧ SqAt a2 L l wr3) (fun _ i _ => L.length - (intOf i).toNat)
          case atStart => exact ⟨0, by omega, rfl, hS2.out.1, by simpa [pmTo] using hS2.out.2.1, hS2.out.2.2.1, hS2.out.2.2.2⟩
          case round =>
            clear hS2
            obtain ⟨k, hk, rfl, hrow, hown, hB, hsq⟩ := hrel
            by_cases hltk : k < L.length
            · obtain ⟨g2, rfl, hg2, hck, hng⟩ := hsq k hltk
              have hpst := show Shut (pmTo p (n : Int) L (k + 1) = pmTo p (n : Int) L k ++ pmOf p (n : Int) (L.getD k 0)) from rfl
              have hple := pmTo_le p (n : Int) L k
              obtain ⟨to0, to1⟩ := hsqr.out (L.getD k 0) (by simp [hltk])
              have hpm := hids.out.2.2.2.1 (L.getD k 0)
              generalize hq : L.getD k 0 = to at *
              have hqs := show Shut _ from hq
              clear hq
              have ct := h64.out wr hrow
              have cy := hcl.out wr to hrow to0 to1
              obtain ⟨y0, y1⟩ := hpr.out to to0 to1
              generalize pmTo p (n : Int) L k = ms at *
              generalize pcAt p to = y at *
              have hmS := show Shut _ from And.intro hpm hple
              clear hpm hple
              have hlen1 : (bs ++ ms).length ≤ 20000 := by rw [List.length_append]; have := hids.out.2.2.2.2.2; have := hmS.out.2; omega
              have hS3 := show Shut _ from And.intro hrow (And.intro hown (And.intro hB hsq))
              clear hrow hown hB hsq hng
              by_cases hskip : y ≠ 0 ∧ sideOf y = (tn : Int)
              · obtain ⟨hy0, hys⟩ := hskip
                have hE : pmOf p (n : Int) to = [] := by rw [hmS.out.1, if_pos ⟨hy0, hys⟩]
                have hEs := show Shut _ from hE
                have hy1 : (y != 0) = true := by simpa using hy0
                have hys2 : (sideOf y == (tn : Int)) = true := by simpa using hys
                clear hE hy0 hys
                go_wp2_with fail
                go_quiet (first | (go_at_call 14; refine quiet' (hi_side _ _ (by omega))))
                go_wp2_with fail
                go_roundw
                case rel =>
                  have R : ∃ k' : Nat, k' ≤ L.length ∧ Value.int .i64 ((k : Int) + 1) = .int .i64 (k' : Int) ∧ PosAt p w.heap.size (wr.drewN nq) ∧ ownMvs (wr.drewN nq) (w.heap.size + 1) u3 (bs ++ pmTo p (n : Int) L k') ∧ Below w.heap.size w (wr.drewN nq) ∧ SqAt (some ⟨g2, 0, none⟩) L u3 (wr.drewN nq) := ⟨k + 1, by omega, by go_num, hS3.out.1, by rw [hpst.out, hEs.out, List.append_nil]; exact hS3.out.2.1, below_drewN hS3.out.2.2.1 nq, hS3.out.2.2.2⟩
                  first | exact R | ((repeat apply Exists.intro); exact ⟨R, rfl⟩)
                case measure => simp [intOf]; omega
              · have hpm2 := hmS.out.1
                rw [if_neg hskip] at hpm2
                have hp2 := show Shut _ from hpm2
                clear hpm2
                have hgo : y = 0 ∨ (y ≠ 0 ∧ sideOf y ≠ (tn : Int)) := by
                  by_cases c : y = 0
                  · exact Or.inl c
                  · exact Or.inr ⟨c, fun e => hskip ⟨c, e⟩⟩
                clear hskip
                rcases hgo with rfl | ⟨hy0, hys⟩
                · have hw : ((0 : Int) != 0) = false := rfl
                  go_wp2_with fail
                  go_quiet (first | (go_at_call 14; refine quiet' (hi_side _ _ (by omega))))
                  go_wp2_with fail
                  have hrowq : PosAt p w.heap.size (wr.drewN nq) := hS3.out.1
                  have hownq := own_drewN hS3.out.2.1 nq
                  have hBq := below_drewN hS3.out.2.2.1 nq
                  have hsqq := hS3.out.2.2.2.drewN nq
                  have hSq := show Shut _ from And.intro hrowq (And.intro hownq (And.intro hBq hsqq))
                  clear hrowq hownq hBq hsqq
                  generalize wr.drewN nq = wq at *
                  have hrq := hSq.out.1
                  have ct := h64.out wq hrq
                  have hownA := hSq.out.2.1
                  have hszA : w.heap.size + 1 ≤ wq.heap.size := by have := hrq.lt; omega
                  have hE : pmOf p (n : Int) to = [⟨(n : Int), to, 0⟩] := by rw [hp2.out, if_pos (Or.inl k6s.out)]
                  have hEs := show Shut _ from hE
                  clear hE
                  go_wp2_with fail
                  go_quiet (first | (go_at_call 24; refine quiet' (po_kindOf _ _ (by omega))) | (go_at_call 25; refine quiet' (po_rank _ _ (by omega) (by omega))))
                  have hsA := show Shut (w.heap.size + 1 ≤ (wq.drewN nq).heap.size) from hszA
                  have hownA : ownMvs (wq.drewN nq) (w.heap.size + 1) u3 (bs ++ ms) := hSq.out.2.1
                  have hSr := show Shut _ from And.intro (show PosAt p w.heap.size (wq.drewN nq) from hSq.out.1) (And.intro (below_drewN hSq.out.2.2.1 nq) (hSq.out.2.2.2.drewN nq))
                  clear hszA hrq ct
                  generalize wq.drewN nq = wz at *
                  have hszA := hsA.out
                  go_wp2_with (with_reducible refine at_appendk (esz := 3) [.int .i64 (n : Int), .int .i64 to, .int .i64 0] rfl Tryd.underlying36 hi hz0 hz1 hz2 rfl (by decide) (by decide) ?_ (w.heap.size + 1) _ _ _ hownA ?_ hszA ?_ ?_ ?_)
                  · intro u hu; simp at hu; rcases hu with rfl | rfl | rfl <;> rfl
                  · omega
                  · rfl
                  · rfl
                  intro v' w' hown' hbel' hkeep' hap' hsz'
                  have R : ∃ k' : Nat, k' ≤ L.length ∧ Value.int .i64 ((k : Int) + 1) = .int .i64 (k' : Int) ∧ PosAt p w.heap.size w' ∧ ownMvs w' (w.heap.size + 1) v' (bs ++ pmTo p (n : Int) L k') ∧ Below w.heap.size w w' ∧ SqAt (some ⟨g2, 0, none⟩) L v' w' := by
                    refine ⟨k + 1, by omega, by go_num, (hbel'.block w.heap.size (by omega)).trans hSr.out.1, ?_, hSr.out.2.1.trans (hbel'.mono (by omega)), hSr.out.2.2.next hsz' hkeep' hap'⟩
                    rw [hpst.out, hEs.out, ← List.append_assoc]
                    unfold ownMvs mvsC
                    rw [List.length_append, List.flatMap_append]
                    exact hown'
                  have RS := show Shut _ from R
                  clear R hown' hbel' hkeep' hap' hownA
                  go_wp2_with fail
                  go_roundw
                  case rel =>
                    have R := RS.out
                    first | exact R | ((repeat apply Exists.intro); exact ⟨R, rfl⟩)
                  case measure => simp [intOf]; omega
                · have hy1 : (y != 0) = true := by simpa using hy0
                  have hys2 : (sideOf y == (tn : Int)) = false := by simpa using hys
                  clear hy0 hys
                  go_wp2_with fail
                  go_quiet (first | (go_at_call 14; refine quiet' (hi_side _ _ (by omega))))
                  go_wp2_with fail
                  have hrowq : PosAt p w.heap.size (wr.drewN nq) := hS3.out.1
                  have hownq := own_drewN hS3.out.2.1 nq
                  have hBq := below_drewN hS3.out.2.2.1 nq
                  have hsqq := hS3.out.2.2.2.drewN nq
                  have hSq := show Shut _ from And.intro hrowq (And.intro hownq (And.intro hBq hsqq))
                  clear hrowq hownq hBq hsqq
                  generalize wr.drewN nq = wq at *
                  have hrq := hSq.out.1
                  have ct := h64.out wq hrq
                  have hownA := hSq.out.2.1
                  have hszA : w.heap.size + 1 ≤ wq.heap.size := by have := hrq.lt; omega
                  have hE : pmOf p (n : Int) to = [⟨(n : Int), to, 0⟩] := by rw [hp2.out, if_pos (Or.inl k6s.out)]
                  have hEs := show Shut _ from hE
                  clear hE
                  go_wp2_with fail
                  go_quiet (first | (go_at_call 24; refine quiet' (po_kindOf _ _ (by omega))) | (go_at_call 25; refine quiet' (po_rank _ _ (by omega) (by omega))))
                  have hsA := show Shut (w.heap.size + 1 ≤ (wq.drewN nq).heap.size) from hszA
                  have hownA : ownMvs (wq.drewN nq) (w.heap.size + 1) u3 (bs ++ ms) := hSq.out.2.1
                  have hSr := show Shut _ from And.intro (show PosAt p w.heap.size (wq.drewN nq) from hSq.out.1) (And.intro (below_drewN hSq.out.2.2.1 nq) (hSq.out.2.2.2.drewN nq))
                  clear hszA hrq ct
                  generalize wq.drewN nq = wz at *
                  have hszA := hsA.out
                  go_wp2_with (with_reducible refine at_appendk (esz := 3) [.int .i64 (n : Int), .int .i64 to, .int .i64 0] rfl Tryd.underlying36 hi hz0 hz1 hz2 rfl (by decide) (by decide) ?_ (w.heap.size + 1) _ _ _ hownA ?_ hszA ?_ ?_ ?_)
                  · intro u hu; simp at hu; rcases hu with rfl | rfl | rfl <;> rfl
                  · omega
                  · rfl
                  · rfl
                  intro v' w' hown' hbel' hkeep' hap' hsz'
                  have R : ∃ k' : Nat, k' ≤ L.length ∧ Value.int .i64 ((k : Int) + 1) = .int .i64 (k' : Int) ∧ PosAt p w.heap.size w' ∧ ownMvs w' (w.heap.size + 1) v' (bs ++ pmTo p (n : Int) L k') ∧ Below w.heap.size w w' ∧ SqAt (some ⟨g2, 0, none⟩) L v' w' := by
                    refine ⟨k + 1, by omega, by go_num, (hbel'.block w.heap.size (by omega)).trans hSr.out.1, ?_, hSr.out.2.1.trans (hbel'.mono (by omega)), hSr.out.2.2.next hsz' hkeep' hap'⟩
                    rw [hpst.out, hEs.out, ← List.append_assoc]
                    unfold ownMvs mvsC
                    rw [List.length_append, List.flatMap_append]
                    exact hown'
                  have RS := show Shut _ from R
                  clear R hown' hbel' hkeep' hap' hownA
                  go_wp2_with fail
                  go_roundw
                  case rel =>
                    have R := RS.out
                    first | exact R | ((repeat apply Exists.intro); exact ⟨R, rfl⟩)
                  case measure => simp [intOf]; omega
            · obtain rfl : k = L.length := by omega
              have hS3 := show Shut _ from And.intro hrow (And.intro hown (And.intro hB hsq))
              clear hrow hown hB hsq
              go_wp2_with fail
              go_roundw
              case rel =>
                have R : ∃ n' : Nat, n' ≤ 64 ∧ Value.int .i64 ((n : Int) + 1) = .int .i64 (n' : Int) ∧ PosAt p w.heap.size wr ∧ ownMvs wr (w.heap.size + 1) u3 (pseudoTo p n') ∧ Below w.heap.size w wr := ⟨n + 1, by omega, by go_num, hS3.out.1, by rw [hst.out, hEs0.out]; exact hS3.out.2.1, hS3.out.2.2.1⟩
                first | exact R | ((repeat apply Exists.intro); exact ⟨R, rfl⟩)
              case measure => simp [intOf]; omega
      · have hsb : (sideOf x != (tn : Int)) = true := by simpa using hs
        have hE : pseudoOf p (n : Int) = [] := by rw [hids.out.1, if_pos (Or.inr hs)]
        have hEs := show Shut _ from hE
        clear hE hs
        go_wp2_with fail
        go_quiet (first | (go_at_call 14; refine quiet' (hi_side _ _ (by omega))))
        go_wp2_with fail
        go_roundw
        case rel => exact ⟨n + 1, by omega, by go_num, hrow, by rw [hst.out, hEs.out, List.append_nil]; exact hownS.out.1, below_drewN hownS.out.2 _⟩
        case measure => simp [intOf]; omega
    · obtain rfl : n = 64 := by omega
      have hu : wr.heap[w.heap.size]? = some (.cells (ints p) 24 (0, 0)) := hrow
      have hple := pseudoTo_le p 64
      have hPL : pseudoL p = pseudoTo p 64 ++ castL p := rfl
      have hPs := show Shut _ from And.intro hPL hple
      clear hPL hple
      have hlt0 := hrow.lt
      clear hrow
      go_wp2_with (first
        | ((with_reducible refine at_load_row hu Tryd.underlying24 rfl ?_ ?_ ?_); (rw [ints_size, hlp]; kernel_rfl); rfl))
      refine (hCs.out _).mono ?_
      rintro e2 w2 ⟨v2, rfl, hown2, hb2⟩
      have hownN := own_next hown hb2
      have hB2 := hB.trans (hb2.mono hB.size)
      have hsz2 : w.heap.size + 1 ≤ w2.heap.size := by have := hb2.size; omega
      clear hown hB hb2 hu
      go_wp2_with (with_reducible refine at_append_all Tryd.underlying36 hi hz0 hz1 hz2 rfl (by decide) (by decide) (w.heap.size + 1) _ _ _ hownN _ _ _ _ hown2 (mvsC_one _) ?_ hsz2 ?_ ?_ ?_)
      · have := hPs.out.2; omega
      · rfl
      · rfl
      intro v3 w3 hown3 hb3 hsz3
      have hown4 : ownMvs w3 (w.heap.size + 1) v3 (pseudoL p) := by
        rw [hPs.out.1]
        unfold ownMvs mvsC
        rw [List.length_append, List.flatMap_append]
        exact hown3
      have hB3 := hB2.trans (hb3.mono (by omega))
      have hpl : (pseudoL p).length ≤ 100000 := by rw [hPs.out.1, List.length_append]; have := hPs.out.2; omega
      have hsz4 : w.heap.size ≤ w3.heap.size := by omega
      clear hown3 hb3 hownN hown2
      go_wp2_with fail
      refine (or_ordered (pseudoL p) v3 (w.heap.size + 1) w3 hown4 hpl).mono ?_
      rintro e4 w4 ⟨v4, l4, rfl, hperm, hown5, hb4⟩
      have hfin := show Shut _ from And.intro hperm (And.intro (own_mono hown5 hsz4) (hB3.trans (hb4.mono hsz4)))
      clear hperm hown5 hb4 hB3
      go_wp2_with fail
      go_ret
      first
      | exact ⟨_, l4, rfl, hfin.out.1, hfin.out.2.1, hfin.out.2.2⟩
      | exact ⟨_, rfl, l4, hfin.out.1, hfin.out.2.1, hfin.out.2.2⟩
end Go.Proofs.YtplkcmlpomjojaaDoor
