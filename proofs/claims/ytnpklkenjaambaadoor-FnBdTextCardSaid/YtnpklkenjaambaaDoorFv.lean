/- The engine's text of a board: NewSquare, getFENChar, String. For every board of pieces from 0 to 12. -/
import Derived.Test.YtnpklkenjaambaaDoorFt
import Derived.Test.YtnpklkenjaambaaDoorPt
import Derived.Test.YtnpklkenjaambaaDoorHk
import Derived.Great.Walk
import Derived.Laws.IdiomStrings
namespace Go.Proofs.YtnpklkenjaambaaDoor
open Go Go.RowKit
set_option maxHeartbeats 8000000
set_option linter.unusedSimpArgs false
set_option linter.unusedVariables false
set_option maxRecDepth 100000

def wPieceL : List Int := [0, 75, 81, 82, 66, 78, 80]
def bPieceL : List Int := [0, 107, 113, 114, 98, 110, 112]
theorem wrap_i8b (n : Int) (h0 : -128 ≤ n) (h1 : n ≤ 127) : IntKind.i8.wrap n = n := by
  unfold IntKind.wrap
  simp only [show IntKind.i8.bits = 8 from rfl, show IntKind.i8.signed = true from rfl, Bool.true_and]
  split <;> rename_i h <;> simp at h <;> omega
theorem fs_square (f r : Nat) (hf : f < 8) (hr : r < 8) (w : World) :
    Calls Tryd.prog 52 #[.int .i8 (f : Int), .int .i8 (r : Int)] w fun e w' => e = .returned (.int .i8 ((8 * r + f : Nat) : Int)) ∧ w = w' := by
  have e : ((8 * r + f : Nat) : Int) = (r : Int) * 8 + f := by omega
  rw [e]
  go_enter Tryd.func52, Tryd.ntmps52
  go_wp2
  go_ret
  exact ⟨rfl, rfl⟩
theorem fs_char (k : Nat) (h : k < 12) (w : World) (hw : IntTab w 2 .u8 wPieceL) (hb : IntTab w 3 .u8 bPieceL) :
    Calls Tryd.prog 53 #[.int .i8 ((k : Int) + 1)] w fun e w' => e = .returned (.int .u8 ((chB ((k : Int) + 1)).toNat : Int)) ∧ w = w' := by
  have c0 := hw.cell (k % 6 + 1) (by simp [wPieceL]; omega)
  have c1 := hb.cell (k % 6 + 1) (by simp [bPieceL]; omega)
  clear hw hb
  unfold wPieceL at c0
  unfold bPieceL at c1
  have ht := lay (da_type k h w)
  have hc := lay (da_color k h w)
  rcases twelve h with rfl | rfl | rfl | rfl | rfl | rfl | rfl | rfl | rfl | rfl | rfl | rfl
  all_goals (
    simp at c0 c1
    go_enter Tryd.func53, Tryd.ntmps53
    go_wp2_with (first
      | (go_at_call 66; refine ht.out.mono ?_; rintro e1 w1 ⟨rfl, rfl⟩)
      | (go_at_call 67; refine hc.out.mono ?_; rintro e1 w1 ⟨rfl, rfl⟩))
    go_ret
    exact ⟨rfl, rfl⟩)
def u8V (l : List UInt8) : List Value := l.map fun c => .int .u8 (c.toNat : Int)
theorem u8V_put (b : List UInt8) (c : UInt8) : u8V (b ++ [c]) = u8V b ++ [.int .u8 (c.toNat : Int)] := by simp [u8V]
abbrev ownU8 (w : World) (base : Nat) (v : Value) (l : List UInt8) : Prop := w.ownsRow base 5 1 v l.length (u8V l)
theorem ownU8.next {w : World} {base : Nat} {v : Value} {l : List UInt8} {c : UInt8} (h : w.ownsRow base 5 1 v (l.length + 1) (u8V l ++ [.int .u8 (c.toNat : Int)])) : ownU8 w base v (l ++ [c]) := by
  unfold ownU8
  rw [List.length_append, u8V_put]
  exact h
theorem dg_int (e : Nat) (h0 : 0 < e) (h8 : e ≤ 8) : ((dgB e).toNat : Int) = 48 + (e : Int) ∧ IntKind.u8.wrap (48 + (e : Int)) = 48 + (e : Int) := by
  have := (dgB_says e (by omega) h0).1
  rw [this]
  refine ⟨by omega, ?_⟩
  rw [IntKind.wrap_u8]; omega
theorem fs_string (p : List Int) (hp : ∀ i, i < 64 → 0 ≤ p.getD i 0 ∧ p.getD i 0 ≤ 12) (g : Nat) (w : World) (hg : w.heap[g]? = some (.cells (brd p) 59 (0, 0))) (hA : IntSl w 1 .i8 allL)
    (hw : IntTab w 2 .u8 wPieceL) (hb : IntTab w 3 .u8 bPieceL) :
    Calls Tryd.prog 41 #[.pointer (some ⟨g, 0, none⟩)] w fun e w' => e = .returned (.string ⟨(txBoard p).toArray⟩) ∧ Below w.heap.size w w' := by
  obtain ⟨i0, hi, hz0, hz1, hz2⟩ := info_parts (show (Tryd.prog.info? 5).map (fun i => (i.zero, i.size, i.bytes)) = some (some (.int .u8 0), 1, 1) by kernel_rfl)
  have hpc := lay (fun (V : World) (hV : Below w.heap.size w V) (s : Int) h0 h1 hp0 hp1 => bo_piece p (bbv (whiteB p)) (bbv (blackB p)) (bbv (~~~(whiteB p ||| blackB p))) (.int .i8 (lastK p 1 64)) (.int .i8 (lastK p 7 64)) g s V (hA.below hV) ((hV.block g (Array.getElem?_eq_some_iff.1 hg).1).trans hg) h0 h1 hp0 hp1)
  have hch := lay (fun (V : World) (hV : Below w.heap.size w V) (k : Nat) hk => fs_char k hk V (hw.below hV) (hb.below hV))
  have hps := lay hp
  clear hg hA hw hb hp
  obtain ⟨w0, hmk0, hown0, hgr0⟩ := run_make_own (P := Tryd.prog) w w.heap.size 49 5 i0 (.int .u8 0) 1 Tryd.underlying49 hi hz0 hz1 .i64 .i64 71 (by rw [hz2]; decide) (by decide) (Nat.le_refl _)
  have hmk : (Instr.makeSlice 49 (.int .i64 0) (.int .i64 71)).run Tryd.prog w = .ok (.slice (some ⟨w.heap.size, 0, none⟩) 0 71) w0 := hmk0
  have hb0 : Below w.heap.size w w0 := (Below.refl _ _).grown hgr0 (Nat.le_refl _) (fun k h => by cases h)
  have hE : Shut (∀ (k : Nat), k < 8 → ∀ n : Nat, n < 8 → ∀ V : World, Calls Tryd.prog 52 #[.int .i8 (n : Int), .int .i8 (7 - (k : Int))] V fun e w' => e = .returned (.int .i8 ((8 * (7 - k) + n : Nat) : Int)) ∧ V = w') := by
    intro k hk n hn V
    have := fs_square n (7 - k) hn (by omega) V
    rw [show ((7 - k : Nat) : Int) = 7 - (k : Int) by omega] at this
    exact this
  clear hmk0 hgr0
  have hown0s := lay hown0
  have hb0s := lay hb0
  clear hown0 hb0
  go_enter Tryd.func41, Tryd.ntmps41
  go_wp2_with fail
  clear hmk
  go_loopw [3, 4, 5] (fun b e r wr => ∃ k : Nat, k ≤ 8 ∧ r = .int .i64 (7 - (k : Int)) ∧ e = .int .i64 0 ∧ ownU8 wr w.heap.size b (txRank p k) ∧ Below w.heap.size w wr) (fun _ _ r _ => (intOf r + 1).toNat)
  case atStart => exact ⟨0, by omega, rfl, rfl, hown0s.out, hb0s.out⟩
  case round =>
    obtain ⟨k, hk, rfl, rfl, hown, hbr⟩ := hrel
    by_cases hlt : k < 8
    · have hw8 : IntKind.i8.wrap (7 - (k : Int)) = 7 - (k : Int) := wrap_i8b _ (by omega) (by omega)
      have hr0 : decide (7 - (k : Int) ≥ 0) = true := decide_eq_true (by omega)
      have hsz := txRank_size p k
      have hEk := lay (hE.out k hlt)
      have hRk := lay (show txRank p (k + 1) = putN (txRow p (7 - k) (txHead (txRank p k) k, 0) 8).1 (txRow p (7 - k) (txHead (txRank p k) k, 0) 8).2 from rfl)
      have hH : Shut (txHead (txRank p k) k = if 0 < k then txRank p k ++ [47] else txRank p k) := by rfl
      generalize hLg : txRank p k = L at *
      have hbs := lay hbr
      have hbz := hbr.size
      clear hbr hLg
      by_cases hk0 : k = 0
      · have hk7 : decide ((k : Int) ≤ 7) = true := decide_eq_true (by omega)
        have hd : decide (7 - (k : Int) < 7) = false := decide_eq_false (by omega)
        rw [if_neg (by omega)] at hH
        rw [← hH.out] at hown
        have hHL : Shut ((txHead L k).length ≤ 100) := by show _ ≤ _; rw [hH.out]; omega
        generalize txHead L k = HD at *
        have hownH := lay hown
        have hbH := hbs
        have hHL2 := hHL.out
        clear hown hH hk0 hsz
        go_wp2_with fail
        go_loopw [3, 4, 19] (fun b e i wx => ∃ n : Nat, n ≤ 8 ∧ i = .int .i64 (n : Int) ∧ ownU8 wx w.heap.size b (txRow p (7 - k) (HD, 0) n).1 ∧ e = .int .i64 (((txRow p (7 - k) (HD, 0) n).2 : Nat) : Int) ∧ Below w.heap.size w wx) (fun _ _ i _ => (8 - (intOf i).toNat))
        case atStart => exact ⟨0, by omega, rfl, hownH.out, rfl, hbH.out⟩
        case round =>
          obtain ⟨n, hn, rfl, hown2, rfl, hb2⟩ := hrel
          have hwt := txRow_wait p (7 - k) HD n
          have hsz2 := txRow_size p (7 - k) HD n
          have hb2s := lay hb2
          have hbz2 := hb2.size
          clear hb2
          by_cases hlt2 : n < 8
          · have hstep := lay (show txRow p (7 - k) (HD, 0) (n + 1) = txStep (txRow p (7 - k) (HD, 0) n) (p.getD (8 * (7 - k) + n) 0) from rfl)
            obtain ⟨x0, x1⟩ := hps.out (8 * (7 - k) + n) (by omega)
            have hP : Shut (Calls Tryd.prog 43 #[.pointer (some ⟨g, 0, none⟩), .int .i8 ((8 * (7 - k) + n : Nat) : Int)] wr fun e' w' => e' = .returned (.int .i8 (p.getD (8 * (7 - k) + n) 0)) ∧ wr = w') := hpc.out wr hb2s.out ((8 * (7 - k) + n : Nat) : Int) (by omega) (by omega) x0 x1
            have hEn := lay (hEk.out n hlt2)
            have hwn : IntKind.i8.wrap (n : Int) = n := wrap_i8b _ (by omega) (by omega)
            generalize p.getD (8 * (7 - k) + n) 0 = x at *
            generalize txRow p (7 - k) (HD, 0) n = st at *
            obtain ⟨bl, ec⟩ := st
            simp only at hown2 hwt hsz2 hstep
            by_cases hx : x = 0
            · have hx0 : (x == 0) = true := by rw [hx]; rfl
              have hstep2 : Shut (txRow p (7 - k) (HD, 0) (n + 1) = (bl, ec + 1)) := by rw [hstep.out, txStep, if_pos hx]; rfl
              have hown2s := lay hown2
              clear hown2 hx hstep
              go_wp2_with (first
                    | (go_at_call 52; refine (hEn.out _).mono ?_; rintro e1 w1 ⟨rfl, rfl⟩)
                    | (go_at_call 43; refine hP.out.mono ?_; rintro e1 w1 ⟨rfl, rfl⟩))
              go_roundw
              case rel =>
                have R : ∃ n' : Nat, n' ≤ 8 ∧ Value.int .i64 ((n : Int) + 1) = .int .i64 (n' : Int) ∧ ownU8 wr w.heap.size u3 (txRow p (7 - k) (HD, 0) n').1 ∧ Value.int .i64 ((ec : Int) + 1) = .int .i64 (((txRow p (7 - k) (HD, 0) n').2 : Nat) : Int) ∧ Below w.heap.size w wr := ⟨n + 1, by omega, by go_num, by rw [hstep2.out]; exact hown2s.out, by rw [hstep2.out]; rfl, hb2s.out⟩
                first | exact R | ((repeat apply Exists.intro); exact ⟨R, rfl⟩)
              case measure => simp [intOf]; omega
            · obtain ⟨q, hq, rfl⟩ : ∃ q : Nat, q < 12 ∧ x = (q : Int) + 1 := ⟨(x - 1).toNat, by omega, by omega⟩
              have hx0 : ((q : Int) + 1 == 0) = false := by simp; omega
              have hstep2 : Shut (txRow p (7 - k) (HD, 0) (n + 1) = (putN bl ec ++ [chB ((q : Int) + 1)], 0)) := by rw [hstep.out, txStep, if_neg (by omega)]; rfl
              clear hx hstep
              have hchq := lay (fun (V : World) hV => hch.out V hV q hq)
              generalize chB ((q : Int) + 1) = cq at *
              by_cases he : ec = 0
              · subst he
                have hput : Shut (putN bl 0 = bl) := by rfl
                have hlen : bl.length ≤ 900 := by simp at hsz2; omega
                go_wp2_with (first
                    | (go_at_call 52; refine (hEn.out _).mono ?_; rintro e1 w1 ⟨rfl, rfl⟩)
                    | (go_at_call 43; refine hP.out.mono ?_; rintro e1 w1 ⟨rfl, rfl⟩)
                    | (go_at_call 53; refine (hchq.out _ hb2s.out).mono ?_; rintro e1 w1 ⟨rfl, rfl⟩)
                    | (with_reducible refine at_append1 Tryd.underlying49 hi hz0 hz1 hz2 rfl (by decide) rfl w.heap.size _ _ _ hown2 (by omega) hbz2 ?_ ?_ ?_))
                · rfl
                · rfl
                intro b3 w3 hown3 hb3
                have hown3s := lay (ownU8.next hown3)
                have hb3s := lay (hb2s.out.trans hb3)
                clear hown2 hown3 hb3
                go_wp2_with fail
                go_roundw
                case rel =>
                  have R : ∃ n' : Nat, n' ≤ 8 ∧ Value.int .i64 ((n : Int) + 1) = .int .i64 (n' : Int) ∧ ownU8 w3 w.heap.size b3 (txRow p (7 - k) (HD, 0) n').1 ∧ Value.int .i64 0 = .int .i64 (((txRow p (7 - k) (HD, 0) n').2 : Nat) : Int) ∧ Below w.heap.size w w3 := ⟨n + 1, by omega, by go_num, by rw [hstep2.out, hput.out]; exact hown3s.out, by rw [hstep2.out]; rfl, hb3s.out⟩
                  first | exact R | ((repeat apply Exists.intro); exact ⟨R, rfl⟩)
                case measure => simp [intOf]; omega
              · have hput : Shut (putN bl ec = bl ++ [dgB ec]) := by unfold putN; rw [if_pos (by omega)]; rfl
                obtain ⟨dg1, dg2⟩ := dg_int ec (by omega) (by omega)
                have hpos : decide ((ec : Int) > 0) = true := decide_eq_true (by omega)
                have hlen : bl.length ≤ 900 := by split at hsz2 <;> omega
                have dg1s := lay dg1
                clear dg1
                go_wp2_with (first
                    | (go_at_call 52; refine (hEn.out _).mono ?_; rintro e1 w1 ⟨rfl, rfl⟩)
                    | (go_at_call 43; refine hP.out.mono ?_; rintro e1 w1 ⟨rfl, rfl⟩)
                    | (with_reducible refine at_append1 Tryd.underlying49 hi hz0 hz1 hz2 rfl (by decide) rfl w.heap.size _ _ _ hown2 (by omega) hbz2 ?_ ?_ ?_))
                · rfl
                · rfl
                intro b3 w3 hown3 hb3
                rw [← dg1s.out] at hown3
                have hown3' := ownU8.next hown3
                have hb3s := lay (hb2s.out.trans hb3)
                have hbz3 := hb3s.out.size
                have hlen3 : (bl ++ [dgB ec]).length ≤ 1000 := by simp; omega
                clear hown2 hown3 hb3
                generalize bl ++ [dgB ec] = bl2 at *
                go_wp2_with (first
                    | (go_at_call 53; refine (hchq.out _ hb3s.out).mono ?_; rintro e1 w1 ⟨rfl, rfl⟩)
                    | (with_reducible refine at_append1 Tryd.underlying49 hi hz0 hz1 hz2 rfl (by decide) rfl w.heap.size _ _ _ hown3' (by omega) hbz3 ?_ ?_ ?_))
                · rfl
                · rfl
                intro b4 w4 hown4 hb4
                have hown4s := lay (ownU8.next hown4)
                have hb4s := lay (hb3s.out.trans hb4)
                clear hown3' hown4 hb4
                go_wp2_with fail
                go_roundw
                case rel =>
                  have R : ∃ n' : Nat, n' ≤ 8 ∧ Value.int .i64 ((n : Int) + 1) = .int .i64 (n' : Int) ∧ ownU8 w4 w.heap.size b4 (txRow p (7 - k) (HD, 0) n').1 ∧ Value.int .i64 0 = .int .i64 (((txRow p (7 - k) (HD, 0) n').2 : Nat) : Int) ∧ Below w.heap.size w w4 := ⟨n + 1, by omega, by go_num, by rw [hstep2.out, hput.out]; exact hown4s.out, by rw [hstep2.out]; rfl, hb4s.out⟩
                  first | exact R | ((repeat apply Exists.intro); exact ⟨R, rfl⟩)
                case measure => simp [intOf]; omega
          · obtain rfl : n = 8 := by omega
            generalize txRow p (7 - k) (HD, 0) 8 = st at *
            obtain ⟨bl, ec⟩ := st
            simp only at hown2 hwt hsz2 hRk
            have hrm : Value.int .i64 (7 - (k : Int) - 1) = .int .i64 (7 - ((k + 1 : Nat) : Int)) := by congr 1; omega
            have hrms := lay hrm
            clear hrm
            by_cases he : ec = 0
            · subst he
              have hput : Shut (txRank p (k + 1) = bl) := by rw [hRk.out]; rfl
              have hown2s := lay hown2
              clear hown2
              go_wp2_with fail
              go_roundw
              case rel =>
                have R : ∃ k' : Nat, k' ≤ 8 ∧ Value.int .i64 (7 - (k : Int) - 1) = .int .i64 (7 - (k' : Int)) ∧ Value.int .i64 0 = .int .i64 0 ∧ ownU8 wr w.heap.size u3 (txRank p k') ∧ Below w.heap.size w wr := ⟨k + 1, by omega, hrms.out, rfl, by rw [hput.out]; exact hown2s.out, hb2s.out⟩
                first | exact R | ((repeat apply Exists.intro); exact ⟨R, rfl⟩)
              case measure => simp [intOf]; omega
            · have hput : Shut (txRank p (k + 1) = bl ++ [dgB ec]) := by rw [hRk.out]; unfold putN; rw [if_pos (by omega)]; rfl
              obtain ⟨dg1, dg2⟩ := dg_int ec (by omega) (by omega)
              have hpos : decide ((ec : Int) > 0) = true := decide_eq_true (by omega)
              have hlen : bl.length ≤ 900 := by split at hsz2 <;> omega
              have dg1s := lay dg1
              clear dg1
              go_wp2_with (with_reducible refine at_append1 Tryd.underlying49 hi hz0 hz1 hz2 rfl (by decide) rfl w.heap.size _ _ _ hown2 (by omega) hbz2 ?_ ?_ ?_)
              · rfl
              · rfl
              intro b3 w3 hown3 hb3
              rw [← dg1s.out] at hown3
              have hown3s := lay (ownU8.next hown3)
              have hb3s := lay (hb2s.out.trans hb3)
              clear hown2 hown3 hb3
              go_wp2_with fail
              go_roundw
              case rel =>
                have R : ∃ k' : Nat, k' ≤ 8 ∧ Value.int .i64 (7 - (k : Int) - 1) = .int .i64 (7 - (k' : Int)) ∧ Value.int .i64 0 = .int .i64 0 ∧ ownU8 w3 w.heap.size b3 (txRank p k') ∧ Below w.heap.size w w3 := ⟨k + 1, by omega, hrms.out, rfl, by rw [hput.out]; exact hown3s.out, hb3s.out⟩
                first | exact R | ((repeat apply Exists.intro); exact ⟨R, rfl⟩)
              case measure => simp [intOf]; omega
      · have hd : decide (7 - (k : Int) < 7) = true := decide_eq_true (by omega)
        rw [if_pos (by omega)] at hH
        go_wp2_with (with_reducible refine at_append1 Tryd.underlying49 hi hz0 hz1 hz2 rfl (by decide) rfl w.heap.size _ _ _ hown (by omega) hbz ?_ ?_ ?_)
        · rfl
        · rfl
        intro b1 w1 hown1 hb1
        have hown1' : ownU8 w1 w.heap.size b1 (txHead L k) := by rw [hH.out]; exact ownU8.next (c := 47) hown1
        have hbH := lay (hbs.out.trans hb1)
        have hHL : Shut ((txHead L k).length ≤ 100) := by show _ ≤ _; rw [hH.out]; simp; omega
        generalize txHead L k = HD at *
        have hownH := lay hown1'
        have hHL2 := hHL.out
        clear hown hown1 hown1' hb1 hH hk0 hsz
        go_wp2_with fail
        go_loopw [3, 4, 19] (fun b e i wx => ∃ n : Nat, n ≤ 8 ∧ i = .int .i64 (n : Int) ∧ ownU8 wx w.heap.size b (txRow p (7 - k) (HD, 0) n).1 ∧ e = .int .i64 (((txRow p (7 - k) (HD, 0) n).2 : Nat) : Int) ∧ Below w.heap.size w wx) (fun _ _ i _ => (8 - (intOf i).toNat))
        case atStart => exact ⟨0, by omega, rfl, hownH.out, rfl, hbH.out⟩
        case round =>
          obtain ⟨n, hn, rfl, hown2, rfl, hb2⟩ := hrel
          have hwt := txRow_wait p (7 - k) HD n
          have hsz2 := txRow_size p (7 - k) HD n
          have hb2s := lay hb2
          have hbz2 := hb2.size
          clear hb2
          by_cases hlt2 : n < 8
          · have hstep := lay (show txRow p (7 - k) (HD, 0) (n + 1) = txStep (txRow p (7 - k) (HD, 0) n) (p.getD (8 * (7 - k) + n) 0) from rfl)
            obtain ⟨x0, x1⟩ := hps.out (8 * (7 - k) + n) (by omega)
            have hP : Shut (Calls Tryd.prog 43 #[.pointer (some ⟨g, 0, none⟩), .int .i8 ((8 * (7 - k) + n : Nat) : Int)] wr fun e' w' => e' = .returned (.int .i8 (p.getD (8 * (7 - k) + n) 0)) ∧ wr = w') := hpc.out wr hb2s.out ((8 * (7 - k) + n : Nat) : Int) (by omega) (by omega) x0 x1
            have hEn := lay (hEk.out n hlt2)
            have hwn : IntKind.i8.wrap (n : Int) = n := wrap_i8b _ (by omega) (by omega)
            generalize p.getD (8 * (7 - k) + n) 0 = x at *
            generalize txRow p (7 - k) (HD, 0) n = st at *
            obtain ⟨bl, ec⟩ := st
            simp only at hown2 hwt hsz2 hstep
            by_cases hx : x = 0
            · have hx0 : (x == 0) = true := by rw [hx]; rfl
              have hstep2 : Shut (txRow p (7 - k) (HD, 0) (n + 1) = (bl, ec + 1)) := by rw [hstep.out, txStep, if_pos hx]; rfl
              have hown2s := lay hown2
              clear hown2 hx hstep
              go_wp2_with (first
                    | (go_at_call 52; refine (hEn.out _).mono ?_; rintro e1 w1 ⟨rfl, rfl⟩)
                    | (go_at_call 43; refine hP.out.mono ?_; rintro e1 w1 ⟨rfl, rfl⟩))
              go_roundw
              case rel =>
                have R : ∃ n' : Nat, n' ≤ 8 ∧ Value.int .i64 ((n : Int) + 1) = .int .i64 (n' : Int) ∧ ownU8 wr w.heap.size u3 (txRow p (7 - k) (HD, 0) n').1 ∧ Value.int .i64 ((ec : Int) + 1) = .int .i64 (((txRow p (7 - k) (HD, 0) n').2 : Nat) : Int) ∧ Below w.heap.size w wr := ⟨n + 1, by omega, by go_num, by rw [hstep2.out]; exact hown2s.out, by rw [hstep2.out]; rfl, hb2s.out⟩
                first | exact R | ((repeat apply Exists.intro); exact ⟨R, rfl⟩)
              case measure => simp [intOf]; omega
            · obtain ⟨q, hq, rfl⟩ : ∃ q : Nat, q < 12 ∧ x = (q : Int) + 1 := ⟨(x - 1).toNat, by omega, by omega⟩
              have hx0 : ((q : Int) + 1 == 0) = false := by simp; omega
              have hstep2 : Shut (txRow p (7 - k) (HD, 0) (n + 1) = (putN bl ec ++ [chB ((q : Int) + 1)], 0)) := by rw [hstep.out, txStep, if_neg (by omega)]; rfl
              clear hx hstep
              have hchq := lay (fun (V : World) hV => hch.out V hV q hq)
              generalize chB ((q : Int) + 1) = cq at *
              by_cases he : ec = 0
              · subst he
                have hput : Shut (putN bl 0 = bl) := by rfl
                have hlen : bl.length ≤ 900 := by simp at hsz2; omega
                go_wp2_with (first
                    | (go_at_call 52; refine (hEn.out _).mono ?_; rintro e1 w1 ⟨rfl, rfl⟩)
                    | (go_at_call 43; refine hP.out.mono ?_; rintro e1 w1 ⟨rfl, rfl⟩)
                    | (go_at_call 53; refine (hchq.out _ hb2s.out).mono ?_; rintro e1 w1 ⟨rfl, rfl⟩)
                    | (with_reducible refine at_append1 Tryd.underlying49 hi hz0 hz1 hz2 rfl (by decide) rfl w.heap.size _ _ _ hown2 (by omega) hbz2 ?_ ?_ ?_))
                · rfl
                · rfl
                intro b3 w3 hown3 hb3
                have hown3s := lay (ownU8.next hown3)
                have hb3s := lay (hb2s.out.trans hb3)
                clear hown2 hown3 hb3
                go_wp2_with fail
                go_roundw
                case rel =>
                  have R : ∃ n' : Nat, n' ≤ 8 ∧ Value.int .i64 ((n : Int) + 1) = .int .i64 (n' : Int) ∧ ownU8 w3 w.heap.size b3 (txRow p (7 - k) (HD, 0) n').1 ∧ Value.int .i64 0 = .int .i64 (((txRow p (7 - k) (HD, 0) n').2 : Nat) : Int) ∧ Below w.heap.size w w3 := ⟨n + 1, by omega, by go_num, by rw [hstep2.out, hput.out]; exact hown3s.out, by rw [hstep2.out]; rfl, hb3s.out⟩
                  first | exact R | ((repeat apply Exists.intro); exact ⟨R, rfl⟩)
                case measure => simp [intOf]; omega
              · have hput : Shut (putN bl ec = bl ++ [dgB ec]) := by unfold putN; rw [if_pos (by omega)]; rfl
                obtain ⟨dg1, dg2⟩ := dg_int ec (by omega) (by omega)
                have hpos : decide ((ec : Int) > 0) = true := decide_eq_true (by omega)
                have hlen : bl.length ≤ 900 := by split at hsz2 <;> omega
                have dg1s := lay dg1
                clear dg1
                go_wp2_with (first
                    | (go_at_call 52; refine (hEn.out _).mono ?_; rintro e1 w1 ⟨rfl, rfl⟩)
                    | (go_at_call 43; refine hP.out.mono ?_; rintro e1 w1 ⟨rfl, rfl⟩)
                    | (with_reducible refine at_append1 Tryd.underlying49 hi hz0 hz1 hz2 rfl (by decide) rfl w.heap.size _ _ _ hown2 (by omega) hbz2 ?_ ?_ ?_))
                · rfl
                · rfl
                intro b3 w3 hown3 hb3
                rw [← dg1s.out] at hown3
                have hown3' := ownU8.next hown3
                have hb3s := lay (hb2s.out.trans hb3)
                have hbz3 := hb3s.out.size
                have hlen3 : (bl ++ [dgB ec]).length ≤ 1000 := by simp; omega
                clear hown2 hown3 hb3
                generalize bl ++ [dgB ec] = bl2 at *
                go_wp2_with (first
                    | (go_at_call 53; refine (hchq.out _ hb3s.out).mono ?_; rintro e1 w1 ⟨rfl, rfl⟩)
                    | (with_reducible refine at_append1 Tryd.underlying49 hi hz0 hz1 hz2 rfl (by decide) rfl w.heap.size _ _ _ hown3' (by omega) hbz3 ?_ ?_ ?_))
                · rfl
                · rfl
                intro b4 w4 hown4 hb4
                have hown4s := lay (ownU8.next hown4)
                have hb4s := lay (hb3s.out.trans hb4)
                clear hown3' hown4 hb4
                go_wp2_with fail
                go_roundw
                case rel =>
                  have R : ∃ n' : Nat, n' ≤ 8 ∧ Value.int .i64 ((n : Int) + 1) = .int .i64 (n' : Int) ∧ ownU8 w4 w.heap.size b4 (txRow p (7 - k) (HD, 0) n').1 ∧ Value.int .i64 0 = .int .i64 (((txRow p (7 - k) (HD, 0) n').2 : Nat) : Int) ∧ Below w.heap.size w w4 := ⟨n + 1, by omega, by go_num, by rw [hstep2.out, hput.out]; exact hown4s.out, by rw [hstep2.out]; rfl, hb4s.out⟩
                  first | exact R | ((repeat apply Exists.intro); exact ⟨R, rfl⟩)
                case measure => simp [intOf]; omega
          · obtain rfl : n = 8 := by omega
            generalize txRow p (7 - k) (HD, 0) 8 = st at *
            obtain ⟨bl, ec⟩ := st
            simp only at hown2 hwt hsz2 hRk
            have hrm : Value.int .i64 (7 - (k : Int) - 1) = .int .i64 (7 - ((k + 1 : Nat) : Int)) := by congr 1; omega
            have hrms := lay hrm
            clear hrm
            by_cases he : ec = 0
            · subst he
              have hput : Shut (txRank p (k + 1) = bl) := by rw [hRk.out]; rfl
              have hown2s := lay hown2
              clear hown2
              go_wp2_with fail
              go_roundw
              case rel =>
                have R : ∃ k' : Nat, k' ≤ 8 ∧ Value.int .i64 (7 - (k : Int) - 1) = .int .i64 (7 - (k' : Int)) ∧ Value.int .i64 0 = .int .i64 0 ∧ ownU8 wr w.heap.size u3 (txRank p k') ∧ Below w.heap.size w wr := ⟨k + 1, by omega, hrms.out, rfl, by rw [hput.out]; exact hown2s.out, hb2s.out⟩
                first | exact R | ((repeat apply Exists.intro); exact ⟨R, rfl⟩)
              case measure => simp [intOf]; omega
            · have hput : Shut (txRank p (k + 1) = bl ++ [dgB ec]) := by rw [hRk.out]; unfold putN; rw [if_pos (by omega)]; rfl
              obtain ⟨dg1, dg2⟩ := dg_int ec (by omega) (by omega)
              have hpos : decide ((ec : Int) > 0) = true := decide_eq_true (by omega)
              have hlen : bl.length ≤ 900 := by split at hsz2 <;> omega
              have dg1s := lay dg1
              clear dg1
              go_wp2_with (with_reducible refine at_append1 Tryd.underlying49 hi hz0 hz1 hz2 rfl (by decide) rfl w.heap.size _ _ _ hown2 (by omega) hbz2 ?_ ?_ ?_)
              · rfl
              · rfl
              intro b3 w3 hown3 hb3
              rw [← dg1s.out] at hown3
              have hown3s := lay (ownU8.next hown3)
              have hb3s := lay (hb2s.out.trans hb3)
              clear hown2 hown3 hb3
              go_wp2_with fail
              go_roundw
              case rel =>
                have R : ∃ k' : Nat, k' ≤ 8 ∧ Value.int .i64 (7 - (k : Int) - 1) = .int .i64 (7 - (k' : Int)) ∧ Value.int .i64 0 = .int .i64 0 ∧ ownU8 w3 w.heap.size b3 (txRank p k') ∧ Below w.heap.size w w3 := ⟨k + 1, by omega, hrms.out, rfl, by rw [hput.out]; exact hown3s.out, hb3s.out⟩
                first | exact R | ((repeat apply Exists.intro); exact ⟨R, rfl⟩)
              case measure => simp [intOf]; omega
    · obtain rfl : k = 8 := by omega
      have hbs := lay hbr
      have hT : Shut (txBoard p = txRank p 8) := by rfl
      have hsz := txRank_size p 8
      generalize txRank p 8 = L at *
      have hfull := hown
      obtain ⟨hn, ⟨rfl, h0⟩ | ⟨gb, cap, cur, rfl, hge, hgb, _⟩⟩ := hown
      · have hl0 : L = [] := List.eq_nil_of_length_eq_zero h0
        subst hl0
        have hcv : (convert 49 9 (.slice none 0 0)).run Tryd.prog wr = .ok (.string ⟨#[]⟩) wr := by
          rw [run_convert_bytes_string wr 49 9 5 none 0 0 Tryd.underlying49 Tryd.underlying5 Tryd.underlying9]
          simp [Conv.bytesToString]
          rfl
        clear hbr hfull hn
        go_wp2_with fail
        go_ret
        exact ⟨by rw [hT.out]; rfl, hbs.out⟩
      · have hcv := run_convert_bytes_back (P := Tryd.prog) wr 49 9 5 ⟨gb, 0, none⟩ cap L Tryd.underlying49 Tryd.underlying5 Tryd.underlying9 (fun j hj => by
          rw [add_at rfl]
          simp only [Nat.zero_add]
          have := hfull.cellAt j (by omega)
          refine this.trans ?_
          simp [u8V, hj])
        clear hbr hfull hgb hn hge
        go_wp2_with fail
        go_ret
        exact ⟨by rw [hT.out]; rfl, hbs.out⟩
end Go.Proofs.YtnpklkenjaambaaDoor
