/- zzReplaceAll of one byte by nothing: the text without this byte. For every text of at most 1000 bytes.
updateCastleRights: the rights' text behind a move. For every position and move of squares.
updateEnPassantSquare: the square behind a pawn that goes two. For every position and move of squares.
Position.Update: the position behind a move. For every position and each move that can be made in it. -/
import Derived.Lib.AppendStr
import Derived.Test.YtnjdgooljnbebaaGreatDoorGi
import Derived.Test.YtnjdgooljnbebaaGreatDoorGa
import Derived.Test.YtnjdgooljnbebaaGreatDoorGe
import Derived.Test.YtnjdgooljnbebaaGreatDoorGk
import Derived.Test.YtnjdgooljnbebaaGreatDoorG3
namespace Go.Proofs.YtnjdgooljnbebaaGreatDoor
open Go Go.RowKit
set_option maxHeartbeats 4000000
set_option linter.unusedSimpArgs false
set_option linter.unusedVariables false
set_option maxRecDepth 100000

/-- A text without a byte. -/
def without (l : List UInt8) (c : UInt8) : List UInt8 := l.filter (fun x => decide (x ≠ c))
theorem without_none : ∀ (l : List UInt8) (c : UInt8), idxB l c < 0 → without l c = l
  | [], _, _ => rfl
  | x :: l, c, h => by
    rw [idxB] at h
    by_cases hx : x = c
    · rw [if_pos hx] at h
      omega
    · rw [if_neg hx] at h
      have hl : idxB l c < 0 := by
        by_cases h2 : idxB l c < 0
        · exact h2
        · rw [if_neg h2] at h
          omega
      have := without_none l c hl
      unfold without at this ⊢
      rw [List.filter_cons_of_pos (by simp [hx]), this]
theorem without_at : ∀ (l : List UInt8) (c : UInt8) (j : Nat), idxB l c = (j : Int) → without l c = l.take j ++ without (l.drop (j + 1)) c
  | [], _, _, h => by
    rw [idxB] at h
    omega
  | x :: l, c, j, h => by
    rw [idxB] at h
    by_cases hx : x = c
    · rw [if_pos hx] at h
      obtain rfl : j = 0 := by omega
      unfold without
      rw [List.filter_cons_of_neg (by simp [hx])]
      simp
    · rw [if_neg hx] at h
      by_cases h2 : idxB l c < 0
      · rw [if_pos h2] at h
        omega
      · rw [if_neg h2] at h
        obtain ⟨i, rfl⟩ : ∃ i, j = i + 1 := ⟨j - 1, by omega⟩
        have := without_at l c i (by omega)
        unfold without at this ⊢
        rw [List.filter_cons_of_pos (by simp [hx]), this]
        simp
def byV (l : List UInt8) : List Value := l.map fun c => .int .u8 (c.toNat : Int)
abbrev ownBy (w : World) (base : Nat) (v : Value) (l : List UInt8) : Prop := w.ownsRow base 5 1 v l.length (byV l)
theorem byV_cells (s : List UInt8) : Go.Lib.strCells (bs s) = byV s := by simp [Go.Lib.strCells, byV, bs]
def txtLen : Value → Nat | .string b => b.size | _ => 0
theorem by_append {P : Program} {ops : Array Oper} {rest : List Oper} {a : Act} {w : World} {Q : Exit → Act → World → Prop} {d : Option Tmp} {x y : Operand} {ty : TypeId} {ps : String} {af : Array Edge} {t u : TypeId}
    {i : TypeInfo} (ht : P.underlying t = some (.slice 5)) (hu : P.underlying u = some .string) (hi : P.info? 5 = some i) (hz : i.zero = some (.int .u8 0)) (hsize : i.size = 1) (hby : i.bytes = 1)
    (base : Nat) (v : Value) (l : List UInt8) (hO : ownBy w base v l) (s : List UInt8) (hlen : l.length + s.length ≤ 100000) (hbase : base ≤ w.heap.size)
    (hx : a.eval x = v) (hy : a.eval y = .string (bs s))
    (h : ∀ v' w', ownBy w' base v' (l ++ s) → Below base w w' → wpList P ops Q rest (a.put d v') w') :
    wpList P ops Q ({ dst := d, op := .call { callee := .builtin .append, args := #[x, y], argTypes := #[t, u] }, type := ty, pos := ps, after := af, guard := none } :: rest) a w := by
  have hbl : (bs s).size = s.length := bs_size s
  refine Go.Lib.wpList_append_own_string (w := w) (hgd := rfl) (sl := x) (x := y) t u rfl base 5 i ht hu hi hz hsize hby v l.length (byV l) hx hO (bs s) hy (by unfold maxLen; omega) (by omega) hbase ?_
  intro v' w' h1 h2 _
  refine h v' w' ?_ ((Below.refl base w).grown h2 hbase (own_ge hO))
  rw [byV_cells, hbl] at h1
  unfold ownBy
  rw [List.length_append]
  have e : byV (l ++ s) = byV l ++ byV s := by simp [byV]
  rw [e]
  exact h1
theorem by_back (w : World) (base : Nat) (v : Value) (l : List UInt8) (h : ownBy w base v l) (t u : TypeId) (ht : Tryz.prog.underlying t = some (.slice 5)) (hu : Tryz.prog.underlying u = some .string) : (convert t u v).run Tryz.prog w = .ok (.string (bs l)) w := by
  have hfull := h
  obtain ⟨hn, ⟨rfl, h0⟩ | ⟨gb, cap, cur, rfl, hge, hgb, _⟩⟩ := h
  · have hl0 : l = [] := List.eq_nil_of_length_eq_zero h0
    subst hl0
    rw [run_convert_bytes_string w t u 5 none 0 0 ht Tryz.underlying5 hu]
    simp [Conv.bytesToString]
    rfl
  · exact run_convert_bytes_back (P := Tryz.prog) w t u 5 ⟨gb, 0, none⟩ cap l ht Tryz.underlying5 hu (fun j hj => by
      rw [add_at rfl]
      simp only [Nat.zero_add]
      have := hfull.cellAt j (by omega)
      refine this.trans ?_
      simp [byV, hj])
theorem zr_replace (l : List UInt8) (c : UInt8) (hl : l.length ≤ 1000) (w : World) :
    Calls Tryz.prog 104 #[.string (bs l), .string (bs [c]), .string (bs [])] w fun e w' => e = .returned (.string (bs (without l c))) ∧ Below w.heap.size w w' := by
  obtain ⟨i0, hi, hz0, hz1, hz2⟩ := info_parts (show (Tryz.prog.info? 5).map (fun i => (i.zero, i.size, i.bytes)) = some (some (.int .u8 0), 1, 1) by kernel_rfl)
  have hs1 : (bs [c]).size = 1 := rfl
  have hix := lay (fun (r : List UInt8) hr V => ix_index r c V hr)
  go_enter Tryz.func104, Tryz.ntmps104
  go_wp2_with fail
  go_loopw [0, 7] (fun s o wr => ∃ (r d : List UInt8), s = .string (bs r) ∧ ownBy wr w.heap.size o d ∧ without l c = d ++ without r c ∧ d.length + r.length ≤ l.length ∧ Below w.heap.size w wr) (fun s _ _ => txtLen s)
  case atStart => exact ⟨l, [], rfl, World.ownsRow_nil _ _ _ _, rfl, by simp, Below.refl _ _⟩
  case round =>
    obtain ⟨r, d, rfl, ho, he, hlen, hb⟩ := hrel
    have hsr := bs_size r
    have hzr := idxB_range r c
    have hos := lay ho
    have hes := lay he
    have hbs := lay hb
    have hlens := lay hlen
    have hlr : r.length ≤ 1000 := by omega
    clear ho he hb
    by_cases hz : idxB r c < 0
    · have hw : Shut (without l c = d ++ r) := by
        show _ = _
        rw [hes.out, without_none r c hz]
      go_wp2_with fail
      refine (hix.out r hlr _).mono ?_
      rintro e1 w1 ⟨rfl, rfl⟩
      generalize idxB r c = z at *
      have hbz := hbs.out.size
      go_wp2_with ((with_reducible refine by_append Tryz.underlying51 Tryz.underlying9 hi hz0 hz1 hz2 w.heap.size _ d hos.out r (by omega) hbz ?_ ?_ ?_); rfl; rfl; intro v2 w2 ho2 hb2; have hcv := by_back w2 w.heap.size v2 (d ++ r) ho2 51 9 Tryz.underlying51 Tryz.underlying9; have hb3 := lay hb2; clear ho2 hb2)
      go_ret
      exact ⟨by rw [hw.out]; rfl, hbs.out.trans hb3.out⟩
    · obtain ⟨j, hj⟩ : ∃ j : Nat, idxB r c = (j : Int) := ⟨(idxB r c).toNat, by omega⟩
      have hw : Shut (without l c = (d ++ r.take j) ++ without (r.drop (j + 1)) c) := by
        show _ = _
        rw [hes.out, without_at r c j hj, List.append_assoc]
      have hjr : j < r.length := by omega
      have hjs := lay hj
      clear hz hzr
      go_wp2_with fail
      refine (hix.out r hlr _).mono ?_
      rintro e1 w1 ⟨rfl, rfl⟩
      rw [hjs.out]
      clear hj
      have hex1 : (bs r).extract 0 j = bs (r.take j) := by rw [bs_extract, List.drop_zero]
      have hex2 : (bs r).extract (j + 1) r.length = bs (r.drop (j + 1)) := by rw [bs_extract, List.take_length]
      have hbz := hbs.out.size
      have htl : (r.take j).length = j := by rw [List.length_take]; omega
      have htls := lay htl
      clear htl
      go_wp2_with (first
        | ((with_reducible refine by_append Tryz.underlying51 Tryz.underlying9 hi hz0 hz1 hz2 w.heap.size _ d hos.out (r.take j) (by have := htls.out; omega) hbz ?_ ?_ ?_); rfl; rfl; intro v2 w2 ho2 hb2; have hos2 := lay ho2; have hbs2 := lay hb2; have hbz2 := Nat.le_trans hbz hb2.size; clear ho2 hb2)
        | ((with_reducible refine by_append Tryz.underlying51 Tryz.underlying9 hi hz0 hz1 hz2 w.heap.size _ (d ++ r.take j) hos2.out [] (by have := htls.out; rw [List.length_append]; simp; omega) hbz2 ?_ ?_ ?_); rfl; rfl; intro v3 w3 ho3 hb3; have hos3 := lay ho3; have hbs3 := lay hb3; clear ho3 hb3))
      go_roundw
      case rel =>
        have R : ∃ (r' d' : List UInt8), Value.string (bs (r.drop (j + 1))) = .string (bs r') ∧ ownBy w3 w.heap.size v3 d' ∧ without l c = d' ++ without r' c ∧ d'.length + r'.length ≤ l.length ∧ Below w.heap.size w w3 := ⟨_, _, rfl, hos3.out, by rw [List.append_nil]; exact hw.out, by (have := htls.out; have := hlens.out; simp only [List.length_append, List.length_nil, List.length_drop]; omega), (hbs.out.trans hbs2.out).trans hbs3.out⟩
        first | exact R | ((repeat apply Exists.intro); exact ⟨R, rfl⟩)
      case measure => (simp [txtLen, bs_size]; omega)
end Go.Proofs.YtnjdgooljnbebaaGreatDoor
namespace Go.Proofs.YtnjdgooljnbebaaGreatDoor
open Go Go.RowKit
set_option maxHeartbeats 8000000
set_option linter.unusedSimpArgs false
set_option linter.unusedVariables false
set_option maxRecDepth 100000

def cutK (l : List UInt8) (c : UInt8) (b : Bool) : List UInt8 := if b then without l c else l
theorem cutK_len (l : List UInt8) (c : UInt8) (b : Bool) : (cutK l c b).length ≤ l.length := by
  unfold cutK without
  split
  · exact List.length_filter_le _ _
  · exact Nat.le_refl _
def tstK (P fr td k c : Int) : Bool := P == k || fr == c || td == c
def cut1 (l : List UInt8) (P fr td : Int) : List UInt8 := cutK l 75 (tstK P fr td 1 7)
def cut2 (l : List UInt8) (P fr td : Int) : List UInt8 := cutK (cut1 l P fr td) 81 (tstK P fr td 1 0)
def cut3 (l : List UInt8) (P fr td : Int) : List UInt8 := cutK (cut2 l P fr td) 107 (tstK P fr td 7 63)
def cut4 (l : List UInt8) (P fr td : Int) : List UInt8 := cutK (cut3 l P fr td) 113 (tstK P fr td 7 56)
def updTxt (l : List UInt8) (P fr td : Int) : ByteArray := if cut4 l P fr td = [] then bs [45] else bs (cut4 l P fr td)
/-- The world at the cuts. -/
def ZcSt (mg : Nat) (t fr td pr : Int) (w wx : World) : Prop := Below w.heap.size w wx ∧ MvAt mg t fr td pr wx
theorem zc_walk (p : List Int) (hp : Pos p) (l : List UInt8) (hl : l.length ≤ 100) (fr td t pr : Int) (f0 : 0 ≤ fr) (f1 : fr ≤ 63) (t0 : 0 ≤ td) (t1 : td ≤ 63) (pg bg mg tn : Nat) (v : Value) (half full ep : Int) (chk : Bool) (w : World)
    (hpg : w.heap[pg]? = some (.cells (posW bg (bs l) v half full tn ep chk) 103 (0, 0))) (hbg : w.heap[bg]? = some (.cells (brd p) 144 (0, 0))) (hm : MvAt mg t fr td pr w) (hA : IntSl w 0 .i8 allL) :
    Calls Tryz.prog 82 #[.pointer (some ⟨pg, 0, none⟩), .pointer (some ⟨mg, 0, none⟩)] w fun e w' => e = .returned (.string (updTxt l (pcAt p fr) fr td)) ∧ Below w.heap.size w w' := by
  have hpc : Shut (∀ n, Calls Tryz.prog 83 #[.pointer (some ⟨bg, 0, none⟩), .int .i8 fr] (w.drewN n) fun e' w' => e' = .returned (.int .i8 (pcAt p fr)) ∧ w.drewN n = w') := fun n => bo_piece p _ _ _ _ _ bg fr (w.drewN n) (hA.below ((Below.refl _ _).trans ⟨rfl, rfl, rfl, Nat.le_refl _, fun _ _ => rfl⟩)) hbg f0 f1 (hp.lo _ (by omega)) (hp.hi _ (by omega))
  have c0 : w.cell? ⟨pg, 0, none⟩ = some (.pointer (some ⟨bg, 0, none⟩)) := cell_of_row w pg 0 _ _ _ hpg
  have c1 : w.cell? ⟨pg, 1, none⟩ = some (.string (bs l)) := cell_of_row w pg 1 _ _ _ hpg
  have m8 := hm.c8
  have hst : Shut (∀ n, ZcSt mg t fr td pr w (w.drewN n)) := fun n => ⟨(Below.refl _ _).trans ⟨rfl, rfl, rfl, Nat.le_refl _, fun _ _ => rfl⟩, hm⟩
  have hrep := lay (fun (r : List UInt8) (c : UInt8) (hr : r.length ≤ 1000) V => zr_replace r c hr V)
  have l1 : (cut1 l (pcAt p fr) fr td).length ≤ 100 := Nat.le_trans (cutK_len _ _ _) hl
  have l2 : (cut2 l (pcAt p fr) fr td).length ≤ 100 := Nat.le_trans (cutK_len _ _ _) l1
  have l3 : (cut3 l (pcAt p fr) fr td).length ≤ 100 := Nat.le_trans (cutK_len _ _ _) l2
  have l4 : (cut4 l (pcAt p fr) fr td).length ≤ 100 := Nat.le_trans (cutK_len _ _ _) l3
  have hfin : Shut (updTxt l (pcAt p fr) fr td = if cut4 l (pcAt p fr) fr td = [] then bs [45] else bs (cut4 l (pcAt p fr) fr td)) := rfl
  have h4 : Shut (cut4 l (pcAt p fr) fr td = cutK (cut3 l (pcAt p fr) fr td) 113 (tstK (pcAt p fr) fr td 7 56)) := rfl
  have h3 : Shut (cut3 l (pcAt p fr) fr td = cutK (cut2 l (pcAt p fr) fr td) 107 (tstK (pcAt p fr) fr td 7 63)) := rfl
  have h2 : Shut (cut2 l (pcAt p fr) fr td = cutK (cut1 l (pcAt p fr) fr td) 81 (tstK (pcAt p fr) fr td 1 0)) := rfl
  have h1 : Shut (cut1 l (pcAt p fr) fr td = cutK l 75 (tstK (pcAt p fr) fr td 1 7)) := rfl
  have hP0 : 0 ≤ pcAt p fr := hp.lo _ (by omega)
  have hP1 : pcAt p fr ≤ 12 := hp.hi _ (by omega)
  generalize updTxt l (pcAt p fr) fr td = res at *
  generalize cut4 l (pcAt p fr) fr td = r4 at *
  generalize cut3 l (pcAt p fr) fr td = r3 at *
  generalize cut2 l (pcAt p fr) fr td = r2 at *
  generalize cut1 l (pcAt p fr) fr td = r1 at *
  generalize pcAt p fr = P at *
  clear hpg hbg hm hA hp
  go_enter Tryz.func82, Tryz.ntmps82
  go_wp2_with fail
  go_quiet (first | (go_at_call 83; refine va_quiet (hpc.out _)))
  have st := lay (hst.out nq)
  generalize w.drewN nq = w1 at *
  clear c0 c1 m8
  have m8 := st.out.2.c8
  have m9 := st.out.2.c9
  have hr := lay (hrep.out l 75 (by omega) w1)
  go_upto_region 3 with fail
  go_cut [35] (fun s5 wx => s5 = .bool (tstK P fr td 1 7) ∧ wx = w1)
  case first =>
    by_cases q0 : P = 1
    · have qd : decide (P = 1) = true := decide_eq_true q0
      have e : Shut (tstK P fr td 1 7 = true) := by show _ = _; unfold tstK; simp [q0]
      go_wp2_with fail
      go_meet
      exact ⟨by first | rfl | (rw [e.out]; first | done | rfl), rfl⟩
    have qb0 : (P == 1) = false := by simpa using q0
    by_cases q1 : fr = 7
    · have qd : decide (fr = 7) = true := decide_eq_true q1
      have e : Shut (tstK P fr td 1 7 = true) := by show _ = _; unfold tstK; simp [q1]
      go_wp2_with fail
      go_meet
      exact ⟨by first | rfl | (rw [e.out]; first | done | rfl), rfl⟩
    have qb1 : (fr == 7) = false := by simpa using q1
    by_cases q2 : td = 7
    · have qd : decide (td = 7) = true := decide_eq_true q2
      have e : Shut (tstK P fr td 1 7 = true) := by show _ = _; unfold tstK; simp [q2]
      go_wp2_with fail
      go_meet
      exact ⟨by first | rfl | (rw [e.out]; first | done | rfl), rfl⟩
    have qb2 : (td == 7) = false := by simpa using q2
    have e : Shut (tstK P fr td 1 7 = false) := by show _ = _; unfold tstK; rw [qb0, qb1, qb2]; rfl
    go_wp2_with fail
    go_meet
    exact ⟨by first | rfl | (rw [e.out]; first | done | rfl), rfl⟩
  case rest =>
    obtain ⟨rfl, rfl⟩ := hcut
    have hk := h1.out
    generalize tstK P fr td 1 7 = b1 at *
    have hks : Shut (r1 = cutK l 75 b1) := hk
    clear hk m8 m9
    go_upto_if 35 with fail
    go_cut [5] (fun s5 wx => s5 = .string (bs r1) ∧ ZcSt mg t fr td pr w wx)
    case first =>
      cases b1 with
      | true =>
        go_wp2_with fail
        refine hr.out.mono ?_
        rintro e1 w2 ⟨rfl, hb2⟩
        have hbs := lay hb2
        clear hb2
        go_wp2_with fail
        go_meet
        exact ⟨by rw [hks.out]; rfl, st.out.1.trans (hbs.out.mono st.out.1.size), (hbs.out.block _ (Array.getElem?_eq_some_iff.1 st.out.2).1).trans st.out.2⟩
      | false =>
        go_wp2_with fail
        go_meet
        exact ⟨by rw [hks.out]; rfl, st.out⟩
    case rest =>
      obtain ⟨rfl, hcs⟩ := hcut
      have st := lay hcs
      clear hcs
      have m8 := st.out.2.c8
      have m9 := st.out.2.c9
      have hr := lay (hrep.out r1 81 (by omega) wc)
      go_upto_region 5 with fail
      go_cut [53] (fun s5 wx => s5 = .bool (tstK P fr td 1 0) ∧ wx = wc)
      case first =>
        by_cases q0 : P = 1
        · have qd : decide (P = 1) = true := decide_eq_true q0
          have e : Shut (tstK P fr td 1 0 = true) := by show _ = _; unfold tstK; simp [q0]
          go_wp2_with fail
          go_meet
          exact ⟨by first | rfl | (rw [e.out]; first | done | rfl), rfl⟩
        have qb0 : (P == 1) = false := by simpa using q0
        by_cases q1 : fr = 0
        · have qd : decide (fr = 0) = true := decide_eq_true q1
          have e : Shut (tstK P fr td 1 0 = true) := by show _ = _; unfold tstK; simp [q1]
          go_wp2_with fail
          go_meet
          exact ⟨by first | rfl | (rw [e.out]; first | done | rfl), rfl⟩
        have qb1 : (fr == 0) = false := by simpa using q1
        by_cases q2 : td = 0
        · have qd : decide (td = 0) = true := decide_eq_true q2
          have e : Shut (tstK P fr td 1 0 = true) := by show _ = _; unfold tstK; simp [q2]
          go_wp2_with fail
          go_meet
          exact ⟨by first | rfl | (rw [e.out]; first | done | rfl), rfl⟩
        have qb2 : (td == 0) = false := by simpa using q2
        have e : Shut (tstK P fr td 1 0 = false) := by show _ = _; unfold tstK; rw [qb0, qb1, qb2]; rfl
        go_wp2_with fail
        go_meet
        exact ⟨by first | rfl | (rw [e.out]; first | done | rfl), rfl⟩
      case rest =>
        obtain ⟨rfl, rfl⟩ := hcut
        have hk := h2.out
        generalize tstK P fr td 1 0 = b2 at *
        have hks : Shut (r2 = cutK r1 81 b2) := hk
        clear hk m8 m9
        go_upto_if 53 with fail
        go_cut [5] (fun s5 wx => s5 = .string (bs r2) ∧ ZcSt mg t fr td pr w wx)
        case first =>
          cases b2 with
          | true =>
            go_wp2_with fail
            refine hr.out.mono ?_
            rintro e1 w2 ⟨rfl, hb2⟩
            have hbs := lay hb2
            clear hb2
            go_wp2_with fail
            go_meet
            exact ⟨by rw [hks.out]; rfl, st.out.1.trans (hbs.out.mono st.out.1.size), (hbs.out.block _ (Array.getElem?_eq_some_iff.1 st.out.2).1).trans st.out.2⟩
          | false =>
            go_wp2_with fail
            go_meet
            exact ⟨by rw [hks.out]; rfl, st.out⟩
        case rest =>
          obtain ⟨rfl, hcs⟩ := hcut
          have st := lay hcs
          clear hcs
          have m8 := st.out.2.c8
          have m9 := st.out.2.c9
          have hr := lay (hrep.out r2 107 (by omega) wc)
          go_upto_region 7 with fail
          go_cut [71] (fun s5 wx => s5 = .bool (tstK P fr td 7 63) ∧ wx = wc)
          case first =>
            by_cases q0 : P = 7
            · have qd : decide (P = 7) = true := decide_eq_true q0
              have e : Shut (tstK P fr td 7 63 = true) := by show _ = _; unfold tstK; simp [q0]
              go_wp2_with fail
              go_meet
              exact ⟨by first | rfl | (rw [e.out]; first | done | rfl), rfl⟩
            have qb0 : (P == 7) = false := by simpa using q0
            by_cases q1 : fr = 63
            · have qd : decide (fr = 63) = true := decide_eq_true q1
              have e : Shut (tstK P fr td 7 63 = true) := by show _ = _; unfold tstK; simp [q1]
              go_wp2_with fail
              go_meet
              exact ⟨by first | rfl | (rw [e.out]; first | done | rfl), rfl⟩
            have qb1 : (fr == 63) = false := by simpa using q1
            by_cases q2 : td = 63
            · have qd : decide (td = 63) = true := decide_eq_true q2
              have e : Shut (tstK P fr td 7 63 = true) := by show _ = _; unfold tstK; simp [q2]
              go_wp2_with fail
              go_meet
              exact ⟨by first | rfl | (rw [e.out]; first | done | rfl), rfl⟩
            have qb2 : (td == 63) = false := by simpa using q2
            have e : Shut (tstK P fr td 7 63 = false) := by show _ = _; unfold tstK; rw [qb0, qb1, qb2]; rfl
            go_wp2_with fail
            go_meet
            exact ⟨by first | rfl | (rw [e.out]; first | done | rfl), rfl⟩
          case rest =>
            obtain ⟨rfl, rfl⟩ := hcut
            have hk := h3.out
            generalize tstK P fr td 7 63 = b3 at *
            have hks : Shut (r3 = cutK r2 107 b3) := hk
            clear hk m8 m9
            go_upto_if 71 with fail
            go_cut [5] (fun s5 wx => s5 = .string (bs r3) ∧ ZcSt mg t fr td pr w wx)
            case first =>
              cases b3 with
              | true =>
                go_wp2_with fail
                refine hr.out.mono ?_
                rintro e1 w2 ⟨rfl, hb2⟩
                have hbs := lay hb2
                clear hb2
                go_wp2_with fail
                go_meet
                exact ⟨by rw [hks.out]; rfl, st.out.1.trans (hbs.out.mono st.out.1.size), (hbs.out.block _ (Array.getElem?_eq_some_iff.1 st.out.2).1).trans st.out.2⟩
              | false =>
                go_wp2_with fail
                go_meet
                exact ⟨by rw [hks.out]; rfl, st.out⟩
            case rest =>
              obtain ⟨rfl, hcs⟩ := hcut
              have st := lay hcs
              clear hcs
              have m8 := st.out.2.c8
              have m9 := st.out.2.c9
              have hr := lay (hrep.out r3 113 (by omega) wc)
              go_upto_region 9 with fail
              go_cut [89] (fun s5 wx => s5 = .bool (tstK P fr td 7 56) ∧ wx = wc)
              case first =>
                by_cases q0 : P = 7
                · have qd : decide (P = 7) = true := decide_eq_true q0
                  have e : Shut (tstK P fr td 7 56 = true) := by show _ = _; unfold tstK; simp [q0]
                  go_wp2_with fail
                  go_meet
                  exact ⟨by first | rfl | (rw [e.out]; first | done | rfl), rfl⟩
                have qb0 : (P == 7) = false := by simpa using q0
                by_cases q1 : fr = 56
                · have qd : decide (fr = 56) = true := decide_eq_true q1
                  have e : Shut (tstK P fr td 7 56 = true) := by show _ = _; unfold tstK; simp [q1]
                  go_wp2_with fail
                  go_meet
                  exact ⟨by first | rfl | (rw [e.out]; first | done | rfl), rfl⟩
                have qb1 : (fr == 56) = false := by simpa using q1
                by_cases q2 : td = 56
                · have qd : decide (td = 56) = true := decide_eq_true q2
                  have e : Shut (tstK P fr td 7 56 = true) := by show _ = _; unfold tstK; simp [q2]
                  go_wp2_with fail
                  go_meet
                  exact ⟨by first | rfl | (rw [e.out]; first | done | rfl), rfl⟩
                have qb2 : (td == 56) = false := by simpa using q2
                have e : Shut (tstK P fr td 7 56 = false) := by show _ = _; unfold tstK; rw [qb0, qb1, qb2]; rfl
                go_wp2_with fail
                go_meet
                exact ⟨by first | rfl | (rw [e.out]; first | done | rfl), rfl⟩
              case rest =>
                obtain ⟨rfl, rfl⟩ := hcut
                have hk := h4.out
                generalize tstK P fr td 7 56 = b4 at *
                have hks : Shut (r4 = cutK r3 113 b4) := hk
                clear hk m8 m9
                go_upto_if 89 with fail
                go_cut [5] (fun s5 wx => s5 = .string (bs r4) ∧ ZcSt mg t fr td pr w wx)
                case first =>
                  cases b4 with
                  | true =>
                    go_wp2_with fail
                    refine hr.out.mono ?_
                    rintro e1 w2 ⟨rfl, hb2⟩
                    have hbs := lay hb2
                    clear hb2
                    go_wp2_with fail
                    go_meet
                    exact ⟨by rw [hks.out]; rfl, st.out.1.trans (hbs.out.mono st.out.1.size), (hbs.out.block _ (Array.getElem?_eq_some_iff.1 st.out.2).1).trans st.out.2⟩
                  | false =>
                    go_wp2_with fail
                    go_meet
                    exact ⟨by rw [hks.out]; rfl, st.out⟩
                case rest =>
                  obtain ⟨rfl, hcs⟩ := hcut
                  have hB := lay hcs.1
                  clear hcs
                  have hf := hfin.out
                  by_cases hz : r4 = []
                  · rw [if_pos hz] at hf
                    subst hz
                    have hfs := lay hf
                    clear hf
                    have he : (bs []).toList = [] := bs_list []
                    go_wp2_with fail
                    go_ret
                    exact ⟨by rw [hfs.out]; rfl, hB.out⟩
                  · rw [if_neg hz] at hf
                    have hne : (bs r4).toList.isEmpty = false := by rw [bs_list]; cases r4 with | nil => exact absurd rfl hz | cons => rfl
                    have hnl : ((bs r4).toList == (bs []).toList) = false := by rw [bs_list, bs_list]; simp [hz]
                    have hfs := lay hf
                    clear hf hz
                    go_wp2_with fail
                    go_ret
                    exact ⟨by rw [hfs.out]; rfl, hB.out⟩
end Go.Proofs.YtnjdgooljnbebaaGreatDoor
namespace Go.Proofs.YtnjdgooljnbebaaGreatDoor
open Go Go.RowKit
set_option maxHeartbeats 8000000
set_option linter.unusedSimpArgs false
set_option linter.unusedVariables false
set_option maxRecDepth 100000

theorem ze_r2 : ∀ a < 64, ((sqBit a &&& 71776119061217280#64) != 0#64) = decide (a / 8 = 1) := by decide +kernel
theorem ze_r4 : ∀ a < 64, ((sqBit a &&& 1095216660480#64) != 0#64) = decide (a / 8 = 3) := by decide +kernel
theorem ze_r7 : ∀ a < 64, ((sqBit a &&& 65280#64) != 0#64) = decide (a / 8 = 6) := by decide +kernel
theorem ze_r5 : ∀ a < 64, ((sqBit a &&& 4278190080#64) != 0#64) = decide (a / 8 = 4) := by decide +kernel
def epM (p : List Int) (tn a b : Nat) : Int := if kindOf (p.getD a 0) = 6 ∧ a / 8 = 1 + 5 * tn ∧ b / 8 = 3 + tn then (b : Int) - 8 + 16 * (tn : Int) else -1
theorem ze_ep (p : List Int) (hp : Pos p) (a b tn : Nat) (ha : a < 64) (hb : b < 64) (htn : tn ≤ 1) (hx : 1 ≤ p.getD a 0) (t pr : Int) (pg bg mg : Nat) (cas : ByteArray) (v : Value) (half full ep : Int) (chk : Bool) (w : World)
    (hpg : w.heap[pg]? = some (.cells (posW bg cas v half full tn ep chk) 103 (0, 0))) (hbg : w.heap[bg]? = some (.cells (brd p) 144 (0, 0))) (hm : MvAt mg t (a : Int) (b : Int) pr w) (hA : IntSl w 0 .i8 allL) :
    Calls Tryz.prog 87 #[.pointer (some ⟨pg, 0, none⟩), .pointer (some ⟨mg, 0, none⟩)] w fun e w' => e = .returned (.int .i8 (epM p tn a b)) ∧ ∃ n, w' = w.drewN n := by
  obtain ⟨x, hxx⟩ : ∃ x : Nat, p.getD a 0 = (x : Int) + 1 := ⟨(p.getD a 0 - 1).toNat, by omega⟩
  have hx12 : x < 12 := by have := hp.hi a ha; omega
  have hpc : Shut (∀ n, Calls Tryz.prog 83 #[.pointer (some ⟨bg, 0, none⟩), .int .i8 (a : Int)] (w.drewN n) fun e' w' => e' = .returned (.int .i8 ((x : Int) + 1)) ∧ w.drewN n = w') := fun n => by
    have h := bo_piece p _ _ _ _ _ bg (a : Int) (w.drewN n) (hA.below ((Below.refl _ _).trans ⟨rfl, rfl, rfl, Nat.le_refl _, fun _ _ => rfl⟩)) hbg (by omega) (by omega) (by simpa using hp.lo a ha) (by simpa using hp.hi a ha)
    rw [Int.toNat_natCast, hxx] at h
    exact h
  have hty : Shut (∀ W : World, Calls Tryz.prog 84 #[.int .i8 ((x : Int) + 1)] W fun e w' => e = .returned (.int .i8 ((x : Int) % 6 + 1)) ∧ W = w') := fun W => da_type x hx12 W
  have c0 : w.cell? ⟨pg, 0, none⟩ = some (.pointer (some ⟨bg, 0, none⟩)) := cell_of_row w pg 0 _ _ _ hpg
  have c5 : ∀ n, (w.drewN n).cell? ⟨pg, 5, none⟩ = some (.int .i8 ((tn : Int) + 1)) := fun n => by rw [World.cell?_drewN]; exact cell_of_row w pg 5 _ _ _ hpg
  have d8 : ∀ n, (w.drewN n).cell? ⟨mg, 8, none⟩ = some (.int .i8 (a : Int)) := fun n => by rw [World.cell?_drewN]; exact hm.c8
  have d9 : ∀ n, (w.drewN n).cell? ⟨mg, 9, none⟩ = some (.int .i8 (b : Int)) := fun n => by rw [World.cell?_drewN]; exact hm.c9
  have c5 := lay c5
  have d8 := lay d8
  have d9 := lay d9
  have m8 := hm.c8
  have r2 := ze_r2 a ha
  have r7 := ze_r7 a ha
  have r4 := ze_r4 b hb
  have r5 := ze_r5 b hb
  have hk : kindOf (p.getD a 0) = 6 ↔ x % 6 = 5 := by
    rw [hxx]
    unfold kindOf
    split <;> omega
  have hfin : Shut (epM p tn a b = if x % 6 = 5 ∧ a / 8 = 1 + 5 * tn ∧ b / 8 = 3 + tn then (b : Int) - 8 + 16 * (tn : Int) else -1) := by
    show _ = _
    unfold epM
    simp only [hk]
  have e8 : ((a : Int)).toNat = a := Int.toNat_natCast a
  have e9 : ((b : Int)).toNat = b := Int.toNat_natCast b
  have hsa := lay (fun V => sq_bit (a : Int) V (by omega) (by omega))
  have hsb := lay (fun V => sq_bit (b : Int) V (by omega) (by omega))
  rw [e8] at hsa
  rw [e9] at hsb
  have hb0 : (0 : Int) ≤ (b : Int) := by omega
  have hb1 : (b : Int) ≤ 63 := by omega
  generalize epM p tn a b = res at *
  clear hpg hbg hm hA hp hxx hx hk e8 e9
  by_cases hk : x % 6 = 5
  · have hk6 : ((x : Int) % 6 + 1 != 6) = false := by
      have : (x : Int) % 6 = 5 := by omega
      rw [this]
      rfl
    have hks := lay hk
    clear hk
    by_cases q1 : a / 8 = 1 + 5 * tn
    · by_cases q2 : b / 8 = 3 + tn
      · have hr := hfin.out
        rw [if_pos ⟨hks.out, q1, q2⟩] at hr
        have hrs := lay hr
        clear hr hfin
        rcases (show tn = 0 ∨ tn = 1 by omega) with rfl | rfl
        · rw [decide_eq_true (by omega)] at r2 r4
          rw [decide_eq_false (by omega)] at r7 r5
          go_enter Tryz.func87, Tryz.ntmps87
          go_wp2_with fail
          go_quiet (first | (go_at_call 83; refine va_quiet (hpc.out _)))
          have k5 := c5.out nq
          have k8 := d8.out nq
          have k9 := d9.out nq
          generalize hW : w.drewN nq = W at *
          have hWs := lay hW
          clear hW c0 m8
          go_wp2_with (first
            | (go_at_call 84; refine (hty.out _).mono ?_; rintro e1 w1 ⟨rfl, rfl⟩)
            | (go_at_call 107; with_reducible refine (hsa.out _).mono ?_; rintro e1 w1 ⟨rfl, rfl⟩)
            | (go_at_call 107; with_reducible refine (hsb.out _).mono ?_; rintro e1 w1 ⟨rfl, rfl⟩))
          go_ret
          exact ⟨by rw [hrs.out]; first | done | rfl | (simp; done) | (simp; omega), nq, hWs.out.symm⟩
        · rw [decide_eq_true (by omega)] at r7 r5
          rw [decide_eq_false (by omega)] at r2 r4
          go_enter Tryz.func87, Tryz.ntmps87
          go_wp2_with fail
          go_quiet (first | (go_at_call 83; refine va_quiet (hpc.out _)))
          have k5 := c5.out nq
          have k8 := d8.out nq
          have k9 := d9.out nq
          generalize hW : w.drewN nq = W at *
          have hWs := lay hW
          clear hW c0 m8
          go_wp2_with (first
            | (go_at_call 84; refine (hty.out _).mono ?_; rintro e1 w1 ⟨rfl, rfl⟩)
            | (go_at_call 107; with_reducible refine (hsa.out _).mono ?_; rintro e1 w1 ⟨rfl, rfl⟩)
            | (go_at_call 107; with_reducible refine (hsb.out _).mono ?_; rintro e1 w1 ⟨rfl, rfl⟩))
          go_ret
          exact ⟨by rw [hrs.out]; first | done | rfl | (simp; done) | (simp; omega), nq, hWs.out.symm⟩
      · have hr := hfin.out
        rw [if_neg (fun h => q2 h.2.2)] at hr
        have hrs := lay hr
        clear hr hfin
        rcases (show tn = 0 ∨ tn = 1 by omega) with rfl | rfl
        · rw [decide_eq_true (by omega)] at r2
          rw [decide_eq_false (by omega)] at r4
          clear r5 r7
          go_enter Tryz.func87, Tryz.ntmps87
          go_wp2_with fail
          go_quiet (first | (go_at_call 83; refine va_quiet (hpc.out _)))
          have k5 := c5.out nq
          have k8 := d8.out nq
          have k9 := d9.out nq
          generalize hW : w.drewN nq = W at *
          have hWs := lay hW
          clear hW c0 m8
          go_wp2_with (first
            | (go_at_call 84; refine (hty.out _).mono ?_; rintro e1 w1 ⟨rfl, rfl⟩)
            | (go_at_call 107; with_reducible refine (hsa.out _).mono ?_; rintro e1 w1 ⟨rfl, rfl⟩)
            | (go_at_call 107; with_reducible refine (hsb.out _).mono ?_; rintro e1 w1 ⟨rfl, rfl⟩))
          go_ret
          exact ⟨by rw [hrs.out]; first | done | rfl | (simp; done) | (simp; omega), nq, hWs.out.symm⟩
        · rw [decide_eq_true (by omega)] at r7
          rw [decide_eq_false (by omega)] at r5
          clear r2 r4
          go_enter Tryz.func87, Tryz.ntmps87
          go_wp2_with fail
          go_quiet (first | (go_at_call 83; refine va_quiet (hpc.out _)))
          have k5 := c5.out nq
          have k8 := d8.out nq
          have k9 := d9.out nq
          generalize hW : w.drewN nq = W at *
          have hWs := lay hW
          clear hW c0 m8
          go_wp2_with (first
            | (go_at_call 84; refine (hty.out _).mono ?_; rintro e1 w1 ⟨rfl, rfl⟩)
            | (go_at_call 107; with_reducible refine (hsa.out _).mono ?_; rintro e1 w1 ⟨rfl, rfl⟩)
            | (go_at_call 107; with_reducible refine (hsb.out _).mono ?_; rintro e1 w1 ⟨rfl, rfl⟩))
          go_ret
          exact ⟨by rw [hrs.out]; first | done | rfl | (simp; done) | (simp; omega), nq, hWs.out.symm⟩
    · have hr := hfin.out
      rw [if_neg (fun h => q1 h.2.1)] at hr
      have hrs := lay hr
      clear hr hfin
      rcases (show tn = 0 ∨ tn = 1 by omega) with rfl | rfl
      · rw [decide_eq_false (by omega)] at r2
        clear r5 r7
        go_enter Tryz.func87, Tryz.ntmps87
        go_wp2_with fail
        go_quiet (first | (go_at_call 83; refine va_quiet (hpc.out _)))
        have k5 := c5.out nq
        have k8 := d8.out nq
        have k9 := d9.out nq
        generalize hW : w.drewN nq = W at *
        have hWs := lay hW
        clear hW c0 m8
        go_wp2_with (first
          | (go_at_call 84; refine (hty.out _).mono ?_; rintro e1 w1 ⟨rfl, rfl⟩)
          | (go_at_call 107; with_reducible refine (hsa.out _).mono ?_; rintro e1 w1 ⟨rfl, rfl⟩)
          | (go_at_call 107; with_reducible refine (hsb.out _).mono ?_; rintro e1 w1 ⟨rfl, rfl⟩))
        go_ret
        exact ⟨by rw [hrs.out]; first | done | rfl | (simp; done) | (simp; omega), nq, hWs.out.symm⟩
      · rw [decide_eq_false (by omega)] at r7
        clear r2 r4
        go_enter Tryz.func87, Tryz.ntmps87
        go_wp2_with fail
        go_quiet (first | (go_at_call 83; refine va_quiet (hpc.out _)))
        have k5 := c5.out nq
        have k8 := d8.out nq
        have k9 := d9.out nq
        generalize hW : w.drewN nq = W at *
        have hWs := lay hW
        clear hW c0 m8
        go_wp2_with (first
          | (go_at_call 84; refine (hty.out _).mono ?_; rintro e1 w1 ⟨rfl, rfl⟩)
          | (go_at_call 107; with_reducible refine (hsa.out _).mono ?_; rintro e1 w1 ⟨rfl, rfl⟩)
          | (go_at_call 107; with_reducible refine (hsb.out _).mono ?_; rintro e1 w1 ⟨rfl, rfl⟩))
        go_ret
        exact ⟨by rw [hrs.out]; first | done | rfl | (simp; done) | (simp; omega), nq, hWs.out.symm⟩
  · have hk6 : ((x : Int) % 6 + 1 != 6) = true := by
      have : (x : Int) % 6 ≠ 5 := by omega
      simp
      omega
    have hr := hfin.out
    rw [if_neg (fun h => hk h.1)] at hr
    have hrs := lay hr
    clear hr hfin hk r2 r4 r5 r7
    go_enter Tryz.func87, Tryz.ntmps87
    go_wp2_with fail
    go_quiet (first | (go_at_call 83; refine va_quiet (hpc.out _)))
    generalize hW : w.drewN nq = W at *
    have hWs := lay hW
    clear hW c0 m8
    go_wp2_with (go_at_call 84; refine (hty.out _).mono ?_; rintro e1 w1 ⟨rfl, rfl⟩)
    go_ret
    exact ⟨by rw [hrs.out]; rfl, nq, hWs.out.symm⟩
end Go.Proofs.YtnjdgooljnbebaaGreatDoor
namespace Go.Proofs.YtnjdgooljnbebaaGreatDoor
open Go Go.RowKit
set_option maxHeartbeats 8000000
set_option linter.unusedSimpArgs false
set_option linter.unusedVariables false
set_option maxRecDepth 100000

theorem tg_and4 (t : Tg) : decide (bits .and .u16 4 (tgN t) > 0) = t.cp := by
  obtain ⟨a, b, c, d, e, f⟩ := t
  cases a <;> cases b <;> cases c <;> cases d <;> cases e <;> cases f <;> decide
theorem tg_and16 (t : Tg) : decide (bits .and .u16 16 (tgN t) > 0) = t.ck := by
  obtain ⟨a, b, c, d, e, f⟩ := t
  cases a <;> cases b <;> cases c <;> cases d <;> cases e <;> cases f <;> decide
/-- The half moves behind a move. -/
def halfN (half : Int) (x : Nat) (c : Bool) : Int := if x % 6 = 5 ∨ c = true then 0 else half + 1
def UpdPost (p : List Int) (tn : Nat) (m : Mv) (t : Tg) (l : List UInt8) (half full : Int) (x : Nat) (w : World) (e : Ending) (w' : World) : Prop :=
  ∃ ng nb, e = .returned (.pointer (some ⟨ng, 0, none⟩)) ∧ w.heap.size ≤ ng ∧ w.heap.size ≤ nb ∧ nb ≠ ng ∧ w'.heap[ng]? = some (.cells (posW nb (updTxt l (pcAt p m.fr) m.fr m.2) (.slice none 0 0) (halfN half x t.cp) (full + (tn : Int)) (1 - (tn : Int)) (epM p tn m.fr.toNat m.2.toNat) t.ck) 103 (0, 0)) ∧
    w'.heap[nb]? = some (.cells (brd (madeB p m)) 144 (0, 0)) ∧ Below w.heap.size w w'
theorem zu_update (p : List Int) (tn : Nat) (hs : Sound p tn) (m : Mv) (h : GoodM p tn m) (hkt : kindOf (pcAt p m.2) ≠ 1) (t : Tg) (hep : t.ep = passM p m) (hks : t.ks = (castM p m && decide (m.2 = m.fr + 2))) (hqs : t.qs = (castM p m && decide (m.2 = m.fr - 2))) (x : Nat) (hx : pcAt p m.fr = (x : Int) + 1)
    (l : List UInt8) (hl : l.length ≤ 100) (pg bg mg : Nat) (v : Value) (half full ep : Int) (chk : Bool) (h0 : 0 ≤ half) (h1 : half ≤ 1000000) (u0 : 0 ≤ full) (u1 : full ≤ 1000000) (w : World)
    (hpg : w.heap[pg]? = some (.cells (posW bg (bs l) v half full tn ep chk) 103 (0, 0))) (hbg : w.heap[bg]? = some (.cells (brd p) 144 (0, 0))) (hm : MvAt mg (tgN t) m.fr m.2 m.pr w) (hA : IntSl w 0 .i8 allL) :
    Calls Tryz.prog 44 #[.pointer (some ⟨pg, 0, none⟩), .pointer (some ⟨mg, 0, none⟩)] w (UpdPost p tn m t l half full x w) := by
  obtain ⟨f0, f1, t0, t1, r0, r1⟩ := h.ok
  have htn := hs.one
  have hx12 : x < 12 := by have := hs.pos.hi m.fr.toNat (by omega); have e : p.getD m.fr.toNat 0 = (x : Int) + 1 := hx; omega
  have hpl : pg < w.heap.size := (Array.getElem?_eq_some_iff.1 hpg).1
  have hbl : bg < w.heap.size := (Array.getElem?_eq_some_iff.1 hbg).1
  have hml : mg < w.heap.size := (Array.getElem?_eq_some_iff.1 hm).1
  have hzc := lay (zc_walk p hs.pos l hl m.fr m.2 (tgN t) m.pr f0 f1 t0 t1 pg bg mg tn v half full ep chk w hpg hbg hm hA)
  have hrw : Shut (∀ V, (∀ j, j < w.heap.size → V.heap[j]? = w.heap[j]?) → V.heap[pg]? = some (.cells (posW bg (bs l) v half full tn ep chk) 103 (0, 0)) ∧ V.heap[bg]? = some (.cells (brd p) 144 (0, 0)) ∧ MvAt mg (tgN t) m.fr m.2 m.pr V) := fun V hV => ⟨(hV pg hpl).trans hpg, (hV bg hbl).trans hbg, (hV mg hml).trans hm⟩
  have hpc : Shut (∀ V n, Below w.heap.size w V → Calls Tryz.prog 83 #[.pointer (some ⟨bg, 0, none⟩), .int .i8 m.fr] (V.drewN n) fun e' w' => e' = .returned (.int .i8 ((x : Int) + 1)) ∧ V.drewN n = w') := fun V n hV => by
    have hh := bo_piece p _ _ _ _ _ bg m.fr (V.drewN n) ((hA.below hV).below ((Below.refl _ _).trans ⟨rfl, rfl, rfl, Nat.le_refl _, fun _ _ => rfl⟩)) ((hV.block bg hbl).trans hbg) f0 f1 (hs.pos.lo _ (by omega)) (hs.pos.hi _ (by omega))
    have e : p.getD m.fr.toNat 0 = (x : Int) + 1 := hx
    rw [e] at hh
    exact hh
  have hty : Shut (∀ W : World, Calls Tryz.prog 84 #[.int .i8 ((x : Int) + 1)] W fun e w' => e = .returned (.int .i8 ((x : Int) % 6 + 1)) ∧ W = w') := fun W => da_type x hx12 W
  have hh4 := lay (fun (V : World) (hV : MvAt mg (tgN t) m.fr m.2 m.pr V) => vc_has mg (tgN t) _ _ _ 4 V hV t.cp (tg_and4 t))
  have hh16 := lay (fun (V : World) (hV : MvAt mg (tgN t) m.fr m.2 m.pr V) => vc_has mg (tgN t) _ _ _ 16 V hV t.ck (tg_and16 t))
  have hcop := lay (fun W h => vc_copy (bbF p) (whiteB p) (blackB p) (~~~(whiteB p ||| blackB p)) (lastK p 1 64) (lastK p 7 64) bg W h)
  have hupd := lay (fun (g : Nat) (V : World) hg hmv hne hB hg0 => vu_update p tn hs m h hkt t hep hks hqs g mg w V hg hmv hne hB hg0 hA)
  have hzep := lay (fun (V : World) h1 h2 (h3 : MvAt mg (tgN t) m.fr m.2 m.pr V) (hV : Below w.heap.size w V) => ze_ep p hs.pos m.fr.toNat m.2.toNat tn (by omega) (by omega) htn (show 1 ≤ pcAt p m.fr by omega) (tgN t) m.pr pg bg mg (bs l) v half full ep chk V h1 h2 (by rw [Int.toNat_of_nonneg f0, Int.toNat_of_nonneg t0]; exact h3) (hA.below hV))
  have hoth := lay (fun V => da_other (tn : Int) V (by omega) (by omega))
  have c4 : w.cell? ⟨pg, 4, none⟩ = some (.int .i64 full) := cell_of_row w pg 4 _ _ _ hpg
  have c5 : w.cell? ⟨pg, 5, none⟩ = some (.int .i8 ((tn : Int) + 1)) := cell_of_row w pg 5 _ _ _ hpg
  have hlts := lay (And.intro hpl (And.intro hbl hml))
  clear hpg hbg hm hA hs h hkt hep hks hqs hl hx hpl hbl hml
  obtain ⟨ct, hct⟩ : ∃ s, updTxt l (pcAt p m.fr) m.fr m.2 = s := ⟨_, rfl⟩
  obtain ⟨ne, hne⟩ : ∃ s, epM p tn m.fr.toNat m.2.toNat = s := ⟨_, rfl⟩
  obtain ⟨cp, hcp⟩ : ∃ s, t.cp = s := ⟨_, rfl⟩
  obtain ⟨ck, hck⟩ : ∃ s, t.ck = s := ⟨_, rfl⟩
  rw [hct] at hzc
  rw [hne] at hzep
  rw [hcp] at hh4
  rw [hck] at hh16
  have hpost : Shut (∀ ng nb w', w.heap.size ≤ ng → w.heap.size ≤ nb → nb ≠ ng → w'.heap[ng]? = some (.cells (posW nb ct (.slice none 0 0) (halfN half x cp) (full + (tn : Int)) (1 - (tn : Int)) ne ck) 103 (0, 0)) → w'.heap[nb]? = some (.cells (brd (madeB p m)) 144 (0, 0)) → Below w.heap.size w w' → UpdPost p tn m t l half full x w (.returned (.pointer (some ⟨ng, 0, none⟩))) w') := by
    intro ng nb w' h1 h2 h3 h4 h5 h6
    rw [← hct, ← hne, ← hcp, ← hck] at h4
    exact ⟨ng, nb, rfl, h1, h2, h3, h4, h5, h6⟩
  clear hct hne hcp hck
  go_enter Tryz.func44, Tryz.ntmps44
  go_upto_if 18 with fail
  go_cut [5] (fun s wx => s = .int .i64 (full + (tn : Int)) ∧ wx = w)
  case first =>
    rcases (show tn = 0 ∨ tn = 1 by omega) with rfl | rfl
    all_goals
      go_wp2_with fail
      go_meet
      exact ⟨by simp, rfl⟩
  case rest =>
  obtain ⟨rfl, hw⟩ := hcut
  obtain rfl : w = wc := hw.symm
  clear c4 c5
  go_wp2_with fail
  refine hzc.out.mono ?_
  rintro e1 w1 ⟨rfl, hb1⟩
  have hb1s := lay hb1
  have d0 : w1.cell? ⟨pg, 0, none⟩ = some (.pointer (some ⟨bg, 0, none⟩)) := cell_of_row w1 pg 0 _ _ _ (hrw.out w1 hb1.block).1
  have d8 := (hrw.out w1 hb1.block).2.2.c8
  clear hb1
  go_wp2_with fail
  go_quiet (first | (go_at_call 83; refine va_quiet (hpc.out _ _ hb1s.out)))
  have hbW : Shut (Below w.heap.size w (w1.drewN nq)) := hb1s.out.trans ⟨rfl, rfl, rfl, Nat.le_refl _, fun _ _ => rfl⟩
  generalize w1.drewN nq = W1 at *
  have e0 : W1.cell? ⟨pg, 0, none⟩ = some (.pointer (some ⟨bg, 0, none⟩)) := cell_of_row W1 pg 0 _ _ _ (hrw.out W1 hbW.out.block).1
  have e3 : W1.cell? ⟨pg, 3, none⟩ = some (.int .i64 half) := cell_of_row W1 pg 3 _ _ _ (hrw.out W1 hbW.out.block).1
  clear d0 d8
  have hr1 := lay (hrw.out W1 hbW.out.block)
  go_upto_region 9 with fail
  go_cut [67] (fun s wx => s = .bool (decide (x % 6 = 5) || cp) ∧ wx = W1)
  case first =>
    by_cases hk : x % 6 = 5
    · have hk6 : ((x : Int) % 6 + 1 == 6) = true := by
        have : (x : Int) % 6 = 5 := by omega
        rw [this]
        rfl
      have hks := lay hk
      clear hk
      go_wp2_with (first
        | (go_at_call 84; refine (hty.out _).mono ?_; rintro e2 w2 ⟨rfl, rfl⟩)
        | (go_at_call 85; refine (hh4.out _ hr1.out.2.2).mono ?_; rintro e2 w2 ⟨rfl, rfl⟩))
      go_meet
      exact ⟨by rw [decide_eq_true hks.out]; rfl, rfl⟩
    · have hk6 : ((x : Int) % 6 + 1 == 6) = false := by
        have : (x : Int) % 6 ≠ 5 := by omega
        simp
        omega
      have hks := lay hk
      clear hk
      go_wp2_with (first
        | (go_at_call 84; refine (hty.out _).mono ?_; rintro e2 w2 ⟨rfl, rfl⟩)
        | (go_at_call 85; refine (hh4.out _ hr1.out.2.2).mono ?_; rintro e2 w2 ⟨rfl, rfl⟩))
      go_meet
      exact ⟨by rw [decide_eq_false hks.out]; rfl, rfl⟩
  case rest =>
  obtain ⟨rfl, hw⟩ := hcut
  obtain rfl : W1 = wc := hw.symm
  obtain ⟨bz, hbz⟩ : ∃ b, (decide (x % 6 = 5) || cp) = b := ⟨_, rfl⟩
  obtain ⟨hn, hhn⟩ : ∃ z, halfN half x cp = z := ⟨_, rfl⟩
  have hhz : Shut (hn = if bz = true then 0 else half + 1) := by
    show _ = _
    rw [← hhn, ← hbz]
    unfold halfN
    simp
  rw [hhn] at hpost
  rw [hbz]
  clear hbz hhn
  go_upto_if 67 with fail
  go_cut [8] (fun s wx => s = .int .i64 hn ∧ wx = W1)
  case first =>
    cases bz with
    | true =>
      go_wp2_with fail
      go_meet
      exact ⟨by rw [hhz.out]; rfl, rfl⟩
    | false =>
      go_wp2_with fail
      go_meet
      exact ⟨by rw [hhz.out]; rfl, rfl⟩
  case rest =>
  obtain ⟨rfl, hw⟩ := hcut
  obtain rfl : W1 = wc := hw.symm
  clear e3
  have hc1 := lay (hcop.out W1 hr1.out.2.1)
  have hW1s : w.heap.size ≤ W1.heap.size := hbW.out.size
  have hW1 := lay hW1s
  clear hW1s
  go_wp2_with fail
  refine hc1.out.mono ?_
  rintro e2 w2 ⟨rfl, hg2, hb2⟩
  have hb2w := lay (hbW.out.trans (hb2.mono hW1.out))
  have hu := lay (hupd.out W1.heap.size w2 hg2 (hrw.out w2 hb2w.out.block).2.2 (by have := hlts.out.2.2; have := hW1.out; omega) hb2w.out hW1.out)
  have hl2 : Shut (W1.heap.size < w2.heap.size) := (Array.getElem?_eq_some_iff.1 hg2).1
  clear hg2 hb2 e0
  go_wp2_with fail
  refine hu.out.mono ?_
  rintro e3 w3 ⟨rfl, hg3, hO3⟩
  have hb3 := lay (hO3.2 w.heap.size w hW1.out hb2w.out)
  have hr3 := lay (hrw.out w3 hb3.out.block)
  have g5 : w3.cell? ⟨pg, 5, none⟩ = some (.int .i8 ((tn : Int) + 1)) := cell_of_row w3 pg 5 _ _ _ hr3.out.1
  have hg3s := lay hg3
  have hz := lay (hzep.out w3 hr3.out.1 hr3.out.2.1 hr3.out.2.2 hb3.out)
  have hl3 : Shut (W1.heap.size < w3.heap.size) := (Array.getElem?_eq_some_iff.1 hg3).1
  have hs3 : Shut (w.heap.size ≤ w3.heap.size) := hb3.out.size
  clear hg3 hO3
  go_wp2_with (first
    | (go_at_call 81; refine (hoth.out _).mono ?_; rintro e4 w4 ⟨rfl, rfl⟩)
    | (go_at_call 87; refine hz.out.mono ?_; rintro e5 w5 ⟨rfl, ⟨n5, rfl⟩⟩)
    | (go_at_call 85; refine (hh16.out (w3.drewN n5) hr3.out.2.2).mono ?_; rintro e6 w6 ⟨rfl, rfl⟩))
  go_ret
  refine hpost.out w3.heap.size W1.heap.size _ hs3.out hW1.out (by have := hl3.out; omega) ?_ ((heap_alloc_old _ _ hl3.out).trans hg3s.out) ?_
  · have e : posW W1.heap.size ct (.slice none 0 0) hn (full + (tn : Int)) (1 - (tn : Int)) ne ck = #[.pointer (some ⟨W1.heap.size, 0, none⟩), .string ct, .slice none 0 0, .int .i64 hn, .int .i64 (full + (tn : Int)), .int .i8 (2 - (tn : Int)), .int .i8 ne, .bool ck] := by
      unfold posW
      rw [show 1 - (tn : Int) + 1 = 2 - (tn : Int) by omega]
    rw [e]
    exact heap_alloc_new (w3.drewN n5) _
  · have hd : Below w.heap.size w (w3.drewN n5) := hb3.out.trans ⟨rfl, rfl, rfl, Nat.le_refl _, fun _ _ => rfl⟩
    exact hd.alloc (show w.heap.size ≤ (w3.drewN n5).heap.size from hs3.out) _
end Go.Proofs.YtnjdgooljnbebaaGreatDoor
