/- A board's text is read as the board: the walk of the package's reader. For every board of pieces from 0 to 12. -/
import Derived.Test.YtnpklkenjaambaaDoorFb
import Derived.Great.Walk
namespace Go.Proofs.YtnpklkenjaambaaDoor
open Go Go.RowKit Go.Maps
set_option maxHeartbeats 8000000
set_option linter.unusedSimpArgs false
set_option linter.unusedVariables false
set_option maxRecDepth 100000

theorem fc_lay {p : Prop} (h : p) : Shut p := h
theorem fc_makeS (w : World) (h : Int) : (Instr.makeMap 74 (some (.int .i64 h))).run Tryd.prog w = .ok (.map (some w.heap.size)) (w.alloc (.map #[] 0)) := by
  simp [Instr.makeMap, run_underlying Tryd.underlying74, asInt]
  rfl
theorem fc_makeF (w : World) (h : Int) : (Instr.makeMap 98 (some (.int .i64 h))).run Tryd.prog w = .ok (.map (some w.heap.size)) (w.alloc (.map #[] 0)) := by
  simp [Instr.makeMap, run_underlying Tryd.underlying98, asInt]
  rfl
theorem hm_own {w w' : World} {b n r : Nat} {D : DataW Unit} (h : ownF w b n D) (hg : w.grownBy w' (some r)) (hne : b ≠ r := by omega) : ownF w' b n D := h.kept hg (by simp; omega)
theorem fc_board (p : List Int) (hp : ∀ i, i < 64 → 0 ≤ p.getD i 0 ∧ p.getD i 0 ≤ 12) (w : World) (hA : IntSl w 1 .i8 allL) (hc : IntTab w 4 .i8 fcL) :
    Calls Tryd.prog 42 #[.string (bs (txBoard p))] w fun e w' => ∃ g, e = .returned (.tuple #[.pointer (some ⟨g, 0, none⟩), .nilIface]) ∧ w'.heap[g]? = some (.cells (brd p) 59 (0, 0)) ∧ w.heap.size ≤ g ∧ Below w.heap.size w w' := by
  obtain ⟨i0, hi, hz0, hz1, hz2⟩ := info_parts (show (Tryd.prog.info? 9).map (fun i => (i.zero, i.size, i.bytes)) = some (some (.string ByteArray.empty), 1, 16) by kernel_rfl)
  have hms := fc_makeS
  have hmf := fc_makeF
  have hspl := fc_lay (splL_board p hp)
  have hsl := txBoard_size p
  have hAs := fc_lay hA
  have hcs := fc_lay hc
  clear hA hc
  have hsz := bs_size (txBoard p)
  have hget : Shut (∀ (k : Nat) (h : k < (bs (txBoard p)).size), (bs (txBoard p))[k]'h = (txBoard p).getD k 0) := bs_get (txBoard p)
  generalize txBoard p = T at *
  go_enter Tryd.func42, Tryd.ntmps42
  go_wp2_with fail
  refine (cm_Square w.heap.size 0 (.map []) _ (((World.ownsMap_made w _ _ _).alloc _).alloc _)).mono ?_
  rintro e w1 ⟨rfl, ho1, hg1⟩
  go_wp2_with fail
  have hw0s : (((w.alloc (.map #[] 0)).alloc (.map #[] 0)).alloc (.cells (bufC []) 22)).heap.size = w.heap.size + 1 + 1 + 1 := by simp
  have hsz1 : w.heap.size + 1 + 1 + 1 ≤ w1.heap.size := by have := hg1.size; rw [← hw0s]; exact this
  have ho1f : ownF w1 (w.heap.size + 1) 0 (.map []) := by
    have h0 := ((World.ownsMap_made (H := Unit) (w.alloc (.map #[] 0)) Tryd.prog 95 (plainElem (H := Unit) Tryd.prog 75)).alloc (.cells (bufC []) 22)).kept hg1 (by simp)
    simpa using h0
  have hbf1 : w1.heap[w.heap.size + 1 + 1]? = some (.cells (bufC []) 22 (0, 0)) := by
    refine (hg1.block _ (by simp) (by simp; omega)).trans ?_
    exact heap_at _ _ _ (by simp)
  have hbel1 : Below w.heap.size w w1 := below_grown ((((Below.refl _ _).alloc (Nat.le_refl _) _).alloc (by simp) _).alloc (by simp; omega) _) hg1 (Nat.le_refl _)
  clear hg1
  refine (cm_File (w.heap.size + 1) 0 (.map []) _ ho1f).mono ?_
  rintro e w2 ⟨rfl, ho2, hg2⟩
  obtain ⟨cm0, hm1⟩ := owns_empty ho1
  have hm2 : IMap w2 w.heap.size (fun _ => none) 0 := imap_empty ((hg2.block _ (by omega) (by simp)).trans hm1)
  have hbf2 := (hg2.block _ (by omega) (by simp)).trans hbf1
  have hbel2 := below_grown hbel1 hg2 (by omega)
  have hsz2 : w.heap.size + 1 + 1 + 1 ≤ w2.heap.size := Nat.le_trans hsz1 hg2.size
  clear hg2 hm1 hbf1 ho1 ho1f hbel1 hsz1 hw0s
  have hm2s := fc_lay hm2
  have ho2s := fc_lay ho2
  have hbel2s := fc_lay hbel2
  clear hm2 ho2 hbel2
  go_wp2_with fail
  go_loopw [7, 8, 9, 23] (fun rc st _ ct wr => ∃ (i s : Nat), i ≤ T.length ∧ ct = .int .i64 (i : Int) ∧ rc = .int .i64 ((splL (T.take i)).1.length : Int) ∧ st = .int .i64 (s : Int) ∧ s + (splL (T.take i)).2.length = i ∧ wr.heap[w.heap.size + 1 + 1]? = some (.cells (bufC (splL (T.take i)).1) 22 (0, 0)) ∧ w2.grownBy wr (some (w.heap.size + 1 + 1)))
    (fun _ _ _ ct _ => T.length - (intOf ct).toNat)
  case atStart => exact ⟨0, 0, by omega, rfl, rfl, rfl, rfl, hbf2, ⟨rfl, rfl, rfl, Nat.le_refl _, fun _ _ _ => rfl⟩⟩
  case round =>
    obtain ⟨i, s, hi8, rfl, rfl, rfl, hs, hbf, hgw⟩ := hrel
    by_cases hlt : i < T.length
    · have hx := hget.out i (by rw [hsz]; exact hlt)
      have hstp := splL_step T i hlt
      have hcut := splL_cut T i hi8
      have hdl := splL_le T (i + 1)
      rw [hspl.out] at hdl
      generalize T.getD i 0 = c at *
      generalize hsp : splL (T.take i) = dc at *
      obtain ⟨d, cur⟩ := dc
      simp only at hs hbf hcut
      by_cases h47 : c = 47
      · subst h47
        have hst2 : splL (T.take (i + 1)) = (d ++ [cur], []) := hstp
        rw [hst2] at hdl
        have hd6 : d.length ≤ 6 := by simpa [doneL] using hdl
        have hn8 : ¬ (8 : Int) ≤ (d.length : Int) := by omega
        have hex : (bs T).extract s i = bs cur := by rw [bs_extract, ← hcut, show i - cur.length = s by omega]
        have hcl := (cell_of_row _ _ d.length _ _ _ hbf).trans (bufC_at d d.length (by omega))
        have hfz := frozen_of_row wr (w.heap.size + 1 + 1) d.length _ _ hbf
        have hnew := fc_lay (show (wr.setCell ⟨w.heap.size + 1 + 1, d.length, none⟩ (.string (bs cur))).heap[w.heap.size + 1 + 1]? = some (.cells (bufC (d ++ [cur])) 22 (0, 0)) by rw [heap_setCell_same _ _ _ _ _ _ hbf, bufC_set _ _ (by omega)])
        have hgn := fc_lay (hgw.trans (grown_setCell wr ⟨w.heap.size + 1 + 1, d.length, none⟩ (.string (bs cur))))
        have hst3 := fc_lay hst2
        clear hst2 hstp hdl hcut hbf hgw hsp
        go_wp2_with fail
        go_roundw
        case rel => exact ⟨i + 1, i + 1, by omega, by go_num, by rw [hst3.out]; simp, by go_num, by rw [hst3.out]; rfl, by rw [hst3.out]; exact hnew.out, hgn.out⟩
        case measure => simp [intOf]; omega
      · have hst2 : splL (T.take (i + 1)) = (d, cur ++ [c]) := by rw [hstp]; unfold spl; rw [if_neg h47]
        have hn47 : ((c.toNat : Int) == 47) = false := by
          simp
          intro e
          exact h47 (UInt8.toNat_inj.1 (by simp; omega))
        have hst3 := fc_lay hst2
        have hbfs := fc_lay hbf
        have hgs := fc_lay hgw
        clear hst2 hstp hdl hcut hbf hgw hsp h47
        go_wp2_with fail
        go_roundw
        case rel => exact ⟨i + 1, s, by omega, by go_num, by rw [hst3.out], rfl, by rw [hst3.out]; simp; omega, by rw [hst3.out]; exact hbfs.out, hgs.out⟩
        case measure => simp [intOf]; omega
    · obtain rfl : i = T.length := by omega
      rw [List.take_length, hspl.out] at hbf hs
      rw [List.take_length, hspl.out]
      simp only at hbf hs
      have hd7 : (doneL p).length = 7 := by simp [doneL]
      have hR0 := rkT_ne p 0 hp (by omega)
      have hex : (bs T).extract s T.length = bs (rkT p 0) := by
        have hcut := splL_cut T T.length (Nat.le_refl _)
        rw [List.take_length, hspl.out] at hcut
        simp only at hcut
        rw [bs_extract, List.take_length, show s = T.length - (rkT p 0).length by omega]
        exact congrArg bs hcut
      have hcl := (cell_of_row _ _ 7 _ _ _ hbf).trans (bufC_at (doneL p) 7 (by omega))
      have hfz := frozen_of_row wr (w.heap.size + 1 + 1) 7 _ _ hbf
      have hnew := fc_lay (show (wr.setCell ⟨w.heap.size + 1 + 1, 7, none⟩ (.string (bs (rkT p 0)))).heap[w.heap.size + 1 + 1]? = some (.cells (bufC (doneL p ++ [rkT p 0])) 22 (0, 0)) by rw [heap_setCell_same _ _ _ _ _ _ hbf, ← hd7, bufC_set _ _ (by omega)])
      have hgn := fc_lay (hgw.trans (grown_setCell wr ⟨w.heap.size + 1 + 1, 7, none⟩ (.string (bs (rkT p 0)))))
      have hsl2 : (s : Int) < (T.length : Int) := by omega
      clear hbf hgw
      rw [hd7]
      obtain ⟨r0, hr0⟩ : ∃ r0, Shut (rkT p 0 = r0) := ⟨_, rfl⟩
      rw [hr0.out] at hspl hs hR0 hex hnew hgn
      go_wp2_with fail
      have hnew1 := hnew.out
      have hgn1 := hgn.out
      rw [show doneL p ++ [r0] = allR p by unfold allR; rw [hr0.out]] at hnew1
      clear hnew hgn hcl hfz hex hr0 hspl hs hR0 hd7 hlt hi8 hbf2 hget hms hmf hsl2
      generalize wr.setCell ⟨w.heap.size + 1 + 1, 7, none⟩ (.string (bs r0)) = w3 at *
      have hm3 : IMap w3 w.heap.size (fun _ => none) 0 := hm2s.out.same (hgn1.block _ (by omega) (by simp; omega))
      have ho3 : ownF w3 (w.heap.size + 1) 0 (.map []) := hm_own ho2s.out hgn1
      have hb3 : Below w.heap.size w w3 := below_grown hbel2s.out hgn1 (by omega)
      clear hgn1 hm2s ho2s hbel2s hsz2
      go_loopw [10, 11, 12, 13, 14, 61] (fun _ _ _ _ _ ct wr => ∃ (k : Nat) (D : DataW Unit) (nf : Nat) (f : Int → Option Value) (nm : Nat), k ≤ 8 ∧ ct = .int .i64 (k : Int) ∧ ownF wr (w.heap.size + 1) nf D ∧ IMap wr w.heap.size f nm ∧ SaysOf f p (fun j => 8 - k ≤ j / 8) ∧ wr.heap[w.heap.size + 1 + 1]? = some (.cells (bufC (allR p)) 22 (0, 0)) ∧ Below w.heap.size w wr)
        (fun _ _ _ _ _ ct _ => (8 - intOf ct).toNat)
      case atStart => exact ⟨0, _, _, _, _, by omega, rfl, ho3, hm3, SaysOf.start p, hnew1, hb3⟩
      case round =>
        clear hnew1 hm3 ho3 hb3
        obtain ⟨k, D, nf, f, nm, hk8, rfl, hoF, hiM, hsay, hbf, hbel⟩ := hrel
        by_cases hlt : k < 8
        · obtain ⟨r, hkr⟩ : ∃ r, k + r = 7 := ⟨7 - k, by omega⟩
          have hwr : IntKind.i8.wrap (7 - (k : Int)) = (r : Int) := by rw [show (7 : Int) - (k : Int) = ((r : Nat) : Int) by omega]; exact wrap_i8c r (by omega)
          have hoFs := fc_lay hoF
          have hiMs := fc_lay hiM
          have hsays := fc_lay hsay
          have hbels := fc_lay hbel
          have hbfs := fc_lay hbf
          clear hoF hiM hsay hbel hbf
          go_wp2_with fail
          refine (cm_File (w.heap.size + 1) nf D _ hoFs.out).mono ?_
          rintro e wa ⟨rfl, hoa, hga⟩
          have hbfa := (hga.block _ (Array.getElem?_eq_some_iff.1 hbfs.out).1 (by simp)).trans hbfs.out
          have hiMa : IMap wa w.heap.size f nm := hiMs.out.same (hga.block _ hiMs.out.lt (by simp))
          have hbela := below_grown hbels.out hga (by omega)
          have hcl := (cell_of_row _ _ k _ _ _ hbfa).trans (bufC_at (allR p) k hlt)
          rw [allR_at p k hlt, show 7 - k = r by omega] at hcl
          have hfr := fc_lay (fr_rank (rkT p r) (okB_rk p r hp (by omega)) (by rw [txBack_rk p r hp (by omega), rowL_len]) (rkT_size p r) (w.heap.size + 1) w wa hbela (by omega) hcs.out hoa)
          rw [txBack_rk p r hp (by omega)] at hfr
          have hiMb := fc_lay hiMa
          have hbfb := fc_lay hbfa
          have hbelb := fc_lay hbela
          clear hga hoa hoFs hiMs hbels hbfs hbfa hiMa hbela
          go_wp2_with fail
          refine hfr.out.mono ?_
          rintro e wb ⟨rfl, ⟨D', hob, hRD⟩, hgb⟩
          have hbfc := fc_lay ((hgb.block _ (Array.getElem?_eq_some_iff.1 hbfb.out).1 (by simp)).trans hbfb.out)
          have hiMc : Shut (IMap wb w.heap.size f nm) := hiMb.out.same (hgb.block _ hiMb.out.lt (by simp))
          have hbelc := fc_lay (below_grown hbelb.out hgb (by omega))
          have hopen := fc_lay (hsays.out.open_ hkr hRD)
          have hnb : w.heap.size < wb.heap.size := hiMc.out.lt
          have hnb2 : w.heap.size + 1 + 1 < wb.heap.size := (Array.getElem?_eq_some_iff.1 hbfc.out).1
          have hobs := fc_lay hob
          have hRDs := fc_lay hRD
          clear hob hRD hgb hfr hsays hiMb hbfb hbelb hcl
          go_wp2_with (first
            | (at_range; refine wpList_range_own _ rfl _ 98 rfl 95 75 keyFile Tryd.underlying98 _ (w.heap.size + 1) 8 D' rfl hobs.out ?_; intro wc hrgc hgc hsc)
            | go_in)
          go_frame
          go_loopw [13, 14] (fun _ _ wx => ∃ (left : Lit → Bool) (cnt : Nat) (f' : Int → Option Value) (nm' : Nat), wx.ranges Tryd.prog 95 (plainElem (H := Unit) Tryd.prog 75) (w.heap.size + 1) wb.heap.size 8 D' left cnt ∧ (∀ kl, left kl = true → has D' kl = true) ∧ IMap wx w.heap.size f' nm' ∧ SaysOf f' p (fun j => 8 - k ≤ j / 8 ∨ (j / 8 = r ∧ left (.int .i8 ((j % 8 : Nat) : Int)) = false)) ∧ wx.heap[w.heap.size + 1 + 1]? = some (.cells (bufC (allR p)) 22 (0, 0)) ∧ Below w.heap.size w wx)
            (fun _ _ wx => wx.rangeLeft (w.heap.size + 1) wb.heap.size)
          case atStart => exact ⟨_, _, _, _, hrgc, fun kl h => h, hiMc.out.same (hgc.block _ hiMc.out.lt (by simp)), hopen.out, (hgc.block _ (Array.getElem?_eq_some_iff.1 hbfc.out).1 (by simp)).trans hbfc.out, below_grown hbelc.out (hgc.but (some wb.heap.size)) (by omega)⟩
          case round =>
            clear hrgc hgc hsc hiMc hopen hbfc hbelc
            obtain ⟨left, cnt, f', nm', hrg, hlh, hiM, hsay, hbf, hbel⟩ := hrel
            have hlhs := fc_lay hlh
            have hiMs := fc_lay hiM
            have hsays := fc_lay hsay
            have hbfs := fc_lay hbf
            have hbels := fc_lay hbel
            clear hlh hiM hsay hbf hbel
            go_wp2_with (first
              | (at_next; refine wpList_next_ranges_ii _ rfl _ rfl 95 75 .i8 .i8 keyFile Tryd.underlying95 Tryd.underlying75 (w.heap.size + 1) wb.heap.size 8 _ _ _ rfl hrg ?_ ?_)
              | go_in)
            · intro _ hl0
              go_wp2
              go_roundw
              case rel =>
                (repeat apply Exists.intro)
                exact ⟨⟨k + 1, D', 8, f', nm', by omega, by go_num, hrg.owns, hiMs.out, hsays.out.shut hkr hl0, hbfs.out, hbels.out⟩, rfl⟩
              case measure => simp [intOf]; omega
            · intro x c wd cnt1 hwx hwc hlx hat hrg1 hlt1 hg1 hs1 hen
              obtain ⟨xn, hxl, hxe, hx0⟩ := hRDs.out.only _ (hlhs.out _ hlx)
              rw [rowL_len] at hxl
              obtain rfl : x = (xn : Int) := by simpa using hxe
              have hc2 := (hat .nil).symm.trans (hRDs.out.at_ xn (by rw [rowL_len]; exact hxl) hx0 .nil)
              rw [rowL_at p r xn hxl] at hc2 hx0
              obtain rfl : c = p.getD (8 * r + xn) 0 := by simpa using hc2
              have hiMd : IMap wd w.heap.size f' nm' := hiMs.out.same (hg1.block _ hiMs.out.lt (by simp; omega))
              obtain ⟨o, hrun, him⟩ := imap_update (P := Tryd.prog) (T := 74) (K := 57) (E := 75) (by kernel_rfl) (by kernel_rfl) hiMd ((8 * r + xn : Nat) : Int) (.int .i8 (p.getD (8 * r + xn) 0))
              have hgo := grown_setBlock (w := wd) (b := w.heap.size) o
              push_cast at hrun
              have hrg2 := fc_lay (hrg1.kept hgo (by simp) (by simp; omega))
              have hims := fc_lay him
              have hsay2 := fc_lay (hsays.out.put hkr hxl hx0)
              have hlh2 : Shut (∀ kl, (left kl && !kl.sameKey (.int .i8 (xn : Int))) = true → has D' kl = true) := fun kl h => hlhs.out kl (by simp at h; exact h.1)
              have hbf2 := fc_lay ((hgo.block _ (Nat.lt_of_lt_of_le (Array.getElem?_eq_some_iff.1 hbfs.out).1 hg1.size) (by simp; omega)).trans ((hg1.block _ (Array.getElem?_eq_some_iff.1 hbfs.out).1 (by simp; omega)).trans hbfs.out))
              have hbel2 := fc_lay (below_grown (below_grown hbels.out hg1 (by omega)) hgo (Nat.le_refl _))
              have hlt2 := fc_lay hlt1
              have hrgs := fc_lay hrg
              clear hrg hat hrg1 hlt1 hg1 hs1 hlx hxe hc2 hiMd him hgo hiMs hsays hlhs hbfs hbels hwx hwc hx0
              generalize p.getD (8 * r + xn) 0 = v at *
              go_wp2_with (go_at_call 52; refine (fb_square xn r hxl (by omega) _).mono ?_; rintro e1 wz ⟨rfl, rfl⟩)
              go_roundw
              case rel => exact ⟨_, cnt1, _, _, hrg2.out, hlh2.out, hims.out, hsay2.out, hbf2.out, hbel2.out⟩
              case measure => rw [hrg2.out.left_eq, hrgs.out.left_eq]; exact hlt2.out
        · obtain rfl : k = 8 := by omega
          have hS := hsay.all
          have hsz3 := hbel.size
          go_wp2_with fail
          refine (bn_new p w.heap.size nm f wr (hAs.out.below hbel) hiM hS).mono ?_
          rintro e w5 ⟨rfl, hg5, hb5⟩
          go_wp2_with fail
          go_ret2
          exact ⟨_, rfl, hg5, hsz3, hbel.trans (hb5.mono hsz3)⟩
end Go.Proofs.YtnpklkenjaambaaDoor
