/- The castling moves (castleMoves), the side white: those that are legal, with their tags. (Printed by gen_vk.py.) -/
import Derived.Test.YtnjdgooljnbebaaGreatDoorG0
import Derived.Deep.QuietTactic
import Derived.BigQuiet
import Derived.Test.YtnjdgooljnbebaaGreatDoorGl
namespace Go.Proofs.YtnjdgooljnbebaaGreatDoor
open Go Go.RowKit
open List renaming getElem_toArray → zA, getElem_cons_zero → zB, getElem_cons_succ → zC, setIfInBounds_toArray → zD, set_cons_zero → zE, set_cons_succ → zF
set_option maxHeartbeats 8000000
set_option linter.unusedSimpArgs false
set_option linter.unusedVariables false
set_option maxRecDepth 100000

theorem vk_castle0 (p : List Int) (hF : Fair p 0) (pg bg : Nat) (v : Value) (half full : Int) (w : World)
    (hpg : w.heap[pg]? = some (.cells (posW bg (casText (p.getD 65 0)) v half full 0 (p.getD 66 0) (checkedB p 0)) 103 (0, 0))) (hbg : w.heap[bg]? = some (.cells (brd p) 144 (0, 0))) (hT : Tabs w) (hA : IntSl w 0 .i8 allL) :
    Calls Tryz.prog 101 #[.pointer (some ⟨pg, 0, none⟩)] w fun e w' => Below w.heap.size w w' ∧ e = .returned (.slice (some ⟨w.heap.size, 0, none⟩) (castK p 0 0 ++ castK p 0 1).length 2) ∧ w'.rangeAt w.heap.size 0 (flat (castK p 0 0 ++ castK p 0 1)) := by
  have hpl : pg < w.heap.size := (Array.getElem?_eq_some_iff.1 hpg).1
  have hbl : bg < w.heap.size := (Array.getElem?_eq_some_iff.1 hbg).1
  have hp := hF.snd.pos
  have hst : Shut (KcSt [] w (w.alloc (.cells (mvK 0 0 0 0 ++ mvK 0 0 0 0) 170)) ∧ w.heap.size < (w.alloc (.cells (mvK 0 0 0 0 ++ mvK 0 0 0 0) 170)).heap.size) := by
    refine ⟨⟨there_rowN (cs := mvK 0 0 0 0 ++ mvK 0 0 0 0) rfl (heap_alloc_new w _), ?_, (Below.refl _ _).alloc (Nat.le_refl _) _⟩, by simp⟩
    intro j u hj
    simp [flat] at hj
  have hrow : Shut (∀ V, Below w.heap.size w V → V.heap[pg]? = some (.cells (posW bg (casText (p.getD 65 0)) v half full 0 (p.getD 66 0) (checkedB p 0)) 103 (0, 0)) ∧ V.heap[bg]? = some (.cells (brd p) 144 (0, 0))) := fun V hb => ⟨(hb.block pg hpl).trans hpg, (hb.block bg hbl).trans hbg⟩
  have hcells : Shut (∀ V, Below w.heap.size w V → V.cell? ⟨pg, 0, none⟩ = some (.pointer (some ⟨bg, 0, none⟩)) ∧ V.cell? ⟨pg, 1, none⟩ = some (.string (casText (p.getD 65 0))) ∧ V.cell? ⟨pg, 5, none⟩ = some (.int .i8 1) ∧ V.cell? ⟨pg, 7, none⟩ = some (.bool (checkedB p 0)) ∧ V.cell? ⟨bg, 14, none⟩ = some (bbv (empB p))) := fun V hb => by
    obtain ⟨r1, r2⟩ := hrow.out V hb
    exact ⟨cell_of_row V pg 0 _ _ _ r1, cell_of_row V pg 1 _ _ _ r1, cell_of_row V pg 5 _ _ _ r1, cell_of_row V pg 7 _ _ _ r1, (cell_of_row V bg 14 _ _ _ r2).trans (brd_emp p)⟩
  have hE : Shut (∀ V, Below w.heap.size w V → EngAt p 0 pg bg V) := fun V hb => ⟨(hcells.out V hb).1, (hcells.out V hb).2.2.1, (hrow.out V hb).2, hT.below hb (Nat.le_refl _), hA.below hb⟩
  have hturn : Shut (∀ V, Below w.heap.size w V → Calls Tryz.prog 77 #[.pointer (some ⟨pg, 0, none⟩)] V fun e w' => e = .returned (.int .i8 1) ∧ V = w') := fun V hb => da_turn pg _ V (hcells.out V hb).2.2.1
  have hcan0 : Shut (∀ V, Calls Tryz.prog 79 #[.string (casText (p.getD 65 0)), .int .i8 1, .int .i64 1] V fun e w' => e = .returned (.bool (hasR (p.getD 65 0) 0)) ∧ Below V.heap.size V w') := fun V => by
    have h := cc_right (p.getD 65 0) hF.snd.ca0 hF.snd.ca1 0 (by decide) 1 1 (by decide) (by decide) V
    rw [has_nat _ _ hF.snd.ca0 (by decide)] at h
    exact h
  have hcan1 : Shut (∀ V, Calls Tryz.prog 79 #[.string (casText (p.getD 65 0)), .int .i8 1, .int .i64 2] V fun e w' => e = .returned (.bool (hasR (p.getD 65 0) 1)) ∧ Below V.heap.size V w') := fun V => by
    have h := cc_right (p.getD 65 0) hF.snd.ca0 hF.snd.ca1 1 (by decide) 1 2 (by decide) (by decide) V
    rw [has_nat _ _ hF.snd.ca0 (by decide)] at h
    exact h
  have hq5 : Shut (∀ V : World, Calls Tryz.prog 107 #[.int .i8 5] V fun e w' => e = .returned (bbv (sqBit 5)) ∧ V = w') := fun V => sq_bit 5 V (by decide) (by decide)
  have hq6 : Shut (∀ V : World, Calls Tryz.prog 107 #[.int .i8 6] V fun e w' => e = .returned (bbv (sqBit 6)) ∧ V = w') := fun V => sq_bit 6 V (by decide) (by decide)
  have hq1 : Shut (∀ V : World, Calls Tryz.prog 107 #[.int .i8 1] V fun e w' => e = .returned (bbv (sqBit 1)) ∧ V = w') := fun V => sq_bit 1 V (by decide) (by decide)
  have hq2 : Shut (∀ V : World, Calls Tryz.prog 107 #[.int .i8 2] V fun e w' => e = .returned (bbv (sqBit 2)) ∧ V = w') := fun V => sq_bit 2 V (by decide) (by decide)
  have hq3 : Shut (∀ V : World, Calls Tryz.prog 107 #[.int .i8 3] V fun e w' => e = .returned (bbv (sqBit 3)) ∧ V = w') := fun V => sq_bit 3 V (by decide) (by decide)
  have hrun0 : Shut ((~~~(empB p) &&& (sqBit 5 ||| sqBit 6) == 0#64) = cRun p 0 0) := by
    show _ = _
    rw [run_two p hp 5 6 (by decide) (by decide)]
    unfold cRun cMid cTo
    simp
  have hrun1 : Shut ((~~~(empB p) &&& (sqBit 1 ||| sqBit 2 ||| sqBit 3) == 0#64) = cRun p 0 1) := by
    show _ = _
    rw [run_three p hp 1 2 3 (by decide) (by decide) (by decide)]
    unfold cRun cMid cTo
    simp
    try (rw [Bool.eq_iff_iff]; simp only [Bool.and_eq_true, decide_eq_true_eq]; constructor <;> (rintro ⟨a, b, c⟩; exact ⟨c, b, a⟩))
  have hFs := lay hF
  clear hpg hbg
  obtain ⟨len, hlen⟩ : ∃ n, (castK p 0 0 ++ castK p 0 1).length = n := ⟨_, rfl⟩
  rw [hlen]
  have hlen := lay hlen
  generalize hca : p.getD 65 0 = ca at *
  obtain ⟨r0, hr0⟩ : ∃ b : Bool, hasR ca 0 = b := ⟨_, rfl⟩
  obtain ⟨r1, hr1⟩ : ∃ b : Bool, hasR ca 1 = b := ⟨_, rfl⟩
  rw [hr0] at hcan0
  rw [hr1] at hcan1
  have hr0 := lay hr0
  have hr1 := lay hr1
  obtain ⟨e0, he0⟩ : ∃ b : Bool, engC p 0 0 = b := ⟨_, rfl⟩
  obtain ⟨e1, he1⟩ : ∃ b : Bool, engC p 0 1 = b := ⟨_, rfl⟩
  have hlen0 := lay (castK_count he0)
  have hlen1 := lay (castK_count he1)
  have hen0 := lay he0
  have hen1 := lay he1
  clear he0 he1
  go_enter Tryz.func101, Tryz.ntmps101
  go_upto_region 3 with fail
  change Code.wp _ _ _ _ (w.alloc (.cells (mvK 0 0 0 0 ++ mvK 0 0 0 0) 170))
  generalize w.alloc (.cells (mvK 0 0 0 0 ++ mvK 0 0 0 0) 170) = W0 at *
  have st0 : Shut (KcW [] w W0) := hst.out
  clear hst
  go_cut [5] (fun s wx => s = .bool r0 ∧ KcW [] w wx)
  case first => as_aux_lemma =>
    refine wp_region_held_drew (S := fun V : World => KcW [] w V) (by kernel_rfl) (st0.out.below (Below.refl _ _).drew) (fun hHeld => ?_)
    refine takeC (i := 0) rfl hHeld ?_
    try simp only [zA, zB, zC, Act.put, zD, zE, zF]
    refine takeC (i := 1) rfl hHeld ?_
    try simp only [zA, zB, zC, Act.put, zD, zE, zF]
    refine takeC (i := 2) rfl hHeld ?_
    try simp only [zA, zB, zC, Act.put, zD, zE, zF]
    refine takeA (i := 3) (v := ?vra04_3) rfl (Or.inl ⟨by rfl, ?yra04_3⟩) hHeld ?rra04_3
    case yra04_3 => (intro wq hSw; have c1 := (hcells.out wq hSw.bel).2.1; clear hSw; go_simp; try with_reducible rfl)
    try simp only [zA, zB, zC, Act.put, zD, zE, zF]
    refine takeC (i := 4) rfl hHeld ?_
    try simp only [zA, zB, zC, Act.put, zD, zE, zF]
    refine wpAnyH_ready (rs := [5]) (by kernel_rfl) (by simp) ?_
    refine AllReadyH.cons rfl (fun K hK => ?_) AllReadyH.nil
    try simp only [zA, zB, zC, Act.put, zD, zE, zF]
    try rw [if_pos (by rfl)]
    go_simp
    refine (hturn.out _ hHeld.bel).mono ?_
    rintro e1 w1 ⟨rfl, rfl⟩
    go_wp2_with fail
    refine hK.out _ _ (hHeld) (fun hHeld => ?_)
    clear hK K
    try simp only [zA, zB, zC, Act.put, zD, zE, zF]
    refine wpAnyH_ready (rs := [6]) (by kernel_rfl) (by simp) ?_
    refine AllReadyH.cons rfl (fun K hK => ?_) AllReadyH.nil
    try simp only [zA, zB, zC, Act.put, zD, zE, zF]
    try rw [if_pos (by rfl)]
    go_simp
    refine (hcan0.out _).mono ?_
    rintro e2 w2 ⟨rfl, hb2⟩
    go_wp2_with fail
    refine hK.out _ _ (hHeld.below hb2) (fun hHeld => ?_)
    clear hK K
    try simp only [zA, zB, zC, Act.put, zD, zE, zF]
    refine takeC (i := 7) rfl hHeld ?_
    try simp only [zA, zB, zC, Act.put, zD, zE, zF]
    refine wpAnyH_done (by kernel_rfl) ?_ _
    go_wp2_with fail
    go_meet
    exact ⟨rfl, hHeld⟩
  case rest =>
  obtain ⟨rfl, st⟩ := hcut
  have st := lay st
  clear st0
  go_upto_region 4 with fail
  go_cut [6] (fun s wx => s = .bool r1 ∧ KcW [] w wx)
  case first => as_aux_lemma =>
    refine wp_region_held_drew (S := fun V : World => KcW [] w V) (by kernel_rfl) (st.out.below (Below.refl _ _).drew) (fun hHeld => ?_)
    refine takeC (i := 0) rfl hHeld ?_
    try simp only [zA, zB, zC, Act.put, zD, zE, zF]
    refine takeC (i := 1) rfl hHeld ?_
    try simp only [zA, zB, zC, Act.put, zD, zE, zF]
    refine takeC (i := 2) rfl hHeld ?_
    try simp only [zA, zB, zC, Act.put, zD, zE, zF]
    refine takeA (i := 3) (v := ?vra14_3) rfl (Or.inl ⟨by rfl, ?yra14_3⟩) hHeld ?rra14_3
    case yra14_3 => (intro wq hSw; have c1 := (hcells.out wq hSw.bel).2.1; clear hSw; go_simp; try with_reducible rfl)
    try simp only [zA, zB, zC, Act.put, zD, zE, zF]
    refine takeC (i := 4) rfl hHeld ?_
    try simp only [zA, zB, zC, Act.put, zD, zE, zF]
    refine wpAnyH_ready (rs := [5]) (by kernel_rfl) (by simp) ?_
    refine AllReadyH.cons rfl (fun K hK => ?_) AllReadyH.nil
    try simp only [zA, zB, zC, Act.put, zD, zE, zF]
    try rw [if_pos (by rfl)]
    go_simp
    refine (hturn.out _ hHeld.bel).mono ?_
    rintro e1 w1 ⟨rfl, rfl⟩
    go_wp2_with fail
    refine hK.out _ _ (hHeld) (fun hHeld => ?_)
    clear hK K
    try simp only [zA, zB, zC, Act.put, zD, zE, zF]
    refine wpAnyH_ready (rs := [6]) (by kernel_rfl) (by simp) ?_
    refine AllReadyH.cons rfl (fun K hK => ?_) AllReadyH.nil
    try simp only [zA, zB, zC, Act.put, zD, zE, zF]
    try rw [if_pos (by rfl)]
    go_simp
    refine (hcan1.out _).mono ?_
    rintro e2 w2 ⟨rfl, hb2⟩
    go_wp2_with fail
    refine hK.out _ _ (hHeld.below hb2) (fun hHeld => ?_)
    clear hK K
    try simp only [zA, zB, zC, Act.put, zD, zE, zF]
    refine takeC (i := 7) rfl hHeld ?_
    try simp only [zA, zB, zC, Act.put, zD, zE, zF]
    refine wpAnyH_done (by kernel_rfl) ?_ _
    go_wp2_with fail
    go_meet
    exact ⟨rfl, hHeld⟩
  case rest =>
  obtain ⟨rfl, st⟩ := hcut
  have st := lay st
  go_upto_region 5 with fail
  go_cut [60] (fun s wx => s = .bool e0 ∧ KcW ([]) w wx)
  case first => as_aux_lemma =>
    have c0 := (hcells.out _ st.out.bel).1
    have c5 := (hcells.out _ st.out.bel).2.2.1
    have c7 := (hcells.out _ st.out.bel).2.2.2.1
    have c14 := (hcells.out _ st.out.bel).2.2.2.2
    cases r0 with
    | false =>
      have he : Shut (engC p 0 0 = false) := by
        show (hasR (p.getD 65 0) 0 && _) = false
        rw [hca, hr0.out]
        rfl
      go_quiet (fail)
      go_wp2_with fail
      go_meet
      exact ⟨by rw [← hen0.out, he.out], st.out.below (drewN_below _ _)⟩
    | true =>
      refine wp_region_held_drew (S := fun V : World => KcW ([]) w V) (by kernel_rfl) (st.out.below (Below.refl _ _).drew) (fun hHeld => ?_)
      refine takeC (i := 0) rfl hHeld ?_
      try simp only [zA, zB, zC, Act.put, zD, zE, zF]
      refine takeC (i := 1) rfl hHeld ?_
      try simp only [zA, zB, zC, Act.put, zD, zE, zF]
      refine takeC (i := 2) rfl hHeld ?_
      try simp only [zA, zB, zC, Act.put, zD, zE, zF]
      refine takeA (i := 3) (v := ?vk04_3) rfl (Or.inl ⟨by rfl, ?yk04_3⟩) hHeld ?rk04_3
      case yk04_3 => (intro wq hSw; have c5 := (hcells.out wq hSw.bel).2.2.1; clear hSw; go_simp; try with_reducible rfl)
      try simp only [zA, zB, zC, Act.put, zD, zE, zF]
      refine takeC (i := 4) rfl hHeld ?_
      try simp only [zA, zB, zC, Act.put, zD, zE, zF]
      refine takeC (i := 5) rfl hHeld ?_
      try simp only [zA, zB, zC, Act.put, zD, zE, zF]
      refine takeC (i := 6) rfl hHeld ?_
      try simp only [zA, zB, zC, Act.put, zD, zE, zF]
      refine takeC (i := 7) rfl hHeld ?_
      try simp only [zA, zB, zC, Act.put, zD, zE, zF]
      refine takeC (i := 8) rfl hHeld ?_
      try simp only [zA, zB, zC, Act.put, zD, zE, zF]
      refine takeC (i := 9) rfl hHeld ?_
      try simp only [zA, zB, zC, Act.put, zD, zE, zF]
      refine takeC (i := 10) rfl hHeld ?_
      try simp only [zA, zB, zC, Act.put, zD, zE, zF]
      refine takeC (i := 11) rfl hHeld ?_
      try simp only [zA, zB, zC, Act.put, zD, zE, zF]
      refine takeA (i := 12) (v := ?vk013_12) rfl (Or.inl ⟨by rfl, ?yk013_12⟩) hHeld ?rk013_12
      case yk013_12 => (intro wq hSw; have c0 := (hcells.out wq hSw.bel).1; clear hSw; go_simp; try with_reducible rfl)
      try simp only [zA, zB, zC, Act.put, zD, zE, zF]
      refine takeC (i := 13) rfl hHeld ?_
      try simp only [zA, zB, zC, Act.put, zD, zE, zF]
      refine takeC (i := 14) rfl hHeld ?_
      try simp only [zA, zB, zC, Act.put, zD, zE, zF]
      refine takeA (i := 15) (v := ?vk016_15) rfl (Or.inl ⟨by rfl, ?yk016_15⟩) hHeld ?rk016_15
      case yk016_15 => (intro wq hSw; have c14 := (hcells.out wq hSw.bel).2.2.2.2; clear hSw; go_simp; try with_reducible rfl)
      try simp only [zA, zB, zC, Act.put, zD, zE, zF]
      refine takeC (i := 16) rfl hHeld ?_
      try simp only [zA, zB, zC, Act.put, zD, zE, zF]
      refine wpAnyH_ready (rs := [17]) (by kernel_rfl) (by simp) ?_
      refine (AllReadyH.cons rfl (fun K hK => ?_) AllReadyH.nil)
      try simp only [zA, zB, zC, Act.put, zD, zE, zF]
      try rw [if_pos (by rfl)]
      go_simp
      refine (hq5.out _).mono ?_
      rintro e1 w1 ⟨rfl, rfl⟩
      go_wp2_with fail
      refine hK.out _ _ (hHeld) (fun hHeld => ?_)
      clear hK K
      try simp only [zA, zB, zC, Act.put, zD, zE, zF]
      refine wpAnyH_ready (rs := [18]) (by kernel_rfl) (by simp) ?_
      refine (AllReadyH.cons rfl (fun K hK => ?_) AllReadyH.nil)
      try simp only [zA, zB, zC, Act.put, zD, zE, zF]
      try rw [if_pos (by rfl)]
      go_simp
      refine (hq6.out _).mono ?_
      rintro e1 w1 ⟨rfl, rfl⟩
      go_wp2_with fail
      refine hK.out _ _ (hHeld) (fun hHeld => ?_)
      clear hK K
      try simp only [zA, zB, zC, Act.put, zD, zE, zF]
      refine takeC (i := 19) rfl hHeld ?_
      try simp only [zA, zB, zC, Act.put, zD, zE, zF]
      have hz := hrun0.out
      cases hcr : cRun p 0 0 with
      | false =>
        rw [hcr] at hz
        have he : Shut (engC p 0 0 = false) := by
          show (hasR (p.getD 65 0) 0 && (cRun p 0 0 && _)) = false
          rw [hca, hr0.out, hcr]
          rfl
        clear hcr
        refine takeC (i := 20) rfl hHeld ?_
        try simp only [zA, zB, zC, Act.put, zD, zE, zF]
        refine takeC (i := 21) rfl hHeld ?_
        try simp only [zA, zB, zC, Act.put, zD, zE, zF]
        refine takeC (i := 22) rfl hHeld ?_
        try simp only [zA, zB, zC, Act.put, zD, zE, zF]
        refine takeC (i := 23) rfl hHeld ?_
        try simp only [zA, zB, zC, Act.put, zD, zE, zF]
        refine takeA (i := 24) (v := undef) rfl (Or.inr ⟨by rfl, rfl⟩) hHeld ?_
        try simp only [zA, zB, zC, Act.put, zD, zE, zF]
        refine takeA (i := 25) (v := undef) rfl (Or.inr ⟨by rfl, rfl⟩) hHeld ?_
        try simp only [zA, zB, zC, Act.put, zD, zE, zF]
        refine takeA (i := 26) (v := undef) rfl (Or.inr ⟨by rfl, rfl⟩) hHeld ?_
        try simp only [zA, zB, zC, Act.put, zD, zE, zF]
        refine takeA (i := 27) (v := undef) rfl (Or.inr ⟨by rfl, rfl⟩) hHeld ?_
        try simp only [zA, zB, zC, Act.put, zD, zE, zF]
        refine takeC (i := 28) rfl hHeld ?_
        try simp only [zA, zB, zC, Act.put, zD, zE, zF]
        refine takeC (i := 29) rfl hHeld ?_
        try simp only [zA, zB, zC, Act.put, zD, zE, zF]
        refine takeA (i := 30) (v := undef) rfl (Or.inr ⟨by rfl, rfl⟩) hHeld ?_
        try simp only [zA, zB, zC, Act.put, zD, zE, zF]
        refine takeA (i := 31) (v := undef) rfl (Or.inr ⟨by rfl, rfl⟩) hHeld ?_
        try simp only [zA, zB, zC, Act.put, zD, zE, zF]
        refine takeA (i := 32) (v := undef) rfl (Or.inr ⟨by rfl, rfl⟩) hHeld ?_
        try simp only [zA, zB, zC, Act.put, zD, zE, zF]
        refine takeA (i := 33) (v := undef) rfl (Or.inr ⟨by rfl, rfl⟩) hHeld ?_
        try simp only [zA, zB, zC, Act.put, zD, zE, zF]
        refine takeA (i := 34) (v := undef) rfl (Or.inr ⟨by rfl, rfl⟩) hHeld ?_
        try simp only [zA, zB, zC, Act.put, zD, zE, zF]
        refine takeC (i := 35) rfl hHeld ?_
        try simp only [zA, zB, zC, Act.put, zD, zE, zF]
        refine wpAnyH_done (by kernel_rfl) ?_ _
        go_wp2_with fail
        go_meet
        exact ⟨by rw [← hen0.out, he.out] <;> rfl, hHeld⟩
      | true =>
        rw [hcr] at hz
        have he1 := lay (eng_c p 0 hFs.out 0 (by decide) (by rw [hca]; exact hr0.out) hcr)
        obtain ⟨ta, hta⟩ : ∃ ta : Bool, [5, 6].any (engB p 0) = ta := ⟨_, rfl⟩
        have he : Shut (engC p 0 0 = (!ta && !checkedB p 0)) := by
          show _ = _
          rw [he1.out, ← hta]
          have e : [5, 6].any (engB p 0) = (engB p 0 5 || engB p 0 6) := by simp
          rw [e]
          rfl
        have hta := lay hta
        clear hcr he1
        refine takeC (i := 20) rfl hHeld ?_
        try simp only [zA, zB, zC, Act.put, zD, zE, zF]
        refine takeC (i := 21) rfl hHeld ?_
        try simp only [zA, zB, zC, Act.put, zD, zE, zF]
        refine takeC (i := 22) rfl hHeld ?_
        try simp only [zA, zB, zC, Act.put, zD, zE, zF]
        refine takeC (i := 23) rfl hHeld ?_
        try simp only [zA, zB, zC, Act.put, zD, zE, zF]
        refine takeC (i := 24) rfl hHeld ?_
        try simp only [zA, zB, zC, Act.put, zD, zE, zF]
        refine wpAnyH_ready (rs := [25]) (by kernel_rfl) (by simp) ?_
        refine AllReadyH.cons rfl (fun K hK => ?_) AllReadyH.nil
        try simp only [zA, zB, zC, Act.put, zD, zE, zF]
        try rw [if_pos (by rfl)]
        go_simp
        refine hK.out _ _ (hHeld.below ((Below.refl _ _).alloc (Nat.le_refl _) _)) (fun hHeld => ?_)
        clear hK K
        try simp only [zA, zB, zC, Act.put, zD, zE, zF]
        refine wpAnyH_ready (rs := [26]) (by kernel_rfl) (by simp) ?_
        refine (AllReadyH.cons rfl (fun K hK => ?_) AllReadyH.nil)
        try simp only [zA, zB, zC, Act.put, zD, zE, zF]
        try rw [if_pos (by rfl)]
        go_simp
        refine (sa_attacked p 0 (by decide) pg bg _ (hE.out _ hHeld.bel) [5, 6] (by decide) (by decide) _ 2 (two_sq _ _ 5 6)).mono ?_
        rintro e3 w3 ⟨rfl, n3, rfl⟩
        rw [hta.out]
        go_wp2_with fail
        refine hK.out _ _ (by first | exact hHeld.below (drewN_below _ _) | exact hHeld.below (drew_more _ _)) (fun hHeld => ?_)
        clear hK K
        try simp only [zA, zB, zC, Act.put, zD, zE, zF]
        clear hta
        cases ta with
        | false =>
          refine takeC (i := 27) rfl hHeld ?_
          try simp only [zA, zB, zC, Act.put, zD, zE, zF]
          refine takeC (i := 28) rfl hHeld ?_
          try simp only [zA, zB, zC, Act.put, zD, zE, zF]
          refine takeC (i := 29) rfl hHeld ?_
          try simp only [zA, zB, zC, Act.put, zD, zE, zF]
          refine takeC (i := 30) rfl hHeld ?_
          try simp only [zA, zB, zC, Act.put, zD, zE, zF]
          refine takeC (i := 31) rfl hHeld ?_
          try simp only [zA, zB, zC, Act.put, zD, zE, zF]
          refine takeC (i := 32) rfl hHeld ?_
          try simp only [zA, zB, zC, Act.put, zD, zE, zF]
          refine takeA (i := 33) (v := ?vk037_33) rfl (Or.inl ⟨by rfl, ?yk037_33⟩) hHeld ?rk037_33
          case yk037_33 => (intro wq hSw; have c7 := (hcells.out wq hSw.bel).2.2.2.1; clear hSw; go_simp; try with_reducible rfl)
          try simp only [zA, zB, zC, Act.put, zD, zE, zF]
          refine takeC (i := 34) rfl hHeld ?_
          try simp only [zA, zB, zC, Act.put, zD, zE, zF]
          refine takeC (i := 35) rfl hHeld ?_
          try simp only [zA, zB, zC, Act.put, zD, zE, zF]
          refine wpAnyH_done (by kernel_rfl) ?_ _
          go_wp2_with fail
          go_meet
          exact ⟨by rw [← hen0.out, he.out] <;> rfl, hHeld⟩
        | true =>
          refine takeC (i := 27) rfl hHeld ?_
          try simp only [zA, zB, zC, Act.put, zD, zE, zF]
          refine takeC (i := 28) rfl hHeld ?_
          try simp only [zA, zB, zC, Act.put, zD, zE, zF]
          refine takeC (i := 29) rfl hHeld ?_
          try simp only [zA, zB, zC, Act.put, zD, zE, zF]
          refine takeA (i := 30) (v := undef) rfl (Or.inr ⟨by rfl, rfl⟩) hHeld ?_
          try simp only [zA, zB, zC, Act.put, zD, zE, zF]
          refine takeA (i := 31) (v := undef) rfl (Or.inr ⟨by rfl, rfl⟩) hHeld ?_
          try simp only [zA, zB, zC, Act.put, zD, zE, zF]
          refine takeA (i := 32) (v := undef) rfl (Or.inr ⟨by rfl, rfl⟩) hHeld ?_
          try simp only [zA, zB, zC, Act.put, zD, zE, zF]
          refine takeA (i := 33) (v := undef) rfl (Or.inr ⟨by rfl, rfl⟩) hHeld ?_
          try simp only [zA, zB, zC, Act.put, zD, zE, zF]
          refine takeA (i := 34) (v := undef) rfl (Or.inr ⟨by rfl, rfl⟩) hHeld ?_
          try simp only [zA, zB, zC, Act.put, zD, zE, zF]
          refine takeC (i := 35) rfl hHeld ?_
          try simp only [zA, zB, zC, Act.put, zD, zE, zF]
          refine wpAnyH_done (by kernel_rfl) ?_ _
          go_wp2_with fail
          go_meet
          exact ⟨by rw [← hen0.out, he.out] <;> rfl, hHeld⟩
  case rest =>
  obtain ⟨rfl, st⟩ := hcut
  have st := lay st
  go_upto_if 60 with fail
  go_cut [4] (fun s wx => s = .int .i64 (cI e0) ∧ KcW (castK p 0 0) w wx)
  case first => as_aux_lemma =>
    cases e0 with
    | false =>
      go_wp2_with fail
      go_meet
      exact ⟨rfl, by rw [castK_no hen0.out]; exact st.out⟩
    | true =>
      have ho : Shut ((flat ([] : List (Array Value))).length = 0) := rfl
      have hok := lay (eng_ok p 0 hFs.out 0 (by decide) hen0.out)
      have hgd := lay (cast_good p 0 0 (by decide) hok.out)
      have htg := lay (cast_tags p 0 0 (by decide) hok.out)
      have hkt : Shut (kindOf (pcAt p (castMv 0 0).to) ≠ 1) := by
        show kindOf (p.getD (cTo 0 0) 0) ≠ 1
        rw [hok.out.t]
        decide
      have hmg : Shut (w.heap.size < wc.heap.size) := st.out.2
      go_upto_region 7 with ((with_reducible refine at_new_row (mvK 0 4 6 0) ?_ ?_ ?_ ?_ ?_ ?_); kernel_rfl; kernel_rfl; exact mvK_one _ _ _ _; rfl; rfl; intro W1 r1 hb1)
      have st1 := lay (st.out.below hb1)
      have hm1 : Shut (MvAt wc.heap.size 0 4 6 0 W1) := r1
      clear r1 hb1
      go_upto_region 8 with (go_at_call 126; refine (vc_add wc.heap.size 0 4 6 0 1 _ hm1.out (tgN (castT 0)) (by decide)).mono ?_; rintro e2 w2 ⟨rfl, rfl⟩)
      have hm2 : Shut (MvAt wc.heap.size (tgN (castT 0)) 4 6 0 (W1.setCell ⟨wc.heap.size, 7, none⟩ (.int .u16 (tgN (castT 0))))) := hm1.out.set7 _
      have st2 : Shut (KcW ([]) w (W1.setCell ⟨wc.heap.size, 7, none⟩ (.int .u16 (tgN (castT 0))))) := st1.out.kept (Kept.set _ _ _ _) hmg.out
      change Code.wp _ _ _ _ (W1.setCell ⟨wc.heap.size, 7, none⟩ (.int .u16 (tgN (castT 0))))
      generalize W1.setCell ⟨wc.heap.size, 7, none⟩ (.int .u16 (tgN (castT 0))) = W2 at *
      clear hm1 st1
      have htr := lay (vt_tags p 0 hFs.out.snd (castMv 0 0) hgd.out hkt.out (castT 0) htg.out pg bg wc.heap.size _ v half full _ w W2 (hrow.out _ st2.out.bel).1 (hrow.out _ st2.out.bel).2 hm2.out (by have := hmg.out; omega) (by have := hmg.out; omega) st2.out.bel (Nat.le_of_lt hmg.out) hT hA)
      go_upto_region 9 with (go_at_call 125; refine htr.out.mono ?_; rintro e3 W3 ⟨rfl, hm3, hK3⟩)
      rename_i W3 z1 z2 z3 z4 z5 z6
      skip
      have st3 := lay (st2.out.kept hK3 hmg.out)
      obtain ⟨cs, hcs⟩ : ∃ cs : Array Value, mvK (tgN (tagsOf p 0 (castMv 0 0) (castT 0))) (cE 0 : Nat) (cTo 0 0 : Nat) 0 = cs := ⟨_, rfl⟩
      have row3 : Shut (W3.heap[wc.heap.size]? = some (.cells cs 73 (0, 0))) := by
        show _ = _
        rw [← hcs]
        exact hm3
      have hsz : Shut (cs.size = 11) := by show _ = _; rw [← hcs]; rfl
      have hon : Shut (cs.all (·.oneCell') = true) := by show _ = _; rw [← hcs]; exact mvK_one _ _ _ _
      have hnf : Shut ((Tryz.prog.info? 73).map (·.size) = some cs.size) := by
        show _ = _
        rw [hsz.out]
        kernel_rfl
      have th3 : Shut (W3.there w.heap.size 0 cs.size) := there_sub st3.out.1.arr (by rw [hsz.out]; decide)
      have hcs := lay hcs
      clear hm3 hK3 st2 hm2 htr
      go_upto_region 10 with (first
        | ((with_reducible refine at_load_row row3.out Tryz.underlying73 rfl ?_ ?_ ?_); exact hnf.out; rfl)
        | ((with_reducible refine at_store_mid w.heap.size 0 cs th3.out hnf.out hon.out ?_ ?_ ?_); rfl; rfl; intro W4 r4 z4 b4 _ t4 a4; have st4 := lay (st3.out.put ho.out r4.out z4.out b4.out t4.out a4.out); clear r4 z4 b4 t4 a4))
      go_wp2_with fail
      go_meet
      exact ⟨rfl, by rw [castK_yes hen0.out, hcs.out]; exact st4.out⟩
  case rest =>
  obtain ⟨rfl, st⟩ := hcut
  have st := lay st
  go_upto_region 11 with fail
  go_cut [107] (fun s wx => s = .bool e1 ∧ KcW (castK p 0 0) w wx)
  case first => as_aux_lemma =>
    have c0 := (hcells.out _ st.out.bel).1
    have c5 := (hcells.out _ st.out.bel).2.2.1
    have c7 := (hcells.out _ st.out.bel).2.2.2.1
    have c14 := (hcells.out _ st.out.bel).2.2.2.2
    cases r1 with
    | false =>
      have he : Shut (engC p 0 1 = false) := by
        show (hasR (p.getD 65 0) 1 && _) = false
        rw [hca, hr1.out]
        rfl
      go_quiet (fail)
      go_wp2_with fail
      go_meet
      exact ⟨by rw [← hen1.out, he.out], st.out.below (drewN_below _ _)⟩
    | true =>
      refine wp_region_held_drew (S := fun V : World => KcW (castK p 0 0) w V) (by kernel_rfl) (st.out.below (Below.refl _ _).drew) (fun hHeld => ?_)
      refine takeC (i := 0) rfl hHeld ?_
      try simp only [zA, zB, zC, Act.put, zD, zE, zF]
      refine takeC (i := 1) rfl hHeld ?_
      try simp only [zA, zB, zC, Act.put, zD, zE, zF]
      refine takeC (i := 2) rfl hHeld ?_
      try simp only [zA, zB, zC, Act.put, zD, zE, zF]
      refine takeA (i := 3) (v := ?vk14_3) rfl (Or.inl ⟨by rfl, ?yk14_3⟩) hHeld ?rk14_3
      case yk14_3 => (intro wq hSw; have c5 := (hcells.out wq hSw.bel).2.2.1; clear hSw; go_simp; try with_reducible rfl)
      try simp only [zA, zB, zC, Act.put, zD, zE, zF]
      refine takeC (i := 4) rfl hHeld ?_
      try simp only [zA, zB, zC, Act.put, zD, zE, zF]
      refine takeC (i := 5) rfl hHeld ?_
      try simp only [zA, zB, zC, Act.put, zD, zE, zF]
      refine takeC (i := 6) rfl hHeld ?_
      try simp only [zA, zB, zC, Act.put, zD, zE, zF]
      refine takeC (i := 7) rfl hHeld ?_
      try simp only [zA, zB, zC, Act.put, zD, zE, zF]
      refine takeC (i := 8) rfl hHeld ?_
      try simp only [zA, zB, zC, Act.put, zD, zE, zF]
      refine takeC (i := 9) rfl hHeld ?_
      try simp only [zA, zB, zC, Act.put, zD, zE, zF]
      refine takeC (i := 10) rfl hHeld ?_
      try simp only [zA, zB, zC, Act.put, zD, zE, zF]
      refine takeC (i := 11) rfl hHeld ?_
      try simp only [zA, zB, zC, Act.put, zD, zE, zF]
      refine takeA (i := 12) (v := ?vk113_12) rfl (Or.inl ⟨by rfl, ?yk113_12⟩) hHeld ?rk113_12
      case yk113_12 => (intro wq hSw; have c0 := (hcells.out wq hSw.bel).1; clear hSw; go_simp; try with_reducible rfl)
      try simp only [zA, zB, zC, Act.put, zD, zE, zF]
      refine takeC (i := 13) rfl hHeld ?_
      try simp only [zA, zB, zC, Act.put, zD, zE, zF]
      refine takeC (i := 14) rfl hHeld ?_
      try simp only [zA, zB, zC, Act.put, zD, zE, zF]
      refine takeA (i := 15) (v := ?vk116_15) rfl (Or.inl ⟨by rfl, ?yk116_15⟩) hHeld ?rk116_15
      case yk116_15 => (intro wq hSw; have c14 := (hcells.out wq hSw.bel).2.2.2.2; clear hSw; go_simp; try with_reducible rfl)
      try simp only [zA, zB, zC, Act.put, zD, zE, zF]
      refine takeC (i := 16) rfl hHeld ?_
      try simp only [zA, zB, zC, Act.put, zD, zE, zF]
      refine wpAnyH_ready (rs := [17]) (by kernel_rfl) (by simp) ?_
      refine (AllReadyH.cons rfl (fun K hK => ?_) AllReadyH.nil)
      try simp only [zA, zB, zC, Act.put, zD, zE, zF]
      try rw [if_pos (by rfl)]
      go_simp
      refine (hq1.out _).mono ?_
      rintro e1 w1 ⟨rfl, rfl⟩
      go_wp2_with fail
      refine hK.out _ _ (hHeld) (fun hHeld => ?_)
      clear hK K
      try simp only [zA, zB, zC, Act.put, zD, zE, zF]
      refine wpAnyH_ready (rs := [18]) (by kernel_rfl) (by simp) ?_
      refine (AllReadyH.cons rfl (fun K hK => ?_) AllReadyH.nil)
      try simp only [zA, zB, zC, Act.put, zD, zE, zF]
      try rw [if_pos (by rfl)]
      go_simp
      refine (hq2.out _).mono ?_
      rintro e1 w1 ⟨rfl, rfl⟩
      go_wp2_with fail
      refine hK.out _ _ (hHeld) (fun hHeld => ?_)
      clear hK K
      try simp only [zA, zB, zC, Act.put, zD, zE, zF]
      refine takeC (i := 19) rfl hHeld ?_
      try simp only [zA, zB, zC, Act.put, zD, zE, zF]
      refine wpAnyH_ready (rs := [20]) (by kernel_rfl) (by simp) ?_
      refine (AllReadyH.cons rfl (fun K hK => ?_) AllReadyH.nil)
      try simp only [zA, zB, zC, Act.put, zD, zE, zF]
      try rw [if_pos (by rfl)]
      go_simp
      refine (hq3.out _).mono ?_
      rintro e1 w1 ⟨rfl, rfl⟩
      go_wp2_with fail
      refine hK.out _ _ (hHeld) (fun hHeld => ?_)
      clear hK K
      try simp only [zA, zB, zC, Act.put, zD, zE, zF]
      refine takeC (i := 21) rfl hHeld ?_
      try simp only [zA, zB, zC, Act.put, zD, zE, zF]
      have hz := hrun1.out
      cases hcr : cRun p 0 1 with
      | false =>
        rw [hcr] at hz
        have he : Shut (engC p 0 1 = false) := by
          show (hasR (p.getD 65 0) 1 && (cRun p 0 1 && _)) = false
          rw [hca, hr1.out, hcr]
          rfl
        clear hcr
        refine takeC (i := 22) rfl hHeld ?_
        try simp only [zA, zB, zC, Act.put, zD, zE, zF]
        refine takeC (i := 23) rfl hHeld ?_
        try simp only [zA, zB, zC, Act.put, zD, zE, zF]
        refine takeC (i := 24) rfl hHeld ?_
        try simp only [zA, zB, zC, Act.put, zD, zE, zF]
        refine takeC (i := 25) rfl hHeld ?_
        try simp only [zA, zB, zC, Act.put, zD, zE, zF]
        refine takeA (i := 26) (v := undef) rfl (Or.inr ⟨by rfl, rfl⟩) hHeld ?_
        try simp only [zA, zB, zC, Act.put, zD, zE, zF]
        refine takeA (i := 27) (v := undef) rfl (Or.inr ⟨by rfl, rfl⟩) hHeld ?_
        try simp only [zA, zB, zC, Act.put, zD, zE, zF]
        refine takeA (i := 28) (v := undef) rfl (Or.inr ⟨by rfl, rfl⟩) hHeld ?_
        try simp only [zA, zB, zC, Act.put, zD, zE, zF]
        refine takeA (i := 29) (v := undef) rfl (Or.inr ⟨by rfl, rfl⟩) hHeld ?_
        try simp only [zA, zB, zC, Act.put, zD, zE, zF]
        refine takeC (i := 30) rfl hHeld ?_
        try simp only [zA, zB, zC, Act.put, zD, zE, zF]
        refine takeC (i := 31) rfl hHeld ?_
        try simp only [zA, zB, zC, Act.put, zD, zE, zF]
        refine takeA (i := 32) (v := undef) rfl (Or.inr ⟨by rfl, rfl⟩) hHeld ?_
        try simp only [zA, zB, zC, Act.put, zD, zE, zF]
        refine takeA (i := 33) (v := undef) rfl (Or.inr ⟨by rfl, rfl⟩) hHeld ?_
        try simp only [zA, zB, zC, Act.put, zD, zE, zF]
        refine takeA (i := 34) (v := undef) rfl (Or.inr ⟨by rfl, rfl⟩) hHeld ?_
        try simp only [zA, zB, zC, Act.put, zD, zE, zF]
        refine takeA (i := 35) (v := undef) rfl (Or.inr ⟨by rfl, rfl⟩) hHeld ?_
        try simp only [zA, zB, zC, Act.put, zD, zE, zF]
        refine takeA (i := 36) (v := undef) rfl (Or.inr ⟨by rfl, rfl⟩) hHeld ?_
        try simp only [zA, zB, zC, Act.put, zD, zE, zF]
        refine takeC (i := 37) rfl hHeld ?_
        try simp only [zA, zB, zC, Act.put, zD, zE, zF]
        refine wpAnyH_done (by kernel_rfl) ?_ _
        go_wp2_with fail
        go_meet
        exact ⟨by rw [← hen1.out, he.out] <;> rfl, hHeld⟩
      | true =>
        rw [hcr] at hz
        have he1 := lay (eng_c p 0 hFs.out 1 (by decide) (by rw [hca]; exact hr1.out) hcr)
        obtain ⟨ta, hta⟩ : ∃ ta : Bool, [2, 3].any (engB p 0) = ta := ⟨_, rfl⟩
        have he : Shut (engC p 0 1 = (!ta && !checkedB p 0)) := by
          show _ = _
          rw [he1.out, ← hta]
          have e : [2, 3].any (engB p 0) = (engB p 0 2 || engB p 0 3) := by simp
          rw [e]
          rw [Bool.or_comm (engB p 0 2)]
          rfl
        have hta := lay hta
        clear hcr he1
        refine takeC (i := 22) rfl hHeld ?_
        try simp only [zA, zB, zC, Act.put, zD, zE, zF]
        refine takeC (i := 23) rfl hHeld ?_
        try simp only [zA, zB, zC, Act.put, zD, zE, zF]
        refine takeC (i := 24) rfl hHeld ?_
        try simp only [zA, zB, zC, Act.put, zD, zE, zF]
        refine takeC (i := 25) rfl hHeld ?_
        try simp only [zA, zB, zC, Act.put, zD, zE, zF]
        refine takeC (i := 26) rfl hHeld ?_
        try simp only [zA, zB, zC, Act.put, zD, zE, zF]
        refine wpAnyH_ready (rs := [27]) (by kernel_rfl) (by simp) ?_
        refine AllReadyH.cons rfl (fun K hK => ?_) AllReadyH.nil
        try simp only [zA, zB, zC, Act.put, zD, zE, zF]
        try rw [if_pos (by rfl)]
        go_simp
        refine hK.out _ _ (hHeld.below ((Below.refl _ _).alloc (Nat.le_refl _) _)) (fun hHeld => ?_)
        clear hK K
        try simp only [zA, zB, zC, Act.put, zD, zE, zF]
        refine wpAnyH_ready (rs := [28]) (by kernel_rfl) (by simp) ?_
        refine (AllReadyH.cons rfl (fun K hK => ?_) AllReadyH.nil)
        try simp only [zA, zB, zC, Act.put, zD, zE, zF]
        try rw [if_pos (by rfl)]
        go_simp
        refine (sa_attacked p 0 (by decide) pg bg _ (hE.out _ hHeld.bel) [2, 3] (by decide) (by decide) _ 2 (two_sq _ _ 2 3)).mono ?_
        rintro e3 w3 ⟨rfl, n3, rfl⟩
        rw [hta.out]
        go_wp2_with fail
        refine hK.out _ _ (by first | exact hHeld.below (drewN_below _ _) | exact hHeld.below (drew_more _ _)) (fun hHeld => ?_)
        clear hK K
        try simp only [zA, zB, zC, Act.put, zD, zE, zF]
        clear hta
        cases ta with
        | false =>
          refine takeC (i := 29) rfl hHeld ?_
          try simp only [zA, zB, zC, Act.put, zD, zE, zF]
          refine takeC (i := 30) rfl hHeld ?_
          try simp only [zA, zB, zC, Act.put, zD, zE, zF]
          refine takeC (i := 31) rfl hHeld ?_
          try simp only [zA, zB, zC, Act.put, zD, zE, zF]
          refine takeC (i := 32) rfl hHeld ?_
          try simp only [zA, zB, zC, Act.put, zD, zE, zF]
          refine takeC (i := 33) rfl hHeld ?_
          try simp only [zA, zB, zC, Act.put, zD, zE, zF]
          refine takeC (i := 34) rfl hHeld ?_
          try simp only [zA, zB, zC, Act.put, zD, zE, zF]
          refine takeA (i := 35) (v := ?vk138_35) rfl (Or.inl ⟨by rfl, ?yk138_35⟩) hHeld ?rk138_35
          case yk138_35 => (intro wq hSw; have c7 := (hcells.out wq hSw.bel).2.2.2.1; clear hSw; go_simp; try with_reducible rfl)
          try simp only [zA, zB, zC, Act.put, zD, zE, zF]
          refine takeC (i := 36) rfl hHeld ?_
          try simp only [zA, zB, zC, Act.put, zD, zE, zF]
          refine takeC (i := 37) rfl hHeld ?_
          try simp only [zA, zB, zC, Act.put, zD, zE, zF]
          refine wpAnyH_done (by kernel_rfl) ?_ _
          go_wp2_with fail
          go_meet
          exact ⟨by rw [← hen1.out, he.out] <;> rfl, hHeld⟩
        | true =>
          refine takeC (i := 29) rfl hHeld ?_
          try simp only [zA, zB, zC, Act.put, zD, zE, zF]
          refine takeC (i := 30) rfl hHeld ?_
          try simp only [zA, zB, zC, Act.put, zD, zE, zF]
          refine takeC (i := 31) rfl hHeld ?_
          try simp only [zA, zB, zC, Act.put, zD, zE, zF]
          refine takeA (i := 32) (v := undef) rfl (Or.inr ⟨by rfl, rfl⟩) hHeld ?_
          try simp only [zA, zB, zC, Act.put, zD, zE, zF]
          refine takeA (i := 33) (v := undef) rfl (Or.inr ⟨by rfl, rfl⟩) hHeld ?_
          try simp only [zA, zB, zC, Act.put, zD, zE, zF]
          refine takeA (i := 34) (v := undef) rfl (Or.inr ⟨by rfl, rfl⟩) hHeld ?_
          try simp only [zA, zB, zC, Act.put, zD, zE, zF]
          refine takeA (i := 35) (v := undef) rfl (Or.inr ⟨by rfl, rfl⟩) hHeld ?_
          try simp only [zA, zB, zC, Act.put, zD, zE, zF]
          refine takeA (i := 36) (v := undef) rfl (Or.inr ⟨by rfl, rfl⟩) hHeld ?_
          try simp only [zA, zB, zC, Act.put, zD, zE, zF]
          refine takeC (i := 37) rfl hHeld ?_
          try simp only [zA, zB, zC, Act.put, zD, zE, zF]
          refine wpAnyH_done (by kernel_rfl) ?_ _
          go_wp2_with fail
          go_meet
          exact ⟨by rw [← hen1.out, he.out] <;> rfl, hHeld⟩
  case rest =>
  obtain ⟨rfl, st⟩ := hcut
  have st := lay st
  go_upto_if 107 with fail
  go_cut [4] (fun s wx => s = .int .i64 (cJ e0 e1) ∧ KcW (castK p 0 0 ++ castK p 0 1) w wx)
  case first => as_aux_lemma =>
    cases e1 with
    | false =>
      go_wp2_with fail
      go_meet
      exact ⟨rfl, by rw [castK_no hen1.out, List.append_nil]; exact st.out⟩
    | true =>
      cases e0 with
      | false =>
        rw [show cI false = 0 from rfl]
        have ho : Shut ((flat (castK p 0 0)).length = 0) := by show _ = _; rw [castK_no hen0.out]; rfl
        have hok := lay (eng_ok p 0 hFs.out 1 (by decide) hen1.out)
        have hgd := lay (cast_good p 0 1 (by decide) hok.out)
        have htg := lay (cast_tags p 0 1 (by decide) hok.out)
        have hkt : Shut (kindOf (pcAt p (castMv 0 1).to) ≠ 1) := by
          show kindOf (p.getD (cTo 0 1) 0) ≠ 1
          rw [hok.out.t]
          decide
        have hmg : Shut (w.heap.size < wc.heap.size) := st.out.2
        go_upto_region 13 with ((with_reducible refine at_new_row (mvK 0 4 2 0) ?_ ?_ ?_ ?_ ?_ ?_); kernel_rfl; kernel_rfl; exact mvK_one _ _ _ _; rfl; rfl; intro W1 r1 hb1)
        have st1 := lay (st.out.below hb1)
        have hm1 : Shut (MvAt wc.heap.size 0 4 2 0 W1) := r1
        clear r1 hb1
        go_upto_region 14 with (go_at_call 126; refine (vc_add wc.heap.size 0 4 2 0 2 _ hm1.out (tgN (castT 1)) (by decide)).mono ?_; rintro e2 w2 ⟨rfl, rfl⟩)
        have hm2 : Shut (MvAt wc.heap.size (tgN (castT 1)) 4 2 0 (W1.setCell ⟨wc.heap.size, 7, none⟩ (.int .u16 (tgN (castT 1))))) := hm1.out.set7 _
        have st2 : Shut (KcW (castK p 0 0) w (W1.setCell ⟨wc.heap.size, 7, none⟩ (.int .u16 (tgN (castT 1))))) := st1.out.kept (Kept.set _ _ _ _) hmg.out
        change Code.wp _ _ _ _ (W1.setCell ⟨wc.heap.size, 7, none⟩ (.int .u16 (tgN (castT 1))))
        generalize W1.setCell ⟨wc.heap.size, 7, none⟩ (.int .u16 (tgN (castT 1))) = W2 at *
        clear hm1 st1
        have htr := lay (vt_tags p 0 hFs.out.snd (castMv 0 1) hgd.out hkt.out (castT 1) htg.out pg bg wc.heap.size _ v half full _ w W2 (hrow.out _ st2.out.bel).1 (hrow.out _ st2.out.bel).2 hm2.out (by have := hmg.out; omega) (by have := hmg.out; omega) st2.out.bel (Nat.le_of_lt hmg.out) hT hA)
        go_upto_region 15 with (go_at_call 125; refine htr.out.mono ?_; rintro e3 W3 ⟨rfl, hm3, hK3⟩)
        rename_i W3 z1 z2 z3 z4 z5 z6
        skip
        have st3 := lay (st2.out.kept hK3 hmg.out)
        obtain ⟨cs, hcs⟩ : ∃ cs : Array Value, mvK (tgN (tagsOf p 0 (castMv 0 1) (castT 1))) (cE 0 : Nat) (cTo 0 1 : Nat) 0 = cs := ⟨_, rfl⟩
        have row3 : Shut (W3.heap[wc.heap.size]? = some (.cells cs 73 (0, 0))) := by
          show _ = _
          rw [← hcs]
          exact hm3
        have hsz : Shut (cs.size = 11) := by show _ = _; rw [← hcs]; rfl
        have hon : Shut (cs.all (·.oneCell') = true) := by show _ = _; rw [← hcs]; exact mvK_one _ _ _ _
        have hnf : Shut ((Tryz.prog.info? 73).map (·.size) = some cs.size) := by
          show _ = _
          rw [hsz.out]
          kernel_rfl
        have th3 : Shut (W3.there w.heap.size 0 cs.size) := there_sub st3.out.1.arr (by rw [hsz.out]; decide)
        have hcs := lay hcs
        clear hm3 hK3 st2 hm2 htr
        go_upto_region 16 with (first
          | ((with_reducible refine at_load_row row3.out Tryz.underlying73 rfl ?_ ?_ ?_); exact hnf.out; rfl)
          | ((with_reducible refine at_store_mid w.heap.size 0 cs th3.out hnf.out hon.out ?_ ?_ ?_); rfl; rfl; intro W4 r4 z4 b4 _ t4 a4; have st4 := lay (st3.out.put ho.out r4.out z4.out b4.out t4.out a4.out); clear r4 z4 b4 t4 a4))
        go_wp2_with fail
        go_meet
        exact ⟨rfl, by rw [castK_yes hen1.out, hcs.out]; exact st4.out⟩
      | true =>
        rw [show cI true = 1 from rfl]
        have ho : Shut ((flat (castK p 0 0)).length = 11) := by show _ = _; rw [castK_yes hen0.out]; rfl
        have hok := lay (eng_ok p 0 hFs.out 1 (by decide) hen1.out)
        have hgd := lay (cast_good p 0 1 (by decide) hok.out)
        have htg := lay (cast_tags p 0 1 (by decide) hok.out)
        have hkt : Shut (kindOf (pcAt p (castMv 0 1).to) ≠ 1) := by
          show kindOf (p.getD (cTo 0 1) 0) ≠ 1
          rw [hok.out.t]
          decide
        have hmg : Shut (w.heap.size < wc.heap.size) := st.out.2
        go_upto_region 13 with ((with_reducible refine at_new_row (mvK 0 4 2 0) ?_ ?_ ?_ ?_ ?_ ?_); kernel_rfl; kernel_rfl; exact mvK_one _ _ _ _; rfl; rfl; intro W1 r1 hb1)
        have st1 := lay (st.out.below hb1)
        have hm1 : Shut (MvAt wc.heap.size 0 4 2 0 W1) := r1
        clear r1 hb1
        go_upto_region 14 with (go_at_call 126; refine (vc_add wc.heap.size 0 4 2 0 2 _ hm1.out (tgN (castT 1)) (by decide)).mono ?_; rintro e2 w2 ⟨rfl, rfl⟩)
        have hm2 : Shut (MvAt wc.heap.size (tgN (castT 1)) 4 2 0 (W1.setCell ⟨wc.heap.size, 7, none⟩ (.int .u16 (tgN (castT 1))))) := hm1.out.set7 _
        have st2 : Shut (KcW (castK p 0 0) w (W1.setCell ⟨wc.heap.size, 7, none⟩ (.int .u16 (tgN (castT 1))))) := st1.out.kept (Kept.set _ _ _ _) hmg.out
        change Code.wp _ _ _ _ (W1.setCell ⟨wc.heap.size, 7, none⟩ (.int .u16 (tgN (castT 1))))
        generalize W1.setCell ⟨wc.heap.size, 7, none⟩ (.int .u16 (tgN (castT 1))) = W2 at *
        clear hm1 st1
        have htr := lay (vt_tags p 0 hFs.out.snd (castMv 0 1) hgd.out hkt.out (castT 1) htg.out pg bg wc.heap.size _ v half full _ w W2 (hrow.out _ st2.out.bel).1 (hrow.out _ st2.out.bel).2 hm2.out (by have := hmg.out; omega) (by have := hmg.out; omega) st2.out.bel (Nat.le_of_lt hmg.out) hT hA)
        go_upto_region 15 with (go_at_call 125; refine htr.out.mono ?_; rintro e3 W3 ⟨rfl, hm3, hK3⟩)
        rename_i W3 z1 z2 z3 z4 z5 z6
        skip
        have st3 := lay (st2.out.kept hK3 hmg.out)
        obtain ⟨cs, hcs⟩ : ∃ cs : Array Value, mvK (tgN (tagsOf p 0 (castMv 0 1) (castT 1))) (cE 0 : Nat) (cTo 0 1 : Nat) 0 = cs := ⟨_, rfl⟩
        have row3 : Shut (W3.heap[wc.heap.size]? = some (.cells cs 73 (0, 0))) := by
          show _ = _
          rw [← hcs]
          exact hm3
        have hsz : Shut (cs.size = 11) := by show _ = _; rw [← hcs]; rfl
        have hon : Shut (cs.all (·.oneCell') = true) := by show _ = _; rw [← hcs]; exact mvK_one _ _ _ _
        have hnf : Shut ((Tryz.prog.info? 73).map (·.size) = some cs.size) := by
          show _ = _
          rw [hsz.out]
          kernel_rfl
        have th3 : Shut (W3.there w.heap.size 11 cs.size) := there_sub st3.out.1.arr (by rw [hsz.out]; decide)
        have hcs := lay hcs
        clear hm3 hK3 st2 hm2 htr
        go_upto_region 16 with (first
          | ((with_reducible refine at_load_row row3.out Tryz.underlying73 rfl ?_ ?_ ?_); exact hnf.out; rfl)
          | ((with_reducible refine at_store_mid w.heap.size 11 cs th3.out hnf.out hon.out ?_ ?_ ?_); rfl; rfl; intro W4 r4 z4 b4 _ t4 a4; have st4 := lay (st3.out.put ho.out r4.out z4.out b4.out t4.out a4.out); clear r4 z4 b4 t4 a4))
        go_wp2_with fail
        go_meet
        exact ⟨rfl, by rw [castK_yes hen1.out, hcs.out]; exact st4.out⟩
  case rest =>
  obtain ⟨rfl, st⟩ := hcut
  have st := lay st
  go_upto_region 17 with fail
  go_cut [152] (fun s wx => s = .bool false ∧ KcW (castK p 0 0 ++ castK p 0 1) w wx)
  case first => as_aux_lemma =>
    have c5 := (hcells.out _ st.out.bel).2.2.1
    go_quiet (fail)
    go_wp2_with fail
    go_meet
    exact ⟨rfl, st.out.below (drewN_below _ _)⟩
  case rest =>
  obtain ⟨rfl, st⟩ := hcut
  have st := lay st
  go_upto_region 23 with fail
  go_cut [199] (fun s wx => s = .bool false ∧ KcW (castK p 0 0 ++ castK p 0 1) w wx)
  case first => as_aux_lemma =>
    have c5 := (hcells.out _ st.out.bel).2.2.1
    go_quiet (fail)
    go_wp2_with fail
    go_meet
    exact ⟨rfl, st.out.below (drewN_below _ _)⟩
  case rest =>
  obtain ⟨rfl, st⟩ := hcut
  have st := lay st
  go_upto_region 29 with fail
  cases e0 <;> cases e1
  · rw [show cJ false false = 0 from rfl]
    go_wp2_with fail
    go_ret
    exact ⟨st.out.bel, by rw [← hlen.out, List.length_append, hlen0.out, hlen1.out] <;> rfl, st.out.1.has⟩
  · rw [show cJ false true = 1 from rfl]
    go_wp2_with fail
    go_ret
    exact ⟨st.out.bel, by rw [← hlen.out, List.length_append, hlen0.out, hlen1.out] <;> rfl, st.out.1.has⟩
  · rw [show cJ true false = 1 from rfl]
    go_wp2_with fail
    go_ret
    exact ⟨st.out.bel, by rw [← hlen.out, List.length_append, hlen0.out, hlen1.out] <;> rfl, st.out.1.has⟩
  · rw [show cJ true true = 2 from rfl]
    go_wp2_with fail
    go_ret
    exact ⟨st.out.bel, by rw [← hlen.out, List.length_append, hlen0.out, hlen1.out] <;> rfl, st.out.1.has⟩
end Go.Proofs.YtnjdgooljnbebaaGreatDoor
