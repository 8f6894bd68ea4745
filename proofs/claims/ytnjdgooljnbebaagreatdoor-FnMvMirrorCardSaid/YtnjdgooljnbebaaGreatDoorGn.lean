/- impl.Moves: the legal moves, in the engine's order. For every fair position with at most 218 legal moves.
impl.find: the legal move with the squares and the promotion of a move, none without one. For every fair position with at most 218 legal moves.
impl.valid of a legal move, and impl.Tags. For every fair position with at most 218 legal moves, and each of these.
FnMvAllTags: the law. For every position. -/
import Derived.Test.YtnjdgooljnbebaaGreatDoorG9
import Derived.Test.YtnjdgooljnbebaaGreatDoorGa
namespace Go.Proofs.YtnjdgooljnbebaaGreatDoor
open Go Go.RowKit
open List renaming getElem_toArray → zA, getElem_cons_zero → zB, getElem_cons_succ → zC, setIfInBounds_toArray → zD, set_cons_zero → zE, set_cons_succ → zF
set_option maxHeartbeats 8000000
set_option linter.unusedSimpArgs false
set_option linter.unusedVariables false
set_option maxRecDepth 100000

theorem ya_idle (p q : Addr) (w : World) :
    CallsD Tryz.prog 32 #[.pointer (some p), .pointer (some q)] .returning w fun e u' w' => e = .returned (.tuple #[]) ∧ u' = .returning ∧ w = w' := by
  refine callsD_of_wpS Tryz.func32 rfl fun c₀ cs hu => ?_
  apply wpS_seq
  apply wpS_region
  simp [wpOpsS, go_sem, recoverD, hu, Tryz.ntmps32, Exit.thenS]
  refine wpS_cond (t := false) (by simp [Act.eval, Array.replicate]) ?_
  simp only [Bool.false_eq_true, if_false]
  refine wpS_of_wp (wp_skip ?_)
  cases c₀
  simp_all [bodyPostS, results, Tryz.results32]
/-- The world behind plainMove. -/
def plW (m : Mv) (w : World) : World := w.alloc (.cells (ints (mvL m)) 35)
theorem ya_plain (g : Nat) (t : Int) (m : Mv) (hm : MvOk m) (w : World) (hg : MvAt g t m.fr m.to m.pr w) :
    Calls Tryz.prog 34 #[.pointer (some ⟨g, 0, none⟩)] w fun e w' => e = .returned (.agg (ints (mvL m))) ∧ plW m w = w' := by
  have hg1 : MvAt g t m.fr m.to m.pr (w.alloc (.cells #[.int .i64 0, .int .i64 0, .int .i64 0] 35)) := heap_keep (o' := .cells #[.int .i64 0, .int .i64 0, .int .i64 0] 35) hg
  have f0 := hm.f0
  have f1 := hm.f1
  have t0 := hm.t0
  have t1 := hm.t1
  have p0 := hm.p0
  have p1 := hm.p1
  obtain ⟨a, b, pr⟩ := m
  have f0 : 0 ≤ a := f0
  have f1 : a ≤ 63 := f1
  have t0 : 0 ≤ b := t0
  have t1 : b ≤ 63 := t1
  have p0 : 0 ≤ pr := p0
  have p1 : pr ≤ 6 := p1
  have hwa : wrap64 a = a := by unfold wrap64; omega
  have hwb : wrap64 b = b := by unfold wrap64; omega
  have hwp : wrap64 pr = pr := by unfold wrap64; omega
  have h1 := wp_S1 g _ _ _ _ _ hg1
  have h2 := wp_S2 g _ _ _ _ _ hg1
  have h3 := wp_Promo g _ _ _ _ _ hg1
  clear hg hg1 hm
  go_enter Tryz.func34, Tryz.ntmps34
  go_wp2_with (first
    | (go_at_call 67; refine h1.mono ?_; rintro e1 w1 ⟨rfl, rfl⟩)
    | (go_at_call 68; refine h2.mono ?_; rintro e1 w1 ⟨rfl, rfl⟩)
    | (go_at_call 69; refine h3.mono ?_; rintro e1 w1 ⟨rfl, rfl⟩))
  exact bodyPost_ret (v := .agg (ints (mvL ⟨a, b, pr⟩))) (by simp [mvL, ints, results, Tryz.results34, go_sem, hwa, hwb, hwp]) rfl ⟨rfl, by simp [plW, mvL, ints, hwa, hwb, hwp]⟩
theorem plW_below (m : Mv) (w : World) : Below w.heap.size w (plW m w) := (Below.refl _ _).alloc (Nat.le_refl _) _
theorem full_ok (p : List Int) (tn : Nat) (hF : Fair p tn) (x : Mv × Tg) (hx : x ∈ fullE p tn) : MvOk x.1 := by
  have h1 : x.1 ∈ (fullE p tn).map (·.1) := List.mem_map_of_mem hx
  have h2 := (full_perm p tn hF).subset h1
  have htn := hF.snd.one
  exact pseudoL_ok p (by rw [hF.snd.turn]; omega) (by rw [hF.snd.turn]; omega) x.1 (List.mem_filter.1 h2).1
theorem step_appk {P : Program} {ops : Array Oper} {o : Oper} {a : Act} {w : World} {K : Act → World → Prop} {Q : Exit → Act → World → Prop} {E : Prop} (hgd : o.guard = none) (x y : Operand) {t e : TypeId} (ho : o.op = .call { callee := .builtin .append, args := #[x, y], argTypes := #[t, t] })
    (us : List Value) {esz : Nat} (hes : us.length = esz) {i : TypeInfo} {z : Value} {bytes : Nat} (ht : P.underlying t = some (.slice e)) (hi : P.info? e = some i) (hz : i.zero = some z) (hsize : i.size = esz) (hby : i.bytes = bytes) (hzs : z.cells.size = esz) (h0 : 0 < esz) (hb : bytes ≤ 100) (hu : ∀ u ∈ us, u.oneCell' = true)
    (base : Nat) (v : Value) (n : Nat) (xs : List Value) (hO : w.ownsRow base e esz v n xs) (hlen : n ≤ 1000000) (hbase : base ≤ w.heap.size)
    (hx : a.eval x = v) (hy : a.eval y = .slice (some ⟨w.heap.size, 0, none⟩) 1 1)
    (h : ∀ v' w', w'.ownsRow base e esz v' (n + 1) (xs ++ us) → Below base w w' → K (a.put o.dst v') w') :
    if Region.wanted o (yielded ops a.tmps) = true then Oper.wp P o a (w.alloc (.cells us.toArray e)) K Q else E := by
  refine step_append_lies _ hgd x y t ho base e i z esz bytes ht hi hz hsize hby hzs h0 v n xs hx (hO.alloc _)
    ⟨w.heap.size, 0, none⟩ 1 1 us hy (by simpa using hes) (news_cell w us e _ rfl) hu (by decide) ?_ ?_ ?_ (w.heap.size + 1) (by simp) ?_
  · unfold maxLen; omega
  · have : (n + 1) * bytes ≤ 1000001 * 100 := Nat.mul_le_mul (by omega) hb
    omega
  · simp; omega
  · intro g cap w' hown hgrow hg _
    exact h _ _ hown (((Below.refl _ _).alloc hbase _).grown hgrow (by simp; omega) (own_ge hO))
/-- The engine's moves. -/
def movesL (p : List Int) (tn : Nat) : List Mv := (fullE p tn).map fun x => x.1
theorem mvC_ones (m : Mv) : ∀ u ∈ mvC m, u.oneCell' = true := by
  intro u hu
  simp [mvC] at hu
  rcases hu with rfl | rfl | rfl <;> rfl
theorem own_mv_step {w : World} {base : Nat} {v : Value} {l : List Mv} {k : Nat} {m : Mv} (hk : l[k]? = some m) (h : w.ownsRow base 35 3 v ((l.take k).length + 1) (mvsC (l.take k) ++ mvC m)) : ownMvs w base v (l.take (k + 1)) := by
  have e : l.take (k + 1) = l.take k ++ [m] := by rw [List.take_add_one, hk]; rfl
  unfold ownMvs
  rw [e, List.length_append]
  have e2 : mvsC (l.take k ++ [m]) = mvsC (l.take k) ++ mvC m := by simp [mvsC]
  rw [e2]
  exact h
theorem ya_impl (p : List Int) (tn : Nat) (hF : Fair p tn) (h218 : (legalL p).length ≤ 218) (hh : p.getD 67 0 ≤ 1000000) (hf : p.getD 68 0 ≤ 1000000) (w : World) (hT : Tabs w) (hA : IntSl w 0 .i8 allL) (hP : IntSl w 1 .i8 [2, 3, 4, 5]) :
    Calls Tryz.prog 12 #[.agg (ints p)] w fun e w' => ∃ v, e = .returned (.tuple #[v, .bool true]) ∧ ownMvs w' w.heap.size v (movesL p tn) ∧ Below w.heap.size w w' := by
  have hl := hF.snd.pos.len
  have hoks := lay (full_ok p tn hF)
  have hn218 : Shut ((fullE p tn).length ≤ 218) := by show _ ≤ _; rw [full_len p tn hF]; exact h218
  obtain ⟨ib, hib, hzi0, hzi1, hzi2⟩ := info_parts (show (Tryz.prog.info? 35).map (fun i => (i.zero, i.size, i.bytes)) = some (some (.agg (ints [0, 0, 0])), 3, 24) by kernel_rfl)
  have hmf := makeFunc_run Tryz.prog
  obtain ⟨hr0, hr1, hr2, hBW, hsz⟩ := wsW_rows w p (.slice none 0 0) (.bool false) 30 4
  have hr0' : (wsW w p (.slice none 0 0) (.bool false) 30 4).heap[w.heap.size]? = some (.cells (ints p) 24 (0, 0)) := hr0
  have hpz := lay (pz_position p tn hF.snd hh hf (wsW w p (.slice none 0 0) (.bool false) 30 4) (hT.below hBW (Nat.le_refl _)) (hA.below hBW))
  have hTb := lay (fun (V : World) (hV : Below w.heap.size w V) => hT.below hV (Nat.le_refl _))
  have hAb := lay (fun (V : World) (hV : Below w.heap.size w V) => hA.below hV)
  have hPb := lay (fun (V : World) (hV : Below w.heap.size w V) => hP.below hV)
  have hva := lay (fun (pg bg : Nat) (V : World) h1 h2 h3 h4 h5 h6 => wv_valid p tn hF h218 pg bg (p.getD 67 0) (p.getD 68 0) V h1 h2 h3 h4 h5 h6)
  clear hF hT hA hP h218
  go_enter_defers Tryz.func12, Tryz.ntmps12
  go_wp2_with (with_reducible refine at_load_row hr0' Tryz.underlying24 rfl ?_ rfl ?_; (rw [ints_size, hl]; kernel_rfl))
  change Calls _ _ _ (wsW w p (.slice none 0 0) (.bool false) 30 4) _
  generalize wsW w p (.slice none 0 0) (.bool false) 30 4 = W at *
  refine hpz.out.mono ?_
  rintro e1 w1 ⟨v, rfl, pg, bg, rfl, hge, hEp, hb1⟩
  have hB1 := lay (hBW.trans (hb1.mono hBW.size))
  have hva1 := lay (hva.out pg bg w1 hEp.ps hEp.bd (eng_ne hEp) (hTb.out w1 hB1.out) (hAb.out w1 hB1.out) (hPb.out w1 hB1.out))
  have r1 := lay ((hb1.block (w.heap.size + 1) (by omega)).trans hr1)
  have r2 := lay ((hb1.block (w.heap.size + 1 + 1) (by omega)).trans hr2)
  have hs1 := lay hb1.size
  have hgs := lay hge
  have hszs := lay hsz
  clear hr0 hr0' hr1 hr2 hb1 hEp hBW hge hva hsz
  go_wp2_with fail
  refine hva1.out.mono ?_
  rintro e2 w2 ⟨u, rfl, hmv, _, _, _, hK⟩
  have hB2 := lay (hK w.heap.size w (by have := hgs.out; have := hszs.out; omega) (by have := hs1.out; have := hszs.out; omega) hB1.out)
  have hk3 := hK (w.heap.size + 3) w1 (by have := hgs.out; have := hszs.out; omega) (by have := hs1.out; have := hszs.out; omega) (Below.refl _ _)
  have q1 := lay ((hk3.block (w.heap.size + 1) (by omega)).trans r1.out)
  have q2 := lay ((hk3.block (w.heap.size + 1 + 1) (by omega)).trans r2.out)
  have hs2 : Shut (w.heap.size + 3 ≤ w2.heap.size) := by
    show _ ≤ _
    have h1 := hk3.size
    have h2 := hs1.out
    have h3 := hszs.out
    omega
  clear hK hk3 hva1 hB1 r1 r2 hs1 hgs hszs
  rcases hmv with ⟨hn0, rfl⟩ | ⟨g, c, rfl, hls⟩
  · have htk : Shut (movesL p tn = []) := List.eq_nil_of_length_eq_zero (by unfold movesL; rw [List.length_map]; exact hn0)
    have m0 := cell_of_row w2 _ 0 _ _ _ q1.out
    have m1 := cell_of_row w2 _ 0 _ _ _ q2.out
    have m2 := frozen_of_row w2 (w.heap.size + 1) 0 _ _ q1.out
    have m3 := frozen_of_row w2 (w.heap.size + 1 + 1) 0 _ _ q2.out
    have hbF := lay ((hB2.out.setCell (p := ⟨w.heap.size + 1, 0, none⟩) (by simp) (.slice none 0 0)).setCell (p := ⟨w.heap.size + 1 + 1, 0, none⟩) (by first | (simp; done) | (simp; omega)) (.bool true))
    clear hn0
    go_wp2_with fail
    go_loopw [11] (fun i wx => i = .int .i64 0 ∧ wx = w2) (fun i _ => 0)
    case atStart => exact ⟨rfl, rfl⟩
    case round =>
      obtain ⟨rfl, rfl⟩ := hrel
      go_wp2_with fail
      refine leaves_cons (f := 32) (args := #[.pointer (some ⟨w.heap.size + 1, 0, none⟩), .pointer (some ⟨w.heap.size + 1 + 1, 0, none⟩)]) (by simp) (by simp [go_sem]) ?_
      refine (ya_idle _ _ _).mono ?_
      rintro e u' w'' ⟨rfl, rfl, rfl⟩
      simp [Leaves, settle, results, Tryz.results12, go_sem, m0, m1]
      refine ⟨?_, hbF.out⟩
      rw [htk.out]
      exact World.ownsRow_nil _ _ _ _
  · obtain ⟨n, hn⟩ : ∃ n, (fullE p tn).length = n := ⟨_, rfl⟩
    have hns := lay hn
    rw [hn]
    have hlss := lay hls
    clear hn hls
    go_wp2_with fail
    go_loopw [11] (fun i wx => ∃ k : Nat, k ≤ n ∧ i = .int .i64 (k : Int) ∧ Below w.heap.size w wx ∧ w2.heap.size ≤ wx.heap.size ∧ wx.rangeAt g 0 (flat (ents (fullE p tn))) ∧ wx.heap[w.heap.size + 1 + 1]? = some (.cells #[.bool false] 4 (0, 0)) ∧ ∃ v, wx.heap[w.heap.size + 1]? = some (.cells #[v] 30 (0, 0)) ∧ ownMvs wx w2.heap.size v ((movesL p tn).take k)) (fun i _ => ((n : Int) - intOf i).toNat)
    case atStart => exact ⟨0, by omega, rfl, hB2.out, Nat.le_refl _, hlss.out, q2.out, _, q1.out, World.ownsRow_nil _ _ _ _⟩
    case round =>
      obtain ⟨k, hk, rfl, hb3, hb4, hl3, r3, v, r4, ho⟩ := hrel
      by_cases hlt : k < n
      · obtain ⟨x, hx⟩ : ∃ x, (fullE p tn)[k]? = some x := ⟨_, List.getElem?_eq_getElem (by rw [hns.out]; exact hlt)⟩
        have hle := lay (range_ent hl3 k x hx)
        have hgw : Shut (g < w2.heap.size ∧ g ≠ w.heap.size + 1) := by
          have hf : (flat (ents (fullE p tn)))[0]? = some (.pointer none) := by
            cases hfe : fullE p tn with
            | nil => rw [hfe] at hx; simp at hx
            | cons y l => rfl
          have h1 := hlss.out 0 _ hf
          refine ⟨World.block_lt_of_cell? w2 _ h1, ?_⟩
          intro e
          rw [e, cell_of_row w2 _ (0 + 0) _ _ _ q1.out] at h1
          have h2 : (some (Value.slice none 0 0) : Option Value) = some (.pointer none) := h1
          injection h2 with h3
          cases h3
        have hl3 := lay hl3
        have hxs := lay hx
        have ho := lay ho
        have hb3 := lay hb3
        have hb4 := lay hb4
        have r3 := lay r3
        have r4 := lay r4
        have hltz : (k : Int) < (n : Int) := by omega
        have hltS := lay hltz
        obtain ⟨cs, hcs⟩ : ∃ cs, entK x = cs := ⟨_, rfl⟩
        have hsz : Shut (cs.size = 11) := by show _ = _; rw [← hcs]; rfl
        have hon : Shut (cs.all (·.oneCell') = true) := by show _ = _; rw [← hcs]; exact mvK_one _ _ _ _
        have hnf : Shut ((Tryz.prog.info? 73).map (·.size) = some cs.size) := by
          show _ = _
          rw [hsz.out]
          kernel_rfl
        rw [hcs] at hle
        have hcss := lay hcs
        clear hcs hx
        go_upto_region 5 with (first
          | ((with_reducible refine at_load_mid cs hle.out Tryz.underlying73 rfl ?_ ?_ ?_); exact hnf.out; rfl)
          | ((with_reducible refine at_new_row cs ?_ ?_ ?_ ?_ ?_ ?_); exact hnf.out; (rw [hsz.out]; kernel_rfl); exact hon.out; rfl; rfl; intro W5 r5 hb5))
        have hmv5 : Shut (MvAt wr.heap.size (tgN x.2) x.1.fr x.1.to x.1.pr W5) := by
          show _ = _
          rw [← hcss.out] at r5
          exact r5
        have r45 : Shut (W5.heap[w.heap.size + 1]? = some (.cells #[v] 30 (0, 0))) := (hb5.block _ (Array.getElem?_eq_some_iff.1 r4.out).1).trans r4.out
        have r35 : Shut (W5.heap[w.heap.size + 1 + 1]? = some (.cells #[.bool false] 4 (0, 0))) := (hb5.block _ (Array.getElem?_eq_some_iff.1 r3.out).1).trans r3.out
        have ho5 : Shut (ownMvs W5 w2.heap.size v ((movesL p tn).take k)) := own_next ho.out hb5
        have hb35 := lay (hb3.out.trans (hb5.mono hb3.out.size))
        have hb45 : Shut (w2.heap.size ≤ W5.heap.size) := Nat.le_trans hb4.out hb5.size
        have hgl : Shut (W5.rangeAt g 0 (flat (ents (fullE p tn)))) := fun j u hj => (hb5.cell (p := ⟨g, 0 + j, none⟩) (World.block_lt_of_cell? wr _ (hl3.out j u hj))).trans (hl3.out j u hj)
        have c4 := cell_of_row W5 _ 0 _ _ _ r45.out
        have f4 := frozen_of_row W5 _ 0 _ _ r45.out
        have hlt5 : w.heap.size + 1 < W5.heap.size := (Array.getElem?_eq_some_iff.1 r45.out).1
        have hok := hoks.out x (List.mem_iff_getElem?.2 ⟨k, hxs.out⟩)
        have hpm := lay (ya_plain wr.heap.size (tgN x.2) x.1 hok W5.drew hmv5.out)
        have c4p : (plW x.1 W5.drew).cell? ⟨w.heap.size + 1, 0, none⟩ = some v := ((plW_below x.1 W5.drew).cell (p := ⟨w.heap.size + 1, 0, none⟩) (show w.heap.size + 1 < W5.drew.heap.size from hlt5)).trans c4
        have hfold : Array.foldl (fun (cs : Array Value) (x : Value × Nat) => cs.setIfInBounds x.snd x.fst) #[Value.int .i64 0, Value.int .i64 0, Value.int .i64 0] (ints (mvL x.1)).zipIdx 0 (ints (mvL x.1)).size = (mvC x.1).toArray := rfl
        have c4q : ((plW x.1 W5.drew).alloc (.cells (mvC x.1).toArray 35)).cell? ⟨w.heap.size + 1, 0, none⟩ = some v := (((Below.refl _ _).alloc (Nat.le_refl _) _).cell (p := ⟨w.heap.size + 1, 0, none⟩) (show w.heap.size + 1 < (plW x.1 W5.drew).heap.size from Nat.lt_of_lt_of_le hlt5 (plW_below x.1 W5.drew).size)).trans c4p
        clear r5 hb5 hsz hon hnf hok
        have hlen5 : Shut (((movesL p tn).take k).length ≤ 1000000) := by
          show _ ≤ _
          rw [List.length_take]
          have := hn218.out
          have := hns.out
          omega
        have hBp := lay (plW_below x.1 W5.drew)
        have hoP : Shut (ownMvs (plW x.1 W5.drew) w2.heap.size v ((movesL p tn).take k)) := own_next (w := W5.drew) ho5.out (plW_below x.1 W5.drew)
        have hszP : Shut (w2.heap.size ≤ (plW x.1 W5.drew).heap.size) := Nat.le_trans hb45.out hBp.out.size
        refine wp_region_noPanic ?_
        refine wp_region_held_drew (S := fun _ : World => True) (by kernel_rfl) trivial (fun hHeld => ?_)
        apply meets
        case h =>
          intro hkey
          refine wpAnyH_ready (rs := [0, 1]) (by kernel_rfl) (by simp) ?_
          refine AllReadyH.cons rfl (fun K hK => ?_) (AllReadyH.cons rfl (fun K hK => ?_) AllReadyH.nil)
          · skip
            try simp only [zA, zB, zC, Act.put, zD, zE, zF]
            try rw [if_pos (by rfl)]
            go_simp
            refine hK.out _ _ trivial (fun hHeld => ?_)
            clear hK K
            try simp only [zA, zB, zC, Act.put, zD, zE, zF]
            refine wpAnyH_ready (rs := [1]) (by kernel_rfl) (by simp) ?_
            refine AllReadyH.cons rfl (fun K hK => ?_) AllReadyH.nil
            try simp only [zA, zB, zC, Act.put, zD, zE, zF]
            try rw [if_pos (by rfl)]
            go_simp
            refine hpm.out.mono ?_
            rintro e3 w3 ⟨rfl, rfl⟩
            go_wp2_with fail
            refine hK.out _ _ trivial (fun hHeld => ?_)
            clear hK K
            try simp only [zA, zB, zC, Act.put, zD, zE, zF]
            refine wpAnyH_ready (rs := [2]) (by kernel_rfl) (by simp) ?_
            refine AllReadyH.cons rfl (fun K hK => ?_) AllReadyH.nil
            try simp only [zA, zB, zC, Act.put, zD, zE, zF]
            try rw [if_pos (by rfl)]
            go_simp
            refine hK.out _ _ trivial (fun hHeld => ?_)
            clear hK K
            try simp only [zA, zB, zC, Act.put, zD, zE, zF]
            exact hkey.out
          · skip
            try simp only [zA, zB, zC, Act.put, zD, zE, zF]
            try rw [if_pos (by rfl)]
            go_simp
            refine hpm.out.mono ?_
            rintro e3 w3 ⟨rfl, rfl⟩
            go_wp2_with fail
            refine hK.out _ _ trivial (fun hHeld => ?_)
            clear hK K
            try simp only [zA, zB, zC, Act.put, zD, zE, zF]
            refine wpAnyH_ready (rs := [0, 2]) (by kernel_rfl) (by simp) ?_
            refine AllReadyH.cons rfl (fun K hK => ?_) (AllReadyH.cons rfl (fun K hK => ?_) AllReadyH.nil)
            · skip
              try simp only [zA, zB, zC, Act.put, zD, zE, zF]
              try rw [if_pos (by rfl)]
              go_simp
              refine hK.out _ _ trivial (fun hHeld => ?_)
              clear hK K
              try simp only [zA, zB, zC, Act.put, zD, zE, zF]
              refine wpAnyH_ready (rs := [2]) (by kernel_rfl) (by simp) ?_
              refine AllReadyH.cons rfl (fun K hK => ?_) AllReadyH.nil
              try simp only [zA, zB, zC, Act.put, zD, zE, zF]
              try rw [if_pos (by rfl)]
              go_simp
              refine hK.out _ _ trivial (fun hHeld => ?_)
              clear hK K
              try simp only [zA, zB, zC, Act.put, zD, zE, zF]
              exact hkey.out
            · skip
              try simp only [zA, zB, zC, Act.put, zD, zE, zF]
              try rw [if_pos (by rfl)]
              go_simp
              refine hK.out _ _ trivial (fun hHeld => ?_)
              clear hK K
              try simp only [zA, zB, zC, Act.put, zD, zE, zF]
              refine wpAnyH_ready (rs := [0]) (by kernel_rfl) (by simp) ?_
              refine AllReadyH.cons rfl (fun K hK => ?_) AllReadyH.nil
              try simp only [zA, zB, zC, Act.put, zD, zE, zF]
              try rw [if_pos (by rfl)]
              go_simp
              refine hK.out _ _ trivial (fun hHeld => ?_)
              clear hK K
              try simp only [zA, zB, zC, Act.put, zD, zE, zF]
              exact hkey.out
        case x =>
          refine wpAnyH_ready (rs := [3]) (by kernel_rfl) (by simp) ?_
          refine AllReadyH.cons rfl (fun K hK => ?_) AllReadyH.nil
          change if _ = true then Oper.wp _ _ _ ((plW x.1 W5.drew).alloc (.cells (mvC x.1).toArray 35)) _ _ else _
          refine step_appk (esz := 3) (w := plW x.1 W5.drew) rfl _ _ rfl (mvC x.1) rfl Tryz.underlying30 hib hzi0 hzi1 hzi2 rfl (by decide) (by decide) (mvC_ones _) w2.heap.size v _ _ hoP.out hlen5.out hszP.out ?hx ?hy ?hh
          case hx => rfl
          case hy => rfl
          case hh =>
          intro v' w' own' hb'
          obtain ⟨a6, k6, q6, rfl⟩ := own_slc own'
          have r46 := lay ((hb'.block (w.heap.size + 1) (by have := hs2.out; omega)).trans ((hBp.out.block (w.heap.size + 1) hlt5).trans r45.out))
          have r36 := lay ((hb'.block (w.heap.size + 1 + 1) (by have := hs2.out; omega)).trans ((hBp.out.block (w.heap.size + 1 + 1) (Array.getElem?_eq_some_iff.1 r35.out).1).trans r35.out))
          have c46 := cell_of_row w' _ 0 _ _ _ r46.out
          have f46 := frozen_of_row w' _ 0 _ _ r46.out
          have own6 := lay own'
          have hb6 := lay hb'
          clear own' hb' c4 f4 c4p c4q hfold
          refine hK.out _ _ trivial (fun hHeld => ?_)
          clear hK K
          try simp only [zA, zB, zC, Act.put, zD, zE, zF]
          refine wpAnyH_ready (rs := [4]) (by kernel_rfl) (by simp) ?_
          refine AllReadyH.cons rfl (fun K hK => ?_) AllReadyH.nil
          try simp only [zA, zB, zC, Act.put, zD, zE, zF]
          try rw [if_pos (by rfl)]
          go_simp
          have rZ := lay (heap_setCell_same w' (w.heap.size + 1) 0 _ _ (.slice a6 k6 q6) r46.out)
          have rY := lay ((heap_setCell_other w' ⟨w.heap.size + 1, 0, none⟩ (w.heap.size + 1 + 1) (.slice a6 k6 q6) (by simp)).trans r36.out)
          have hbZ := lay ((((hb35.out.drew).trans (hBp.out.mono (by have := hb35.out.size; exact this))).trans (hb6.out.mono (by have := hs2.out; omega))).setCell (p := ⟨w.heap.size + 1, 0, none⟩) (by simp) (.slice a6 k6 q6))
          have hoZ := lay (ownsRow_setCell_below own6.out (a := ⟨w.heap.size + 1, 0, none⟩) (by have := hs2.out; show w.heap.size + 1 < w2.heap.size; omega) (.slice a6 k6 q6))
          have hoF : Shut (ownMvs (w'.setCell ⟨w.heap.size + 1, 0, none⟩ (.slice a6 k6 q6)) w2.heap.size (.slice a6 k6 q6) ((movesL p tn).take (k + 1))) := by
            have hx2 : (movesL p tn)[k]? = some x.1 := by
              unfold movesL
              rw [List.getElem?_map, hxs.out]
              rfl
            exact own_mv_step hx2 hoZ.out
          have hb4Z : Shut (w2.heap.size ≤ (w'.setCell ⟨w.heap.size + 1, 0, none⟩ (.slice a6 k6 q6)).heap.size) := by
            show _ ≤ _
            have h1 := hb6.out.size
            have h2 := hszP.out
            simp
            omega
          have hlZ : Shut ((w'.setCell ⟨w.heap.size + 1, 0, none⟩ (.slice a6 k6 q6)).rangeAt g 0 (flat (ents (fullE p tn)))) := by
            intro j u hj
            have h1 := hgl.out j u hj
            have h2 : w'.cell? ⟨g, 0 + j, none⟩ = (plW x.1 W5.drew).cell? ⟨g, 0 + j, none⟩ := hb6.out.cell (p := ⟨g, 0 + j, none⟩) hgw.out.1
            have h3 : (plW x.1 W5.drew).cell? ⟨g, 0 + j, none⟩ = W5.drew.cell? ⟨g, 0 + j, none⟩ := hBp.out.cell (p := ⟨g, 0 + j, none⟩) (Nat.lt_of_lt_of_le hgw.out.1 hb45.out)
            have h4 : W5.drew.cell? ⟨g, 0 + j, none⟩ = W5.cell? ⟨g, 0 + j, none⟩ := rfl
            rw [← h4, ← h3, ← h2] at h1
            unfold World.cell? at h1 ⊢
            rw [heap_setCell_other _ _ _ _ hgw.out.2]
            exact h1
          clear c46 f46 own6
          refine hK.out _ _ trivial (fun hHeld => ?_)
          clear hK K
          try simp only [zA, zB, zC, Act.put, zD, zE, zF]
          refine wpAnyH_done (by kernel_rfl) ?_ _
          refine NoPanic.normal ?_
          generalize w'.setCell ⟨w.heap.size + 1, 0, none⟩ (.slice a6 k6 q6) = Z at *
          have hkb : (k : Int) ≤ 218 := by
            have := hltS.out
            have := hn218.out
            have := hns.out
            omega
          go_wp2_with fail
          go_roundw
          case rel => exact ⟨k + 1, by (have := hltS.out; omega), by go_num, hbZ.out, hb4Z.out, hlZ.out, rY.out, _, rZ.out, hoF.out⟩
          case measure => (have := hltS.out; simp [intOf]; omega)
      · obtain rfl : k = n := by omega
        have htk : (movesL p tn).take k = movesL p tn := by
          refine List.take_of_length_le ?_
          unfold movesL
          rw [List.length_map, hns.out]
          exact Nat.le_refl _
        rw [htk] at ho
        obtain ⟨a6, k6, q6, rfl⟩ := own_slc ho
        have m0 := cell_of_row wr _ 0 _ _ _ r4
        have m1 := cell_of_row wr _ 0 _ _ _ r3
        have m2 := frozen_of_row wr (w.heap.size + 1) 0 _ _ r4
        have m3 := frozen_of_row wr (w.heap.size + 1 + 1) 0 _ _ r3
        have hbF := lay ((hb3.setCell (p := ⟨w.heap.size + 1, 0, none⟩) (by simp) (.slice a6 k6 q6)).setCell (p := ⟨w.heap.size + 1 + 1, 0, none⟩) (by first | (simp; done) | (simp; omega)) (.bool true))
        have hoF := lay (own_mono (ownsRow_setCell_below (ownsRow_setCell_below ho (a := ⟨w.heap.size + 1, 0, none⟩) (by have := hs2.out; show w.heap.size + 1 < w2.heap.size; omega) (.slice a6 k6 q6)) (a := ⟨w.heap.size + 1 + 1, 0, none⟩) (by have := hs2.out; show w.heap.size + 1 + 1 < w2.heap.size; omega) (.bool true)) (show w.heap.size ≤ w2.heap.size by have := hs2.out; omega))
        clear r3 r4 ho hl3 hb3 hb4
        go_wp2_with fail
        refine leaves_cons (f := 32) (args := #[.pointer (some ⟨w.heap.size + 1, 0, none⟩), .pointer (some ⟨w.heap.size + 1 + 1, 0, none⟩)]) (by simp) (by simp [go_sem]) ?_
        refine (ya_idle _ _ _).mono ?_
        rintro e u' w'' ⟨rfl, rfl, rfl⟩
        simp [Leaves, settle, results, Tryz.results12, go_sem, m0, m1]
        exact ⟨hoF.out, hbF.out⟩
end Go.Proofs.YtnjdgooljnbebaaGreatDoor
namespace Go.Proofs.YtnjdgooljnbebaaGreatDoor
open Go Go.RowKit
open List renaming getElem_toArray → zA, getElem_cons_zero → zB, getElem_cons_succ → zC, setIfInBounds_toArray → zD, set_cons_zero → zE, set_cons_succ → zF
set_option maxHeartbeats 8000000
set_option linter.unusedSimpArgs false
set_option linter.unusedVariables false
set_option maxRecDepth 100000

theorem three_fields {α : Type} {xs : List α} (h : xs.length = 3) : ∃ y0 y1 y2, xs = [y0, y1, y2] := by
  match xs, h with
  | [y0, y1, y2], _ => exact ⟨y0, y1, y2, rfl⟩
theorem mv_dec (a b : Mv) : (decide (a.fr = b.fr) && (decide (a.to = b.to) && decide (a.pr = b.pr))) = decide (a = b) := by
  obtain ⟨a0, a1, a2⟩ := a
  obtain ⟨b0, b1, b2⟩ := b
  rw [Bool.eq_iff_iff]
  simp
theorem ye_eq (a b : Mv) (w : World) : (Op.equalIn 10000 35 (.agg (ints (mvL a))) (.agg (ints (mvL b)))).run Tryz.prog w = .ok (decide (a = b)) w := by
  have hf : ((Tryz.prog.fieldsOf 35).toList.map fun f => (decide (f.name = "_"), f.type, f.offset)) = [(false, 3, 0), (false, 3, 1), (false, 3, 2)] := by kernel_rfl
  have hu : Tryz.prog.underlying 35 = some (.struct (Tryz.prog.fieldsOf 35)) := by kernel_rfl
  have hint : Tryz.prog.underlying 3 = some (.int .i64) := Tryz.underlying3
  rw [show (10000 : Nat) = 9999 + 1 from rfl, run_equalIn_struct w 9999 _ _ _ hu (by kernel_rfl)]
  generalize (Tryz.prog.fieldsOf 35).toList = fs at hf
  obtain ⟨f0, f1, f2, rfl⟩ := three_fields (xs := fs) (by simpa using congrArg List.length hf)
  simp only [List.map_cons, List.map_nil, List.cons.injEq, Prod.mk.injEq, decide_eq_false_iff_not, and_true] at hf
  obtain ⟨⟨n0, t0, o0⟩, ⟨n1, t1, o1⟩, ⟨n2, t2, o2⟩⟩ := hf
  have hpi := fun (V : World) (x : List Int) (j : Nat) (hj : j < x.length) => part_int (P := Tryz.prog) hint x j hj V
  have hqi := fun (V : World) (a b : Int) => run_equalIn_int (P := Tryz.prog) V 9998 3 .i64 .i64 a b hint
  have la : ∀ m : Mv, (mvL m).length = 3 := fun _ => rfl
  have g0 : ∀ m : Mv, (mvL m).getD 0 0 = m.fr := fun _ => rfl
  have g1 : ∀ m : Mv, (mvL m).getD 1 0 = m.to := fun _ => rfl
  have g2 : ∀ m : Mv, (mvL m).getD 2 0 = m.pr := fun _ => rfl
  rw [← mv_dec a b]
  have e0 : (a.fr == b.fr) = decide (a.fr = b.fr) := by rw [Bool.eq_iff_iff]; simp
  have e1 : (a.to == b.to) = decide (a.to = b.to) := by rw [Bool.eq_iff_iff]; simp
  have e2 : (a.pr == b.pr) = decide (a.pr = b.pr) := by rw [Bool.eq_iff_iff]; simp
  simp only [Op.eqFields, n0, n1, n2, t0, t1, t2, o0, o1, o2, ne_eq, not_false_eq_true, if_true, Sem.run_bind, hpi w (mvL a) 0 (by rw [la]; decide), hpi w (mvL b) 0 (by rw [la]; decide), g0, Result.andThen_ok, hqi, e0]
  cases decide (a.fr = b.fr)
  · simp
  simp only [Bool.not_true, Bool.false_eq_true, if_false, Bool.true_and, Sem.run_bind, hpi w (mvL a) 1 (by rw [la]; decide), hpi w (mvL b) 1 (by rw [la]; decide), g1, Result.andThen_ok, hqi, e1]
  cases decide (a.to = b.to)
  · simp
  simp only [Bool.not_true, Bool.false_eq_true, if_false, Bool.true_and, Sem.run_bind, hpi w (mvL a) 2 (by rw [la]; decide), hpi w (mvL b) 2 (by rw [la]; decide), g2, Result.andThen_ok, hqi, e2]
  cases decide (a.pr = b.pr)
  · simp
  simp
/-- Of all old blocks none but one has changed. -/
def Alone (g : Nat) (w w' : World) : Prop := Below 0 w w' ∧ ∀ j, j < w.heap.size → j ≠ g → w'.heap[j]? = w.heap[j]?
theorem Alone.below {g : Nat} {w w' : World} (h : Alone g w w') {B : Nat} {a : World} (hB : B ≤ g) (hs : B ≤ w.heap.size) (hb : Below B a w) : Below B a w' :=
  hb.trans ⟨h.1.os, h.1.tape, h.1.output, h.1.size, fun k hk => h.2 k (by omega) (by omega)⟩
theorem Alone.trans {g : Nat} {w w1 w2 : World} (h : Alone g w w1) (k : Alone g w1 w2) : Alone g w w2 :=
  ⟨h.1.trans k.1, fun j hj hg => (k.2 j (Nat.lt_of_lt_of_le hj h.1.size) hg).trans (h.2 j hj hg)⟩
theorem Alone.of {g : Nat} {w w' : World} (h : Below w.heap.size w w') : Alone g w w' := ⟨h.mono (Nat.zero_le _), fun j hj _ => h.block j hj⟩
theorem Alone.drew {g : Nat} {w w' : World} (h : Alone g w w') : Alone g w w'.drew := ⟨h.1.drew, h.2⟩
end Go.Proofs.YtnjdgooljnbebaaGreatDoor
namespace Go.Proofs.YtnjdgooljnbebaaGreatDoor
open Go Go.RowKit
open List renaming getElem_toArray → zA, getElem_cons_zero → zB, getElem_cons_succ → zC, setIfInBounds_toArray → zD, set_cons_zero → zE, set_cons_succ → zF
set_option maxHeartbeats 8000000
set_option linter.unusedSimpArgs false
set_option linter.unusedVariables false
set_option maxRecDepth 100000

end Go.Proofs.YtnjdgooljnbebaaGreatDoor
namespace Go.Proofs.YtnjdgooljnbebaaGreatDoor
open Go Go.RowKit
open List renaming getElem_toArray → zA, getElem_cons_zero → zB, getElem_cons_succ → zC, setIfInBounds_toArray → zD, set_cons_zero → zE, set_cons_succ → zF
set_option maxHeartbeats 8000000
set_option linter.unusedSimpArgs false
set_option linter.unusedVariables false
set_option maxRecDepth 100000

theorem askedB_lg {p : List Int} (h : askedB p = true) : (legalL p).length ≤ 218 := by
  rw [askedB, Bool.and_eq_true, Bool.and_eq_true, Bool.and_eq_true] at h; exact of_decide_eq_true h.2.2.2
end Go.Proofs.YtnjdgooljnbebaaGreatDoor
