/- impl.Moves: the legal moves, in the engine's order. For every fair position with at most 218 legal moves.
impl.find: the legal move with the squares and the promotion of a move, none without one. For every fair position with at most 218 legal moves.
impl.valid of a legal move, and impl.Tags. For every fair position with at most 218 legal moves, and each of these.
FnMvAllTags: the law. For every position. -/
import Derived.Test.YtnjdgooljnbebaaGreatDoorG0
import Derived.Test.YtnjdgooljnbebaaGreatDoorG9
import Derived.Test.YtnjdgooljnbebaaGreatDoorGa
namespace Go.Proofs.YtnjdgooljnbebaaGreatDoor
open Go Go.RowKit
open List renaming getElem_toArray → zA, getElem_cons_zero → zB, getElem_cons_succ → zC, setIfInBounds_toArray → zD, set_cons_zero → zE, set_cons_succ → zF
set_option maxHeartbeats 8000000
set_option linter.unusedSimpArgs false
set_option linter.unusedVariables false
set_option maxRecDepth 100000

theorem ya_idle (p q : Addr) (w : World) :
    CallsD Tryz.prog 32 #[.pointer (some p), .pointer (some q)] .returning w fun e u' w' => e = .returned (.tuple #[]) ∧ u' = .returning ∧ w = w' := by
  refine callsD_of_wpS Tryz.func32 rfl fun c₀ cs hu => ?_
  apply wpS_seq
  apply wpS_region
  simp [wpOpsS, go_sem, recoverD, hu, Tryz.ntmps32, Exit.thenS]
  refine wpS_cond (t := false) (by simp [Act.eval, Array.replicate]) ?_
  simp only [Bool.false_eq_true, if_false]
  refine wpS_of_wp (wp_skip ?_)
  cases c₀
  simp_all [bodyPostS, results, Tryz.results32]
/-- The world behind plainMove. -/
def plW (m : Mv) (w : World) : World := w.alloc (.cells (ints (mvL m)) 35)
theorem ya_plain (g : Nat) (t : Int) (m : Mv) (hm : MvOk m) (w : World) (hg : MvAt g t m.fr m.to m.pr w) :
    Calls Tryz.prog 34 #[.pointer (some ⟨g, 0, none⟩)] w fun e w' => e = .returned (.agg (ints (mvL m))) ∧ plW m w = w' := by
  have hg1 : MvAt g t m.fr m.to m.pr (w.alloc (.cells #[.int .i64 0, .int .i64 0, .int .i64 0] 35)) := heap_keep (o' := .cells #[.int .i64 0, .int .i64 0, .int .i64 0] 35) hg
  have f0 := hm.f0
  have f1 := hm.f1
  have t0 := hm.t0
  have t1 := hm.t1
  have p0 := hm.p0
  have p1 := hm.p1
  obtain ⟨a, b, pr⟩ := m
  have f0 : 0 ≤ a := f0
  have f1 : a ≤ 63 := f1
  have t0 : 0 ≤ b := t0
  have t1 : b ≤ 63 := t1
  have p0 : 0 ≤ pr := p0
  have p1 : pr ≤ 6 := p1
  have hwa : wrap64 a = a := by unfold wrap64; omega
  have hwb : wrap64 b = b := by unfold wrap64; omega
  have hwp : wrap64 pr = pr := by unfold wrap64; omega
  have h1 := wp_S1 g _ _ _ _ _ hg1
  have h2 := wp_S2 g _ _ _ _ _ hg1
  have h3 := wp_Promo g _ _ _ _ _ hg1
  clear hg hg1 hm
  go_enter Tryz.func34, Tryz.ntmps34
  go_wp2_with (first
    | (go_at_call 67; refine h1.mono ?_; rintro e1 w1 ⟨rfl, rfl⟩)
    | (go_at_call 68; refine h2.mono ?_; rintro e1 w1 ⟨rfl, rfl⟩)
    | (go_at_call 69; refine h3.mono ?_; rintro e1 w1 ⟨rfl, rfl⟩))
  exact bodyPost_ret (v := .agg (ints (mvL ⟨a, b, pr⟩))) (by simp [mvL, ints, results, Tryz.results34, go_sem, hwa, hwb, hwp]) rfl ⟨rfl, by simp [plW, mvL, ints, hwa, hwb, hwp]⟩
theorem plW_below (m : Mv) (w : World) : Below w.heap.size w (plW m w) := (Below.refl _ _).alloc (Nat.le_refl _) _
theorem full_ok (p : List Int) (tn : Nat) (hF : Fair p tn) (x : Mv × Tg) (hx : x ∈ fullE p tn) : MvOk x.1 := by
  have h1 : x.1 ∈ (fullE p tn).map (·.1) := List.mem_map_of_mem hx
  have h2 := (full_perm p tn hF).subset h1
  have htn := hF.snd.one
  exact pseudoL_ok p (by rw [hF.snd.turn]; omega) (by rw [hF.snd.turn]; omega) x.1 (List.mem_filter.1 h2).1
theorem step_appk {P : Program} {ops : Array Oper} {o : Oper} {a : Act} {w : World} {K : Act → World → Prop} {Q : Exit → Act → World → Prop} {E : Prop} (hgd : o.guard = none) (x y : Operand) {t e : TypeId} (ho : o.op = .call { callee := .builtin .append, args := #[x, y], argTypes := #[t, t] })
    (us : List Value) {esz : Nat} (hes : us.length = esz) {i : TypeInfo} {z : Value} {bytes : Nat} (ht : P.underlying t = some (.slice e)) (hi : P.info? e = some i) (hz : i.zero = some z) (hsize : i.size = esz) (hby : i.bytes = bytes) (hzs : z.cells.size = esz) (h0 : 0 < esz) (hb : bytes ≤ 100) (hu : ∀ u ∈ us, u.oneCell' = true)
    (base : Nat) (v : Value) (n : Nat) (xs : List Value) (hO : w.ownsRow base e esz v n xs) (hlen : n ≤ 1000000) (hbase : base ≤ w.heap.size)
    (hx : a.eval x = v) (hy : a.eval y = .slice (some ⟨w.heap.size, 0, none⟩) 1 1)
    (h : ∀ v' w', w'.ownsRow base e esz v' (n + 1) (xs ++ us) → Below base w w' → K (a.put o.dst v') w') :
    if Region.wanted o (yielded ops a.tmps) = true then Oper.wp P o a (w.alloc (.cells us.toArray e)) K Q else E := by
  refine step_append_lies _ hgd x y t ho base e i z esz bytes ht hi hz hsize hby hzs h0 v n xs hx (hO.alloc _)
    ⟨w.heap.size, 0, none⟩ 1 1 us hy (by simpa using hes) (news_cell w us e _ rfl) hu (by decide) ?_ ?_ ?_ (w.heap.size + 1) (by simp) ?_
  · unfold maxLen; omega
  · have : (n + 1) * bytes ≤ 1000001 * 100 := Nat.mul_le_mul (by omega) hb
    omega
  · simp; omega
  · intro g cap w' hown hgrow hg _
    exact h _ _ hown (((Below.refl _ _).alloc hbase _).grown hgrow (by simp; omega) (own_ge hO))
/-- The engine's moves. -/
def movesL (p : List Int) (tn : Nat) : List Mv := (fullE p tn).map fun x => x.1
theorem mvC_ones (m : Mv) : ∀ u ∈ mvC m, u.oneCell' = true := by
  intro u hu
  simp [mvC] at hu
  rcases hu with rfl | rfl | rfl <;> rfl
theorem own_mv_step {w : World} {base : Nat} {v : Value} {l : List Mv} {k : Nat} {m : Mv} (hk : l[k]? = some m) (h : w.ownsRow base 35 3 v ((l.take k).length + 1) (mvsC (l.take k) ++ mvC m)) : ownMvs w base v (l.take (k + 1)) := by
  have e : l.take (k + 1) = l.take k ++ [m] := by rw [List.take_add_one, hk]; rfl
  unfold ownMvs
  rw [e, List.length_append]
  have e2 : mvsC (l.take k ++ [m]) = mvsC (l.take k) ++ mvC m := by simp [mvsC]
  rw [e2]
  exact h
theorem ya_impl (p : List Int) (tn : Nat) (hF : Fair p tn) (h218 : (legalL p).length ≤ 218) (hh : p.getD 67 0 ≤ 1000000) (hf : p.getD 68 0 ≤ 1000000) (w : World) (hT : Tabs w) (hA : IntSl w 0 .i8 allL) (hP : IntSl w 1 .i8 [2, 3, 4, 5]) :
    Calls Tryz.prog 12 #[.agg (ints p)] w fun e w' => ∃ v, e = .returned (.tuple #[v, .bool true]) ∧ ownMvs w' w.heap.size v (movesL p tn) ∧ Below w.heap.size w w' := by
  have hl := hF.snd.pos.len
  have hoks := lay (full_ok p tn hF)
  have hn218 : Shut ((fullE p tn).length ≤ 218) := by show _ ≤ _; rw [full_len p tn hF]; exact h218
  obtain ⟨ib, hib, hzi0, hzi1, hzi2⟩ := info_parts (show (Tryz.prog.info? 35).map (fun i => (i.zero, i.size, i.bytes)) = some (some (.agg (ints [0, 0, 0])), 3, 24) by kernel_rfl)
  have hmf := makeFunc_run Tryz.prog
  obtain ⟨hr0, hr1, hr2, hBW, hsz⟩ := wsW_rows w p (.slice none 0 0) (.bool false) 30 4
  have hr0' : (wsW w p (.slice none 0 0) (.bool false) 30 4).heap[w.heap.size]? = some (.cells (ints p) 24 (0, 0)) := hr0
  have hpz := lay (pz_position p tn hF.snd hh hf (wsW w p (.slice none 0 0) (.bool false) 30 4) (hT.below hBW (Nat.le_refl _)) (hA.below hBW))
  have hTb := lay (fun (V : World) (hV : Below w.heap.size w V) => hT.below hV (Nat.le_refl _))
  have hAb := lay (fun (V : World) (hV : Below w.heap.size w V) => hA.below hV)
  have hPb := lay (fun (V : World) (hV : Below w.heap.size w V) => hP.below hV)
  have hva := lay (fun (pg bg : Nat) (V : World) h1 h2 h3 h4 h5 h6 => wv_valid p tn hF h218 pg bg (p.getD 67 0) (p.getD 68 0) V h1 h2 h3 h4 h5 h6)
  clear hF hT hA hP h218
  go_enter_defers Tryz.func12, Tryz.ntmps12
  go_wp2_with (with_reducible refine at_load_row hr0' Tryz.underlying24 rfl ?_ rfl ?_; (rw [ints_size, hl]; kernel_rfl))
  change Calls _ _ _ (wsW w p (.slice none 0 0) (.bool false) 30 4) _
  generalize wsW w p (.slice none 0 0) (.bool false) 30 4 = W at *
  refine hpz.out.mono ?_
  rintro e1 w1 ⟨v, rfl, pg, bg, rfl, hge, hEp, hb1⟩
  have hB1 := lay (hBW.trans (hb1.mono hBW.size))
  have hva1 := lay (hva.out pg bg w1 hEp.ps hEp.bd (eng_ne hEp) (hTb.out w1 hB1.out) (hAb.out w1 hB1.out) (hPb.out w1 hB1.out))
  have r1 := lay ((hb1.block (w.heap.size + 1) (by omega)).trans hr1)
  have r2 := lay ((hb1.block (w.heap.size + 1 + 1) (by omega)).trans hr2)
  have hs1 := lay hb1.size
  have hgs := lay hge
  have hszs := lay hsz
  clear hr0 hr0' hr1 hr2 hb1 hEp hBW hge hva hsz
  go_wp2_with fail
  refine hva1.out.mono ?_
  rintro e2 w2 ⟨u, rfl, hmv, _, _, _, hK⟩
  have hB2 := lay (hK w.heap.size w (by have := hgs.out; have := hszs.out; omega) (by have := hs1.out; have := hszs.out; omega) hB1.out)
  have hk3 := hK (w.heap.size + 3) w1 (by have := hgs.out; have := hszs.out; omega) (by have := hs1.out; have := hszs.out; omega) (Below.refl _ _)
  have q1 := lay ((hk3.block (w.heap.size + 1) (by omega)).trans r1.out)
  have q2 := lay ((hk3.block (w.heap.size + 1 + 1) (by omega)).trans r2.out)
  have hs2 : Shut (w.heap.size + 3 ≤ w2.heap.size) := by
    show _ ≤ _
    have h1 := hk3.size
    have h2 := hs1.out
    have h3 := hszs.out
    omega
  clear hK hk3 hva1 hB1 r1 r2 hs1 hgs hszs
  rcases hmv with ⟨hn0, rfl⟩ | ⟨g, c, rfl, hls⟩
  · have htk : Shut (movesL p tn = []) := List.eq_nil_of_length_eq_zero (by unfold movesL; rw [List.length_map]; exact hn0)
    have m0 := cell_of_row w2 _ 0 _ _ _ q1.out
    have m1 := cell_of_row w2 _ 0 _ _ _ q2.out
    have m2 := frozen_of_row w2 (w.heap.size + 1) 0 _ _ q1.out
    have m3 := frozen_of_row w2 (w.heap.size + 1 + 1) 0 _ _ q2.out
    have hbF := lay ((hB2.out.setCell (p := ⟨w.heap.size + 1, 0, none⟩) (by simp) (.slice none 0 0)).setCell (p := ⟨w.heap.size + 1 + 1, 0, none⟩) (by first | (simp; done) | (simp; omega)) (.bool true))
    clear hn0
    go_wp2_with fail
    go_loopw [11] (fun i wx => i = .int .i64 0 ∧ wx = w2) (fun i _ => 0)
    case atStart => exact ⟨rfl, rfl⟩
    case round =>
      obtain ⟨rfl, rfl⟩ := hrel
      go_wp2_with fail
      refine leaves_cons (f := 32) (args := #[.pointer (some ⟨w.heap.size + 1, 0, none⟩), .pointer (some ⟨w.heap.size + 1 + 1, 0, none⟩)]) (by simp) (by simp [go_sem]) ?_
      refine (ya_idle _ _ _).mono ?_
      rintro e u' w'' ⟨rfl, rfl, rfl⟩
      simp [Leaves, settle, results, Tryz.results12, go_sem, m0, m1]
      refine ⟨?_, hbF.out⟩
      rw [htk.out]
      exact World.ownsRow_nil _ _ _ _
  · obtain ⟨n, hn⟩ : ∃ n, (fullE p tn).length = n := ⟨_, rfl⟩
    have hns := lay hn
    rw [hn]
    have hlss := lay hls
    clear hn hls
    go_wp2_with fail
    go_loopw [11] (fun i wx => ∃ k : Nat, k ≤ n ∧ i = .int .i64 (k : Int) ∧ Below w.heap.size w wx ∧ w2.heap.size ≤ wx.heap.size ∧ wx.rangeAt g 0 (flat (ents (fullE p tn))) ∧ wx.heap[w.heap.size + 1 + 1]? = some (.cells #[.bool false] 4 (0, 0)) ∧ ∃ v, wx.heap[w.heap.size + 1]? = some (.cells #[v] 30 (0, 0)) ∧ ownMvs wx w2.heap.size v ((movesL p tn).take k)) (fun i _ => ((n : Int) - intOf i).toNat)
    case atStart => exact ⟨0, by omega, rfl, hB2.out, Nat.le_refl _, hlss.out, q2.out, _, q1.out, World.ownsRow_nil _ _ _ _⟩
    case round =>
      obtain ⟨k, hk, rfl, hb3, hb4, hl3, r3, v, r4, ho⟩ := hrel
      by_cases hlt : k < n
      · obtain ⟨x, hx⟩ : ∃ x, (fullE p tn)[k]? = some x := ⟨_, List.getElem?_eq_getElem (by rw [hns.out]; exact hlt)⟩
        have hle := lay (range_ent hl3 k x hx)
        have hgw : Shut (g < w2.heap.size ∧ g ≠ w.heap.size + 1) := by
          have hf : (flat (ents (fullE p tn)))[0]? = some (.pointer none) := by
            cases hfe : fullE p tn with
            | nil => rw [hfe] at hx; simp at hx
            | cons y l => rfl
          have h1 := hlss.out 0 _ hf
          refine ⟨World.block_lt_of_cell? w2 _ h1, ?_⟩
          intro e
          rw [e, cell_of_row w2 _ (0 + 0) _ _ _ q1.out] at h1
          have h2 : (some (Value.slice none 0 0) : Option Value) = some (.pointer none) := h1
          injection h2 with h3
          cases h3
        have hl3 := lay hl3
        have hxs := lay hx
        have ho := lay ho
        have hb3 := lay hb3
        have hb4 := lay hb4
        have r3 := lay r3
        have r4 := lay r4
        have hltz : (k : Int) < (n : Int) := by omega
        have hltS := lay hltz
        obtain ⟨cs, hcs⟩ : ∃ cs, entK x = cs := ⟨_, rfl⟩
        have hsz : Shut (cs.size = 11) := by show _ = _; rw [← hcs]; rfl
        have hon : Shut (cs.all (·.oneCell') = true) := by show _ = _; rw [← hcs]; exact mvK_one _ _ _ _
        have hnf : Shut ((Tryz.prog.info? 73).map (·.size) = some cs.size) := by
          show _ = _
          rw [hsz.out]
          kernel_rfl
        rw [hcs] at hle
        have hcss := lay hcs
        clear hcs hx
        go_upto_region 5 with (first
          | ((with_reducible refine at_load_mid cs hle.out Tryz.underlying73 rfl ?_ ?_ ?_); exact hnf.out; rfl)
          | ((with_reducible refine at_new_row cs ?_ ?_ ?_ ?_ ?_ ?_); exact hnf.out; (rw [hsz.out]; kernel_rfl); exact hon.out; rfl; rfl; intro W5 r5 hb5))
        have hmv5 : Shut (MvAt wr.heap.size (tgN x.2) x.1.fr x.1.to x.1.pr W5) := by
          show _ = _
          rw [← hcss.out] at r5
          exact r5
        have r45 : Shut (W5.heap[w.heap.size + 1]? = some (.cells #[v] 30 (0, 0))) := (hb5.block _ (Array.getElem?_eq_some_iff.1 r4.out).1).trans r4.out
        have r35 : Shut (W5.heap[w.heap.size + 1 + 1]? = some (.cells #[.bool false] 4 (0, 0))) := (hb5.block _ (Array.getElem?_eq_some_iff.1 r3.out).1).trans r3.out
        have ho5 : Shut (ownMvs W5 w2.heap.size v ((movesL p tn).take k)) := own_next ho.out hb5
        have hb35 := lay (hb3.out.trans (hb5.mono hb3.out.size))
        have hb45 : Shut (w2.heap.size ≤ W5.heap.size) := Nat.le_trans hb4.out hb5.size
        have hgl : Shut (W5.rangeAt g 0 (flat (ents (fullE p tn)))) := fun j u hj => (hb5.cell (p := ⟨g, 0 + j, none⟩) (World.block_lt_of_cell? wr _ (hl3.out j u hj))).trans (hl3.out j u hj)
        have c4 := cell_of_row W5 _ 0 _ _ _ r45.out
        have f4 := frozen_of_row W5 _ 0 _ _ r45.out
        have hlt5 : w.heap.size + 1 < W5.heap.size := (Array.getElem?_eq_some_iff.1 r45.out).1
        have hok := hoks.out x (List.mem_iff_getElem?.2 ⟨k, hxs.out⟩)
        have hpm := lay (ya_plain wr.heap.size (tgN x.2) x.1 hok W5.drew hmv5.out)
        have c4p : (plW x.1 W5.drew).cell? ⟨w.heap.size + 1, 0, none⟩ = some v := ((plW_below x.1 W5.drew).cell (p := ⟨w.heap.size + 1, 0, none⟩) (show w.heap.size + 1 < W5.drew.heap.size from hlt5)).trans c4
        have hfold : Array.foldl (fun (cs : Array Value) (x : Value × Nat) => cs.setIfInBounds x.snd x.fst) #[Value.int .i64 0, Value.int .i64 0, Value.int .i64 0] (ints (mvL x.1)).zipIdx 0 (ints (mvL x.1)).size = (mvC x.1).toArray := rfl
        have c4q : ((plW x.1 W5.drew).alloc (.cells (mvC x.1).toArray 35)).cell? ⟨w.heap.size + 1, 0, none⟩ = some v := (((Below.refl _ _).alloc (Nat.le_refl _) _).cell (p := ⟨w.heap.size + 1, 0, none⟩) (show w.heap.size + 1 < (plW x.1 W5.drew).heap.size from Nat.lt_of_lt_of_le hlt5 (plW_below x.1 W5.drew).size)).trans c4p
        clear r5 hb5 hsz hon hnf hok
        have hlen5 : Shut (((movesL p tn).take k).length ≤ 1000000) := by
          show _ ≤ _
          rw [List.length_take]
          have := hn218.out
          have := hns.out
          omega
        have hBp := lay (plW_below x.1 W5.drew)
        have hoP : Shut (ownMvs (plW x.1 W5.drew) w2.heap.size v ((movesL p tn).take k)) := own_next (w := W5.drew) ho5.out (plW_below x.1 W5.drew)
        have hszP : Shut (w2.heap.size ≤ (plW x.1 W5.drew).heap.size) := Nat.le_trans hb45.out hBp.out.size
        refine wp_region_noPanic ?_
        refine wp_region_held_drew (S := fun _ : World => True) (by kernel_rfl) trivial (fun hHeld => ?_)
        apply meets
        case h =>
          intro hkey
          refine wpAnyH_ready (rs := [0, 1]) (by kernel_rfl) (by simp) ?_
          refine AllReadyH.cons rfl (fun K hK => ?_) (AllReadyH.cons rfl (fun K hK => ?_) AllReadyH.nil)
          · skip
            try simp only [zA, zB, zC, Act.put, zD, zE, zF]
            try rw [if_pos (by rfl)]
            go_simp
            refine hK.out _ _ trivial (fun hHeld => ?_)
            clear hK K
            try simp only [zA, zB, zC, Act.put, zD, zE, zF]
            refine wpAnyH_ready (rs := [1]) (by kernel_rfl) (by simp) ?_
            refine AllReadyH.cons rfl (fun K hK => ?_) AllReadyH.nil
            try simp only [zA, zB, zC, Act.put, zD, zE, zF]
            try rw [if_pos (by rfl)]
            go_simp
            refine hpm.out.mono ?_
            rintro e3 w3 ⟨rfl, rfl⟩
            go_wp2_with fail
            refine hK.out _ _ trivial (fun hHeld => ?_)
            clear hK K
            try simp only [zA, zB, zC, Act.put, zD, zE, zF]
            refine wpAnyH_ready (rs := [2]) (by kernel_rfl) (by simp) ?_
            refine AllReadyH.cons rfl (fun K hK => ?_) AllReadyH.nil
            try simp only [zA, zB, zC, Act.put, zD, zE, zF]
            try rw [if_pos (by rfl)]
            go_simp
            refine hK.out _ _ trivial (fun hHeld => ?_)
            clear hK K
            try simp only [zA, zB, zC, Act.put, zD, zE, zF]
            exact hkey.out
          · skip
            try simp only [zA, zB, zC, Act.put, zD, zE, zF]
            try rw [if_pos (by rfl)]
            go_simp
            refine hpm.out.mono ?_
            rintro e3 w3 ⟨rfl, rfl⟩
            go_wp2_with fail
            refine hK.out _ _ trivial (fun hHeld => ?_)
            clear hK K
            try simp only [zA, zB, zC, Act.put, zD, zE, zF]
            refine wpAnyH_ready (rs := [0, 2]) (by kernel_rfl) (by simp) ?_
            refine AllReadyH.cons rfl (fun K hK => ?_) (AllReadyH.cons rfl (fun K hK => ?_) AllReadyH.nil)
            · skip
              try simp only [zA, zB, zC, Act.put, zD, zE, zF]
              try rw [if_pos (by rfl)]
              go_simp
              refine hK.out _ _ trivial (fun hHeld => ?_)
              clear hK K
              try simp only [zA, zB, zC, Act.put, zD, zE, zF]
              refine wpAnyH_ready (rs := [2]) (by kernel_rfl) (by simp) ?_
              refine AllReadyH.cons rfl (fun K hK => ?_) AllReadyH.nil
              try simp only [zA, zB, zC, Act.put, zD, zE, zF]
              try rw [if_pos (by rfl)]
              go_simp
              refine hK.out _ _ trivial (fun hHeld => ?_)
              clear hK K
              try simp only [zA, zB, zC, Act.put, zD, zE, zF]
              exact hkey.out
            · skip
              try simp only [zA, zB, zC, Act.put, zD, zE, zF]
              try rw [if_pos (by rfl)]
              go_simp
              refine hK.out _ _ trivial (fun hHeld => ?_)
              clear hK K
              try simp only [zA, zB, zC, Act.put, zD, zE, zF]
              refine wpAnyH_ready (rs := [0]) (by kernel_rfl) (by simp) ?_
              refine AllReadyH.cons rfl (fun K hK => ?_) AllReadyH.nil
              try simp only [zA, zB, zC, Act.put, zD, zE, zF]
              try rw [if_pos (by rfl)]
              go_simp
              refine hK.out _ _ trivial (fun hHeld => ?_)
              clear hK K
              try simp only [zA, zB, zC, Act.put, zD, zE, zF]
              exact hkey.out
        case x =>
          refine wpAnyH_ready (rs := [3]) (by kernel_rfl) (by simp) ?_
          refine AllReadyH.cons rfl (fun K hK => ?_) AllReadyH.nil
          change if _ = true then Oper.wp _ _ _ ((plW x.1 W5.drew).alloc (.cells (mvC x.1).toArray 35)) _ _ else _
          refine step_appk (esz := 3) (w := plW x.1 W5.drew) rfl _ _ rfl (mvC x.1) rfl Tryz.underlying30 hib hzi0 hzi1 hzi2 rfl (by decide) (by decide) (mvC_ones _) w2.heap.size v _ _ hoP.out hlen5.out hszP.out ?hx ?hy ?hh
          case hx => rfl
          case hy => rfl
          case hh =>
          intro v' w' own' hb'
          obtain ⟨a6, k6, q6, rfl⟩ := own_slc own'
          have r46 := lay ((hb'.block (w.heap.size + 1) (by have := hs2.out; omega)).trans ((hBp.out.block (w.heap.size + 1) hlt5).trans r45.out))
          have r36 := lay ((hb'.block (w.heap.size + 1 + 1) (by have := hs2.out; omega)).trans ((hBp.out.block (w.heap.size + 1 + 1) (Array.getElem?_eq_some_iff.1 r35.out).1).trans r35.out))
          have c46 := cell_of_row w' _ 0 _ _ _ r46.out
          have f46 := frozen_of_row w' _ 0 _ _ r46.out
          have own6 := lay own'
          have hb6 := lay hb'
          clear own' hb' c4 f4 c4p c4q hfold
          refine hK.out _ _ trivial (fun hHeld => ?_)
          clear hK K
          try simp only [zA, zB, zC, Act.put, zD, zE, zF]
          refine wpAnyH_ready (rs := [4]) (by kernel_rfl) (by simp) ?_
          refine AllReadyH.cons rfl (fun K hK => ?_) AllReadyH.nil
          try simp only [zA, zB, zC, Act.put, zD, zE, zF]
          try rw [if_pos (by rfl)]
          go_simp
          have rZ := lay (heap_setCell_same w' (w.heap.size + 1) 0 _ _ (.slice a6 k6 q6) r46.out)
          have rY := lay ((heap_setCell_other w' ⟨w.heap.size + 1, 0, none⟩ (w.heap.size + 1 + 1) (.slice a6 k6 q6) (by simp)).trans r36.out)
          have hbZ := lay ((((hb35.out.drew).trans (hBp.out.mono (by have := hb35.out.size; exact this))).trans (hb6.out.mono (by have := hs2.out; omega))).setCell (p := ⟨w.heap.size + 1, 0, none⟩) (by simp) (.slice a6 k6 q6))
          have hoZ := lay (ownsRow_setCell_below own6.out (a := ⟨w.heap.size + 1, 0, none⟩) (by have := hs2.out; show w.heap.size + 1 < w2.heap.size; omega) (.slice a6 k6 q6))
          have hoF : Shut (ownMvs (w'.setCell ⟨w.heap.size + 1, 0, none⟩ (.slice a6 k6 q6)) w2.heap.size (.slice a6 k6 q6) ((movesL p tn).take (k + 1))) := by
            have hx2 : (movesL p tn)[k]? = some x.1 := by
              unfold movesL
              rw [List.getElem?_map, hxs.out]
              rfl
            exact own_mv_step hx2 hoZ.out
          have hb4Z : Shut (w2.heap.size ≤ (w'.setCell ⟨w.heap.size + 1, 0, none⟩ (.slice a6 k6 q6)).heap.size) := by
            show _ ≤ _
            have h1 := hb6.out.size
            have h2 := hszP.out
            simp
            omega
          have hlZ : Shut ((w'.setCell ⟨w.heap.size + 1, 0, none⟩ (.slice a6 k6 q6)).rangeAt g 0 (flat (ents (fullE p tn)))) := by
            intro j u hj
            have h1 := hgl.out j u hj
            have h2 : w'.cell? ⟨g, 0 + j, none⟩ = (plW x.1 W5.drew).cell? ⟨g, 0 + j, none⟩ := hb6.out.cell (p := ⟨g, 0 + j, none⟩) hgw.out.1
            have h3 : (plW x.1 W5.drew).cell? ⟨g, 0 + j, none⟩ = W5.drew.cell? ⟨g, 0 + j, none⟩ := hBp.out.cell (p := ⟨g, 0 + j, none⟩) (Nat.lt_of_lt_of_le hgw.out.1 hb45.out)
            have h4 : W5.drew.cell? ⟨g, 0 + j, none⟩ = W5.cell? ⟨g, 0 + j, none⟩ := rfl
            rw [← h4, ← h3, ← h2] at h1
            unfold World.cell? at h1 ⊢
            rw [heap_setCell_other _ _ _ _ hgw.out.2]
            exact h1
          clear c46 f46 own6
          refine hK.out _ _ trivial (fun hHeld => ?_)
          clear hK K
          try simp only [zA, zB, zC, Act.put, zD, zE, zF]
          refine wpAnyH_done (by kernel_rfl) ?_ _
          refine NoPanic.normal ?_
          generalize w'.setCell ⟨w.heap.size + 1, 0, none⟩ (.slice a6 k6 q6) = Z at *
          have hkb : (k : Int) ≤ 218 := by
            have := hltS.out
            have := hn218.out
            have := hns.out
            omega
          go_wp2_with fail
          go_roundw
          case rel => exact ⟨k + 1, by (have := hltS.out; omega), by go_num, hbZ.out, hb4Z.out, hlZ.out, rY.out, _, rZ.out, hoF.out⟩
          case measure => (have := hltS.out; simp [intOf]; omega)
      · obtain rfl : k = n := by omega
        have htk : (movesL p tn).take k = movesL p tn := by
          refine List.take_of_length_le ?_
          unfold movesL
          rw [List.length_map, hns.out]
          exact Nat.le_refl _
        rw [htk] at ho
        obtain ⟨a6, k6, q6, rfl⟩ := own_slc ho
        have m0 := cell_of_row wr _ 0 _ _ _ r4
        have m1 := cell_of_row wr _ 0 _ _ _ r3
        have m2 := frozen_of_row wr (w.heap.size + 1) 0 _ _ r4
        have m3 := frozen_of_row wr (w.heap.size + 1 + 1) 0 _ _ r3
        have hbF := lay ((hb3.setCell (p := ⟨w.heap.size + 1, 0, none⟩) (by simp) (.slice a6 k6 q6)).setCell (p := ⟨w.heap.size + 1 + 1, 0, none⟩) (by first | (simp; done) | (simp; omega)) (.bool true))
        have hoF := lay (own_mono (ownsRow_setCell_below (ownsRow_setCell_below ho (a := ⟨w.heap.size + 1, 0, none⟩) (by have := hs2.out; show w.heap.size + 1 < w2.heap.size; omega) (.slice a6 k6 q6)) (a := ⟨w.heap.size + 1 + 1, 0, none⟩) (by have := hs2.out; show w.heap.size + 1 + 1 < w2.heap.size; omega) (.bool true)) (show w.heap.size ≤ w2.heap.size by have := hs2.out; omega))
        clear r3 r4 ho hl3 hb3 hb4
        go_wp2_with fail
        refine leaves_cons (f := 32) (args := #[.pointer (some ⟨w.heap.size + 1, 0, none⟩), .pointer (some ⟨w.heap.size + 1 + 1, 0, none⟩)]) (by simp) (by simp [go_sem]) ?_
        refine (ya_idle _ _ _).mono ?_
        rintro e u' w'' ⟨rfl, rfl, rfl⟩
        simp [Leaves, settle, results, Tryz.results12, go_sem, m0, m1]
        exact ⟨hoF.out, hbF.out⟩
end Go.Proofs.YtnjdgooljnbebaaGreatDoor
namespace Go.Proofs.YtnjdgooljnbebaaGreatDoor
open Go Go.RowKit
open List renaming getElem_toArray → zA, getElem_cons_zero → zB, getElem_cons_succ → zC, setIfInBounds_toArray → zD, set_cons_zero → zE, set_cons_succ → zF
set_option maxHeartbeats 8000000
set_option linter.unusedSimpArgs false
set_option linter.unusedVariables false
set_option maxRecDepth 100000

theorem three_fields {α : Type} {xs : List α} (h : xs.length = 3) : ∃ y0 y1 y2, xs = [y0, y1, y2] := by
  match xs, h with
  | [y0, y1, y2], _ => exact ⟨y0, y1, y2, rfl⟩
theorem mv_dec (a b : Mv) : (decide (a.fr = b.fr) && (decide (a.to = b.to) && decide (a.pr = b.pr))) = decide (a = b) := by
  obtain ⟨a0, a1, a2⟩ := a
  obtain ⟨b0, b1, b2⟩ := b
  rw [Bool.eq_iff_iff]
  simp
theorem ye_eq (a b : Mv) (w : World) : (Op.equalIn 10000 35 (.agg (ints (mvL a))) (.agg (ints (mvL b)))).run Tryz.prog w = .ok (decide (a = b)) w := by
  have hf : ((Tryz.prog.fieldsOf 35).toList.map fun f => (decide (f.name = "_"), f.type, f.offset)) = [(false, 3, 0), (false, 3, 1), (false, 3, 2)] := by kernel_rfl
  have hu : Tryz.prog.underlying 35 = some (.struct (Tryz.prog.fieldsOf 35)) := by kernel_rfl
  have hint : Tryz.prog.underlying 3 = some (.int .i64) := Tryz.underlying3
  rw [show (10000 : Nat) = 9999 + 1 from rfl, run_equalIn_struct w 9999 _ _ _ hu (by kernel_rfl)]
  generalize (Tryz.prog.fieldsOf 35).toList = fs at hf
  obtain ⟨f0, f1, f2, rfl⟩ := three_fields (xs := fs) (by simpa using congrArg List.length hf)
  simp only [List.map_cons, List.map_nil, List.cons.injEq, Prod.mk.injEq, decide_eq_false_iff_not, and_true] at hf
  obtain ⟨⟨n0, t0, o0⟩, ⟨n1, t1, o1⟩, ⟨n2, t2, o2⟩⟩ := hf
  have hpi := fun (V : World) (x : List Int) (j : Nat) (hj : j < x.length) => part_int (P := Tryz.prog) hint x j hj V
  have hqi := fun (V : World) (a b : Int) => run_equalIn_int (P := Tryz.prog) V 9998 3 .i64 .i64 a b hint
  have la : ∀ m : Mv, (mvL m).length = 3 := fun _ => rfl
  have g0 : ∀ m : Mv, (mvL m).getD 0 0 = m.fr := fun _ => rfl
  have g1 : ∀ m : Mv, (mvL m).getD 1 0 = m.to := fun _ => rfl
  have g2 : ∀ m : Mv, (mvL m).getD 2 0 = m.pr := fun _ => rfl
  rw [← mv_dec a b]
  have e0 : (a.fr == b.fr) = decide (a.fr = b.fr) := by rw [Bool.eq_iff_iff]; simp
  have e1 : (a.to == b.to) = decide (a.to = b.to) := by rw [Bool.eq_iff_iff]; simp
  have e2 : (a.pr == b.pr) = decide (a.pr = b.pr) := by rw [Bool.eq_iff_iff]; simp
  simp only [Op.eqFields, n0, n1, n2, t0, t1, t2, o0, o1, o2, ne_eq, not_false_eq_true, if_true, Sem.run_bind, hpi w (mvL a) 0 (by rw [la]; decide), hpi w (mvL b) 0 (by rw [la]; decide), g0, Result.andThen_ok, hqi, e0]
  cases decide (a.fr = b.fr)
  · simp
  simp only [Bool.not_true, Bool.false_eq_true, if_false, Bool.true_and, Sem.run_bind, hpi w (mvL a) 1 (by rw [la]; decide), hpi w (mvL b) 1 (by rw [la]; decide), g1, Result.andThen_ok, hqi, e1]
  cases decide (a.to = b.to)
  · simp
  simp only [Bool.not_true, Bool.false_eq_true, if_false, Bool.true_and, Sem.run_bind, hpi w (mvL a) 2 (by rw [la]; decide), hpi w (mvL b) 2 (by rw [la]; decide), g2, Result.andThen_ok, hqi, e2]
  cases decide (a.pr = b.pr)
  · simp
  simp
/-- Of all old blocks none but one has changed. -/
def Alone (g : Nat) (w w' : World) : Prop := Below 0 w w' ∧ ∀ j, j < w.heap.size → j ≠ g → w'.heap[j]? = w.heap[j]?
theorem Alone.below {g : Nat} {w w' : World} (h : Alone g w w') {B : Nat} {a : World} (hB : B ≤ g) (hs : B ≤ w.heap.size) (hb : Below B a w) : Below B a w' :=
  hb.trans ⟨h.1.os, h.1.tape, h.1.output, h.1.size, fun k hk => h.2 k (by omega) (by omega)⟩
theorem Alone.trans {g : Nat} {w w1 w2 : World} (h : Alone g w w1) (k : Alone g w1 w2) : Alone g w w2 :=
  ⟨h.1.trans k.1, fun j hj hg => (k.2 j (Nat.lt_of_lt_of_le hj h.1.size) hg).trans (h.2 j hj hg)⟩
theorem Alone.of {g : Nat} {w w' : World} (h : Below w.heap.size w w') : Alone g w w' := ⟨h.mono (Nat.zero_le _), fun j hj _ => h.block j hj⟩
theorem Alone.drew {g : Nat} {w w' : World} (h : Alone g w w') : Alone g w w'.drew := ⟨h.1.drew, h.2⟩
/-- The engine's position. -/
def PosRow (p : List Int) (tn pg bg : Nat) (w : World) : Prop := ∃ v2, w.heap[pg]? = some (.cells (posW bg (casText (p.getD 65 0)) v2 (p.getD 67 0) (p.getD 68 0) tn (p.getD 66 0) (checkedB p tn)) 103 (0, 0))
def FindPost (p : List Int) (tn pg bg kt : Nat) (w : World) (e : Ending) (w' : World) : Prop :=
  Alone pg w w' ∧ PosRow p tn pg bg w' ∧ ((kt = (fullE p tn).length ∧ e = .returned (.pointer none)) ∨ ∃ x h, (fullE p tn)[kt]? = some x ∧ e = .returned (.pointer (some ⟨h, 0, none⟩)) ∧ w.heap.size ≤ h ∧ MvAt h (tgN x.2) x.1.fr x.1.to x.1.pr w')
theorem find_none {p : List Int} {tn pg bg kt : Nat} {w w' : World} (h1 : Alone pg w w') (h2 : PosRow p tn pg bg w') (h3 : kt = (fullE p tn).length) : FindPost p tn pg bg kt w (.returned (.pointer none)) w' := ⟨h1, h2, Or.inl ⟨h3, rfl⟩⟩
theorem find_some {p : List Int} {tn pg bg kt : Nat} {w w' : World} (h1 : Alone pg w w') (h2 : PosRow p tn pg bg w') {x : Mv × Tg} {h : Nat} (h3 : (fullE p tn)[kt]? = some x) (h4 : w.heap.size ≤ h) (h5 : MvAt h (tgN x.2) x.1.fr x.1.to x.1.pr w') : FindPost p tn pg bg kt w (.returned (.pointer (some ⟨h, 0, none⟩))) w' := ⟨h1, h2, Or.inr ⟨x, h, h3, rfl, h4, h5⟩⟩
theorem yb_find (p : List Int) (tn : Nat) (hF : Fair p tn) (h218 : (legalL p).length ≤ 218) (m : Mv) (kt : Nat) (hkt : kt ≤ (fullE p tn).length) (hno : ∀ j x, j < kt → (fullE p tn)[j]? = some x → x.1 ≠ m) (hat : ∀ x, (fullE p tn)[kt]? = some x → x.1 = m) (pg bg : Nat) (w : World)
    (hpg : w.heap[pg]? = some (.cells (posW bg (casText (p.getD 65 0)) (.slice none 0 0) (p.getD 67 0) (p.getD 68 0) tn (p.getD 66 0) (checkedB p tn)) 103 (0, 0))) (hbg : w.heap[bg]? = some (.cells (brd p) 144 (0, 0))) (hne : bg ≠ pg) (hT : Tabs w) (hA : IntSl w 0 .i8 allL) (hP : IntSl w 1 .i8 [2, 3, 4, 5]) :
    Calls Tryz.prog 70 #[.pointer (some ⟨pg, 0, none⟩), .agg (ints (mvL m))] w (FindPost p tn pg bg kt w) := by
  have hpl : pg < w.heap.size := (Array.getElem?_eq_some_iff.1 hpg).1
  have hoks := lay (full_ok p tn hF)
  have hn218 : Shut ((fullE p tn).length ≤ 218) := by show _ ≤ _; rw [full_len p tn hF]; exact h218
  have hBW : Below w.heap.size w (w.alloc (.cells (ints (mvL m)) 35)) := (Below.refl _ _).alloc (Nat.le_refl _) _
  have hva := lay (wv_valid p tn hF h218 pg bg (p.getD 67 0) (p.getD 68 0) (w.alloc (.cells (ints (mvL m)) 35)) ((hBW.block pg hpl).trans hpg) ((hBW.block bg (Array.getElem?_eq_some_iff.1 hbg).1).trans hbg) hne (hT.below hBW (Nat.le_refl _)) (hA.below hBW) (hP.below hBW))
  have hmr : (w.alloc (.cells (ints (mvL m)) 35)).heap[w.heap.size]? = some (.cells (ints (mvL m)) 35 (0, 0)) := heap_alloc_new w _
  have hmr := lay hmr
  have hno := lay hno
  have hat := lay hat
  have hkt := lay hkt
  have hBW := lay hBW
  have hplS := lay hpl
  clear hF h218 hpg hbg hT hA hP hne hpl
  go_enter Tryz.func70, Tryz.ntmps70
  go_wp2_with fail
  change Calls _ _ _ (w.alloc (.cells (ints (mvL m)) 35)) _
  have hWs : w.heap.size < (w.alloc (.cells (ints (mvL m)) 35)).heap.size := by simp
  have hWs := lay hWs
  generalize w.alloc (.cells (ints (mvL m)) 35) = W at *
  refine hva.out.mono ?_
  rintro e2 w2 ⟨u, rfl, hmv, hp2, _, hO, hK⟩
  have hal : Alone pg W w2 := ⟨hK 0 W (Nat.zero_le _) (Nat.zero_le _) (Below.refl _ _), hO⟩
  have hal2 : Shut (Alone pg w w2) := (Alone.of hBW.out).trans hal
  have hmr2 : Shut (w2.heap[w.heap.size]? = some (.cells (ints (mvL m)) 35 (0, 0))) := (hO _ hWs.out (by have := hplS.out; omega)).trans hmr.out
  have hps2 : Shut (PosRow p tn pg bg w2) := hp2
  clear hva hO hK hp2 hal hmr
  rcases hmv with ⟨hn0, rfl⟩ | ⟨g, c, rfl, hls⟩
  · have hn0 := lay hn0
    go_wp2_with fail
    go_loopw [10] (fun i wx => i = .int .i64 0 ∧ wx = w2) (fun i _ => 0)
    case atStart => exact ⟨rfl, rfl⟩
    case round =>
      obtain ⟨rfl, rfl⟩ := hrel
      go_wp2_with fail
      go_ret
      exact find_none hal2.out hps2.out (by have := hkt.out; have := hn0.out; omega)
  · obtain ⟨n, hn⟩ : ∃ n, (fullE p tn).length = n := ⟨_, rfl⟩
    have hns := lay hn
    rw [hn]
    have hlss := lay hls
    clear hn hls
    go_wp2_with fail
    go_loopw [10] (fun i wx => ∃ k : Nat, k ≤ kt ∧ k ≤ n ∧ i = .int .i64 (k : Int) ∧ Alone pg w wx ∧ w2.heap.size ≤ wx.heap.size ∧ wx.rangeAt g 0 (flat (ents (fullE p tn))) ∧ wx.heap[w.heap.size]? = some (.cells (ints (mvL m)) 35 (0, 0)) ∧ PosRow p tn pg bg wx) (fun i _ => ((n : Int) - intOf i).toNat)
    case atStart => exact ⟨0, by omega, by omega, rfl, hal2.out, Nat.le_refl _, hlss.out, hmr2.out, hps2.out⟩
    case round =>
      obtain ⟨k, hkk, hk, rfl, hb3, hb4, hl3, r3, r4⟩ := hrel
      by_cases hlt : k < n
      · obtain ⟨x, hx⟩ : ∃ x, (fullE p tn)[k]? = some x := ⟨_, List.getElem?_eq_getElem (by rw [hns.out]; exact hlt)⟩
        have hle := lay (range_ent hl3 k x hx)
        have hl3 := lay hl3
        have hxs := lay hx
        have hb3 := lay hb3
        have hb4 := lay hb4
        have r3 := lay r3
        have r4 := lay r4
        have hkks := lay hkk
        have hltz : (k : Int) < (n : Int) := by omega
        have hltS := lay hltz
        obtain ⟨cs, hcs⟩ : ∃ cs, entK x = cs := ⟨_, rfl⟩
        have hsz : Shut (cs.size = 11) := by show _ = _; rw [← hcs]; rfl
        have hon : Shut (cs.all (·.oneCell') = true) := by show _ = _; rw [← hcs]; exact mvK_one _ _ _ _
        have hnf : Shut ((Tryz.prog.info? 73).map (·.size) = some cs.size) := by
          show _ = _
          rw [hsz.out]
          kernel_rfl
        rw [hcs] at hle
        have hcss := lay hcs
        clear hcs hx
        go_upto_region 4 with (first
          | ((with_reducible refine at_load_mid cs hle.out Tryz.underlying73 rfl ?_ ?_ ?_); exact hnf.out; rfl)
          | ((with_reducible refine at_new_row cs ?_ ?_ ?_ ?_ ?_ ?_); exact hnf.out; (rw [hsz.out]; kernel_rfl); exact hon.out; rfl; rfl; intro W5 r5 hb5))
        have hmv5 : Shut (MvAt wr.heap.size (tgN x.2) x.1.fr x.1.to x.1.pr W5) := by
          show _ = _
          rw [← hcss.out] at r5
          exact r5
        have hok := hoks.out x (List.mem_iff_getElem?.2 ⟨k, hxs.out⟩)
        have hpm := lay (ya_plain wr.heap.size (tgN x.2) x.1 hok W5.drew hmv5.out)
        have hbP : Shut (Below wr.heap.size wr (plW x.1 W5.drew)) := (hb5.drew).trans ((plW_below x.1 W5.drew).mono hb5.size)
        have hR5 : Shut (W5.rangeAt w.heap.size 0 ((mvL m).map (Value.int .i64))) := range_of_row ((hb5.block _ (Array.getElem?_eq_some_iff.1 r3.out).1).trans r3.out)
        have hRp : Shut ((plW x.1 W5.drew).rangeAt w.heap.size 0 ((mvL m).map (Value.int .i64))) := range_of_row ((hbP.out.block _ (Array.getElem?_eq_some_iff.1 r3.out).1).trans r3.out)
        have hmvP : Shut (MvAt wr.heap.size (tgN x.2) x.1.fr x.1.to x.1.pr (plW x.1 W5.drew)) := ((plW_below x.1 W5.drew).block _ (Array.getElem?_eq_some_iff.1 hmv5.out).1).trans hmv5.out
        have halP : Shut (Alone pg w (plW x.1 W5.drew)) := hb3.out.trans (Alone.of hbP.out)
        have hb4P : Shut (w2.heap.size ≤ (plW x.1 W5.drew).heap.size) := Nat.le_trans hb4.out hbP.out.size
        have hlP : Shut ((plW x.1 W5.drew).rangeAt g 0 (flat (ents (fullE p tn)))) := fun j u hj => (hbP.out.cell (p := ⟨g, 0 + j, none⟩) (World.block_lt_of_cell? wr _ (hl3.out j u hj))).trans (hl3.out j u hj)
        have r3P : Shut ((plW x.1 W5.drew).heap[w.heap.size]? = some (.cells (ints (mvL m)) 35 (0, 0))) := (hbP.out.block _ (Array.getElem?_eq_some_iff.1 r3.out).1).trans r3.out
        have r4P : Shut (PosRow p tn pg bg (plW x.1 W5.drew)) := by
          obtain ⟨v2, h2⟩ := r4.out
          exact ⟨v2, (hbP.out.block _ (Array.getElem?_eq_some_iff.1 h2).1).trans h2⟩
        have hwh : Shut (w.heap.size ≤ wr.heap.size) := hb3.out.1.size
        clear r5 hb5 hsz hon hnf hok hle
        by_cases hkq : k = kt
        · have hEq : ∀ V, (Op.equalIn 10000 35 (.agg (ints (mvL x.1))) (.agg (List.map (Value.int .i64) (mvL m)).toArray)).run Tryz.prog V = .ok true V := fun V => by
            have h1 := ye_eq x.1 m V
            rw [hat.out x (by rw [← hkq]; exact hxs.out)] at h1 ⊢
            rw [decide_eq_true rfl] at h1
            exact h1
          have hkqs := lay hkq
          clear hkq hkk
          refine wp_region_held_drew (S := fun V : World => V.rangeAt w.heap.size 0 ((mvL m).map (Value.int .i64))) (by kernel_rfl) hR5.out (fun hHeld => ?_)
          refine' takeA (i := 1) (v := _) rfl (yieldsIf_load_mid (by rfl) _ _ rfl _ _ rfl _ _ (fun _ h => h) Tryz.underlying35 rfl (by kernel_rfl)) hHeld ?_
          try simp only [zA, zB, zC, Act.put, zD, zE, zF]
          refine wpAnyH_ready (rs := [0]) (by kernel_rfl) (by simp) ?_
          refine AllReadyH.cons rfl (fun K hK => ?_) AllReadyH.nil
          try simp only [zA, zB, zC, Act.put, zD, zE, zF]
          try rw [if_pos (by rfl)]
          go_simp
          refine hpm.out.mono ?_
          rintro e3 w3 ⟨rfl, rfl⟩
          go_wp2_with fail
          refine hK.out _ _ (hRp.out) (fun hHeld => ?_)
          clear hK K
          try simp only [zA, zB, zC, Act.put, zD, zE, zF]
          refine takeA (i := 2) (v := ?va) rfl (Or.inl ⟨by rfl, ?ya⟩) hHeld ?ra
          case ya => (intro wq hSw; clear hSw; go_simp; try with_reducible rfl)
          try simp only [zA, zB, zC, Act.put, zD, zE, zF]
          refine wpAnyH_done (by kernel_rfl) ?_ _
          go_wp2_with fail
          go_ret
          exact find_some halP.out r4P.out (by rw [← hkqs.out]; exact hxs.out) hwh.out hmvP.out
        · have hEq : ∀ V, (Op.equalIn 10000 35 (.agg (ints (mvL x.1))) (.agg (List.map (Value.int .i64) (mvL m)).toArray)).run Tryz.prog V = .ok false V := fun V => by
            have h1 := ye_eq x.1 m V
            rw [decide_eq_false (hno.out k x (by have := hkks.out; omega) hxs.out)] at h1
            exact h1
          have hkqs : Shut (k + 1 ≤ kt) := by show _ ≤ _; have := hkks.out; omega
          have hkb : (k : Int) ≤ 218 := by
            have := hltS.out
            have := hn218.out
            have := hns.out
            omega
          clear hkq hkk
          refine wp_region_held_drew (S := fun V : World => V.rangeAt w.heap.size 0 ((mvL m).map (Value.int .i64))) (by kernel_rfl) hR5.out (fun hHeld => ?_)
          refine' takeA (i := 1) (v := _) rfl (yieldsIf_load_mid (by rfl) _ _ rfl _ _ rfl _ _ (fun _ h => h) Tryz.underlying35 rfl (by kernel_rfl)) hHeld ?_
          try simp only [zA, zB, zC, Act.put, zD, zE, zF]
          refine wpAnyH_ready (rs := [0]) (by kernel_rfl) (by simp) ?_
          refine AllReadyH.cons rfl (fun K hK => ?_) AllReadyH.nil
          try simp only [zA, zB, zC, Act.put, zD, zE, zF]
          try rw [if_pos (by rfl)]
          go_simp
          refine hpm.out.mono ?_
          rintro e3 w3 ⟨rfl, rfl⟩
          go_wp2_with fail
          refine hK.out _ _ (hRp.out) (fun hHeld => ?_)
          clear hK K
          try simp only [zA, zB, zC, Act.put, zD, zE, zF]
          refine takeA (i := 2) (v := ?vb) rfl (Or.inl ⟨by rfl, ?yb⟩) hHeld ?rb
          case yb => (intro wq hSw; clear hSw; go_simp; try with_reducible rfl)
          try simp only [zA, zB, zC, Act.put, zD, zE, zF]
          refine wpAnyH_done (by kernel_rfl) ?_ _
          go_wp2_with fail
          go_roundw
          case rel => exact ⟨k + 1, hkqs.out, by (have := hltS.out; omega), by go_num, halP.out, hb4P.out, hlP.out, r3P.out, r4P.out⟩
          case measure => (have := hltS.out; simp [intOf]; omega)
      · have hkn : k = n := by omega
        subst hkn
        go_wp2_with fail
        go_ret
        exact find_none hb3 r4 (by have := hkt.out; have := hns.out; omega)
end Go.Proofs.YtnjdgooljnbebaaGreatDoor
namespace Go.Proofs.YtnjdgooljnbebaaGreatDoor
open Go Go.RowKit
open List renaming getElem_toArray → zA, getElem_cons_zero → zB, getElem_cons_succ → zC, setIfInBounds_toArray → zD, set_cons_zero → zE, set_cons_succ → zF
set_option maxHeartbeats 8000000
set_option linter.unusedSimpArgs false
set_option linter.unusedVariables false
set_option maxRecDepth 100000

def ValidPost (p : List Int) (tn pg bg kt : Nat) (w : World) (e : Ending) (w' : World) : Prop :=
  Alone pg w w' ∧ PosRow p tn pg bg w' ∧ ∃ x h, (fullE p tn)[kt]? = some x ∧ e = .returned (.pointer (some ⟨h, 0, none⟩)) ∧ w.heap.size ≤ h ∧ MvAt h (tgN x.2) x.1.fr x.1.to x.1.pr w'
theorem yc_valid (p : List Int) (tn : Nat) (hF : Fair p tn) (h218 : (legalL p).length ≤ 218) (m : Mv) (kt : Nat) (hkt : kt < (fullE p tn).length) (hno : ∀ j x, j < kt → (fullE p tn)[j]? = some x → x.1 ≠ m) (hat : ∀ x, (fullE p tn)[kt]? = some x → x.1 = m) (pg bg : Nat) (w : World)
    (hpg : w.heap[pg]? = some (.cells (posW bg (casText (p.getD 65 0)) (.slice none 0 0) (p.getD 67 0) (p.getD 68 0) tn (p.getD 66 0) (checkedB p tn)) 103 (0, 0))) (hbg : w.heap[bg]? = some (.cells (brd p) 144 (0, 0))) (hne : bg ≠ pg) (hT : Tabs w) (hA : IntSl w 0 .i8 allL) (hP : IntSl w 1 .i8 [2, 3, 4, 5]) :
    Calls Tryz.prog 38 #[.pointer (some ⟨pg, 0, none⟩), .agg (ints (mvL m))] w (ValidPost p tn pg bg kt w) := by
  have hpl : pg < w.heap.size := (Array.getElem?_eq_some_iff.1 hpg).1
  have hBW : Below w.heap.size w (w.alloc (.cells (ints (mvL m)) 35)) := (Below.refl _ _).alloc (Nat.le_refl _) _
  have hfi := lay (yb_find p tn hF h218 m kt (Nat.le_of_lt hkt) hno hat pg bg (w.alloc (.cells (ints (mvL m)) 35)) ((hBW.block pg hpl).trans hpg) ((hBW.block bg (Array.getElem?_eq_some_iff.1 hbg).1).trans hbg) hne (hT.below hBW (Nat.le_refl _)) (hA.below hBW) (hP.below hBW))
  have hmr : (w.alloc (.cells (ints (mvL m)) 35)).heap[w.heap.size]? = some (.cells (ints (mvL m)) 35 (0, 0)) := heap_alloc_new w _
  have hkts := lay hkt
  have hBs := lay hBW
  have hlm : (mvL m).length = 3 := rfl
  clear hF h218 hno hat hpg hbg hne hT hA hP hBW hpl hkt
  go_enter Tryz.func38, Tryz.ntmps38
  go_wp2_with ((with_reducible refine at_load_row hmr Tryz.underlying35 rfl ?_ ?_ ?_); (rw [ints_size, hlm]; kernel_rfl); rfl)
  change Calls _ _ _ (w.alloc (.cells (ints (mvL m)) 35)) _
  generalize w.alloc (.cells (ints (mvL m)) 35) = W at *
  refine hfi.out.mono ?_
  rintro e1 w1 ⟨h1, h2, ⟨h3, rfl⟩ | ⟨x, h, h4, rfl, h5, h6⟩⟩
  · exfalso
    have := hkts.out
    omega
  have hp : ValidPost p tn pg bg kt w (.returned (.pointer (some ⟨h, 0, none⟩))) w1 := ⟨(Alone.of hBs.out).trans h1, h2, x, h, h4, rfl, Nat.le_trans hBs.out.size h5, h6⟩
  have hp := lay hp
  clear h1 h2 h4 h5 h6
  go_wp2_with fail
  go_ret
  exact hp.out
theorem yc_idle (p q : Addr) (w : World) :
    CallsD Tryz.prog 37 #[.pointer (some p), .pointer (some q)] .returning w fun e u' w' => e = .returned (.tuple #[]) ∧ u' = .returning ∧ w = w' := by
  refine callsD_of_wpS Tryz.func37 rfl fun c₀ cs hu => ?_
  apply wpS_seq
  apply wpS_region
  simp [wpOpsS, go_sem, recoverD, hu, Tryz.ntmps37, Exit.thenS]
  refine wpS_cond (t := false) (by simp [Act.eval, Array.replicate]) ?_
  simp only [Bool.false_eq_true, if_false]
  refine wpS_of_wp (wp_skip ?_)
  cases c₀
  simp_all [bodyPostS, results, Tryz.results37]
/-- A position and a move as arguments, and two variables of one cell behind them. -/
def ycW (w : World) (p : List Int) (m : Mv) (x y : Value) (tx ty : TypeId) : World := (((w.alloc (.cells (ints p) 24)).alloc (.cells (ints (mvL m)) 35)).alloc (.cells #[x] tx)).alloc (.cells #[y] ty)
theorem ycW_rows (w : World) (p : List Int) (m : Mv) (x y : Value) (tx ty : TypeId) : PosAt p w.heap.size (ycW w p m x y tx ty) ∧ (ycW w p m x y tx ty).heap[w.heap.size + 1]? = some (.cells (ints (mvL m)) 35 (0, 0)) ∧ (ycW w p m x y tx ty).heap[w.heap.size + 1 + 1]? = some (.cells #[x] tx (0, 0)) ∧
    (ycW w p m x y tx ty).heap[w.heap.size + 1 + 1 + 1]? = some (.cells #[y] ty (0, 0)) ∧ Below w.heap.size w (ycW w p m x y tx ty) ∧ (ycW w p m x y tx ty).heap.size = w.heap.size + 4 := by
  refine ⟨heap_keep (heap_keep (heap_alloc2_old w _ _)), heap_keep (heap_keep (heap_alloc2_new w _ _)), heap_keep (heap_at _ _ _ (by simp)), heap_at _ _ _ (by simp), ?_, by simp [ycW]⟩
  exact ((((Below.refl _ _).alloc (Nat.le_refl _) _).alloc (by simp) _).alloc (by simp; omega) _).alloc (by simp; omega) _
theorem full_first (p : List Int) (tn : Nat) (hF : Fair p tn) (kt : Nat) (x : Mv × Tg) (hx : (fullE p tn)[kt]? = some x) : ∀ j y, j < kt → (fullE p tn)[j]? = some y → y.1 ≠ x.1 := by
  intro j y hj hy e
  have hn := full_nodup p tn hF
  have h1 : ((fullE p tn).map (·.1))[j]? = some y.1 := by rw [List.getElem?_map, hy]; rfl
  have h2 : ((fullE p tn).map (·.1))[kt]? = some x.1 := by rw [List.getElem?_map, hx]; rfl
  have hjl := (List.getElem?_eq_some_iff.1 h1).1
  have := (List.getElem?_inj hjl hn).1 (h1.trans ((congrArg some e).trans h2.symm))
  omega
theorem yc_tags (p : List Int) (tn : Nat) (hF : Fair p tn) (h218 : (legalL p).length ≤ 218) (hh : p.getD 67 0 ≤ 1000000) (hf : p.getD 68 0 ≤ 1000000) (kt : Nat) (x : Mv × Tg) (hx : (fullE p tn)[kt]? = some x) (w : World) (hT : Tabs w) (hA : IntSl w 0 .i8 allL) (hP : IntSl w 1 .i8 [2, 3, 4, 5]) :
    Calls Tryz.prog 16 #[.agg (ints p), .agg (ints (mvL x.1))] w fun e w' => e = .returned (.tuple #[.int .i64 (tgN x.2), .bool true]) ∧ Below w.heap.size w w' := by
  have hl := hF.snd.pos.len
  have hmf := makeFunc_run Tryz.prog
  obtain ⟨hr0, hr1, hr2, hr3, hBW, hsz⟩ := ycW_rows w p x.1 (.int .i64 0) (.bool false) 3 4
  have hPp : Shut (∀ V, Below (w.heap.size + 4) (ycW w p x.1 (.int .i64 0) (.bool false) 3 4) V → PosAt p w.heap.size V) := fun V hV => (hV.block _ (by omega)).trans hr0
  have hPq : Shut (∀ V, Below (w.heap.size + 4) (ycW w p x.1 (.int .i64 0) (.bool false) 3 4) V → V.rangeAt (w.heap.size + 1) 0 ((mvL x.1).map (Value.int .i64))) := fun V hV => range_of_row ((hV.block _ (by omega)).trans hr1)
  have hGb : Shut (∀ V, Below w.heap.size w V → Tabs V ∧ IntSl V 0 .i8 allL ∧ IntSl V 1 .i8 [2, 3, 4, 5]) := fun V hb' => ⟨hT.below hb' (Nat.le_refl _), hA.below hb', hP.below hb'⟩
  have hpz := lay (fun (W : World) hT hA => pz_position p tn hF.snd hh hf W hT hA)
  have hva := lay (fun (pg bg : Nat) (W : World) h1 h2 h3 h4 h5 h6 => yc_valid p tn hF h218 x.1 kt (List.getElem?_eq_some_iff.1 hx).1 (full_first p tn hF kt x hx) (fun y hy => by rw [hx] at hy; injection hy with hy; rw [hy]) pg bg W h1 h2 h3 h4 h5 h6)
  have hxs := lay hx
  have hr2s := lay hr2
  have hr3s := lay hr3
  have hBs := lay hBW
  have hszs := lay hsz
  clear hT hA hP hF hr0 hr1 hr2 hr3 hBW h218 hh hf hx hsz
  go_enter_defers Tryz.func16, Tryz.ntmps16
  go_wp2_with fail
  change Code.wp _ _ _ _ (ycW w p x.1 (.int .i64 0) (.bool false) 3 4)
  generalize ycW w p x.1 (.int .i64 0) (.bool false) 3 4 = W at *
  refine wp_region_noPanic ?_
  refine wp_region_held_drew (S := fun V : World => Below (w.heap.size + 4) W V) (by kernel_rfl) ((Below.refl _ _).drew) (fun hHeld => ?_)
  refine' takeA (i := 0) (v := _) rfl (yieldsIf_load_mid (by rfl) _ _ rfl _ _ rfl _ _ (fun _ h => (hPp.out _ h).range) Tryz.underlying24 rfl (pos_info p hl)) hHeld ?_
  try simp only [zA, zB, zC, Act.put, zD, zE, zF]
  refine' takeA (i := 2) (v := _) rfl (yieldsIf_load_mid (by rfl) _ _ rfl _ _ rfl _ _ (fun _ h => hPq.out _ h) Tryz.underlying35 rfl (by kernel_rfl)) hHeld ?_
  try simp only [zA, zB, zC, Act.put, zD, zE, zF]
  refine wpAnyH_ready (rs := [1]) (by kernel_rfl) (by simp) ?_
  refine AllReadyH.cons rfl (fun K hK => ?_) AllReadyH.nil
  try simp only [zA, zB, zC, Act.put, zD, zE, zF]
  try rw [if_pos (by rfl)]
  go_simp
  refine (hpz.out _ (hGb.out _ (hBs.out.trans (hHeld.mono (by omega)))).1 (hGb.out _ (hBs.out.trans (hHeld.mono (by omega)))).2.1).mono ?_
  rintro e1 w1 ⟨v1, rfl, pg, bg, rfl, hge1, hE1, hb1⟩
  have hH1 := lay (hHeld.trans (hb1.mono (by have := hHeld.size; have := hszs.out; omega)))
  have hG1 := lay (hGb.out _ (hBs.out.trans (hH1.out.mono (by omega))))
  have hgpg : Shut (w.heap.size + 4 ≤ pg) := by
    show _ ≤ _
    have := hge1
    have := hszs.out
    have : W.drew.heap.size = W.heap.size := rfl
    omega
  have hv1 := lay (hva.out pg bg w1 hE1.ps hE1.bd (eng_ne hE1) hG1.out.1 hG1.out.2.1 hG1.out.2.2)
  clear hb1 hE1 hge1
  go_wp2_with fail
  refine hK.out _ _ (hH1.out) (fun hHeld => ?_)
  clear hK K
  try simp only [zA, zB, zC, Act.put, zD, zE, zF]
  refine wpAnyH_ready (rs := [3]) (by kernel_rfl) (by simp) ?_
  refine AllReadyH.cons rfl (fun K hK => ?_) AllReadyH.nil
  try simp only [zA, zB, zC, Act.put, zD, zE, zF]
  try rw [if_pos (by rfl)]
  go_simp
  refine (hv1.out).mono ?_
  rintro e2 w2 ⟨ha2, _, y, hm, hy, rfl, hge2, hm2⟩
  obtain rfl : x = y := by
    rw [hxs.out] at hy
    injection hy
  have hH2 := lay (ha2.below hgpg.out (by have := hH1.out.size; have := hszs.out; omega) hH1.out)
  have hm2 := lay hm2
  clear hy hge2
  go_wp2_with fail
  refine hK.out _ _ (ha2.below hgpg.out (by have := hH1.out.size; have := hszs.out; omega) hHeld) (fun hHeld => ?_)
  clear hK K
  try simp only [zA, zB, zC, Act.put, zD, zE, zF]
  try simp only [zA, zB, zC, Act.put, zD, zE, zF]
  refine takeA (i := 4) (v := ?vyc_3_4) rfl (Or.inl ⟨by rfl, ?yyc_3_4⟩) hHeld ?ryc_3_4
  case yyc_3_4 => (intro wq hSw; clear hSw; go_simp; try with_reducible rfl)
  try simp only [zA, zB, zC, Act.put, zD, zE, zF]
  refine wpAnyH_done (by kernel_rfl) ?_ _
  refine NoPanic.normal ?_
  have hpt := lay (wp_tags hm (tgN x.2) x.1.fr x.1.to x.1.pr w2 hm2.out)
  have r2 := (hH2.out.block (w.heap.size + 1 + 1) (by omega)).trans hr2s.out
  have r3 := (hH2.out.block (w.heap.size + 1 + 1 + 1) (by omega)).trans hr3s.out
  have k0 : w2.cell? ⟨w.heap.size + 1 + 1, 0, none⟩ = some (.int .i64 0) := cell_of_row w2 _ 0 _ _ _ r2
  have k1 : w2.cell? ⟨w.heap.size + 1 + 1 + 1, 0, none⟩ = some (.bool false) := cell_of_row w2 _ 0 _ _ _ r3
  have k2 := frozen_of_row w2 (w.heap.size + 1 + 1) 0 _ _ r2
  have k3 := frozen_of_row w2 (w.heap.size + 1 + 1 + 1) 0 _ _ r3
  have hwr : IntKind.i64.wrap (tgN x.2) = tgN x.2 := by
    have := tgN_range x.2
    rw [IntKind.wrap_i64]
    omega
  have hfin := lay (hBs.out.trans (hH2.out.mono (by omega)))
  obtain ⟨tz, htz⟩ : ∃ t : Int, tgN x.2 = t := ⟨_, rfl⟩
  rw [htz] at hpt hwr
  have htzs := lay htz
  clear htz
  clear r2 r3 hHeld ha2
  go_wp2_with (go_at_call 36; refine hpt.out.mono ?_; rintro e3 w3 ⟨rfl, rfl⟩)
  refine leaves_cons (f := 37) (args := #[.pointer (some ⟨w.heap.size + 1 + 1, 0, none⟩), .pointer (some ⟨w.heap.size + 1 + 1 + 1, 0, none⟩)]) (by simp) (by simp [go_sem]) ?_
  refine (yc_idle _ _ _).mono ?_
  rintro e u' w'' ⟨rfl, rfl, rfl⟩
  simp [Leaves, settle, results, Tryz.results16, go_sem, k0, k1]
  exact ⟨htzs.out.symm, (hfin.out.setCell (p := ⟨w.heap.size + 1 + 1, 0, none⟩) (by simp; omega) _).setCell (p := ⟨w.heap.size + 1 + 1 + 1, 0, none⟩) (by simp; omega) _⟩
end Go.Proofs.YtnjdgooljnbebaaGreatDoor
namespace Go.Proofs.YtnjdgooljnbebaaGreatDoor
open Go Go.RowKit
open List renaming getElem_toArray → zA, getElem_cons_zero → zB, getElem_cons_succ → zC, setIfInBounds_toArray → zD, set_cons_zero → zE, set_cons_succ → zF
set_option maxHeartbeats 8000000
set_option linter.unusedSimpArgs false
set_option linter.unusedVariables false
set_option maxRecDepth 100000

theorem ints_slc {w : World} {base : Nat} {v : Value} {l : List Int} (h : ownInts w base v l) : ∃ a c, v = .slice a l.length c ∧ (0 < l.length → ∃ g, a = some ⟨g, 0, none⟩ ∧ g < w.heap.size ∧ ∀ W, Below w.heap.size w W → ∀ k x, l[k]? = some x → W.cell? ⟨g, k, none⟩ = some (.int .i64 x)) := by
  have hf := h
  obtain ⟨hn, ⟨rfl, h0⟩ | ⟨g, cap, cur, rfl, _, hg, _⟩⟩ := h
  · exact ⟨none, 0, by rw [h0], fun i => by omega⟩
  · refine ⟨_, _, rfl, fun _ => ⟨g, rfl, (Array.getElem?_eq_some_iff.1 hg).1, fun W hW k x hx => ?_⟩⟩
    have hk : k < l.length := (List.getElem?_eq_some_iff.1 hx).1
    have h1 := hf.cellAt k (by simpa using hk)
    rw [← hW.cell (p := ⟨g, k, none⟩) (Array.getElem?_eq_some_iff.1 hg).1] at h1
    rw [h1]
    simp [hx]
theorem askedB_lg {p : List Int} (h : askedB p = true) : (legalL p).length ≤ 218 := by
  rw [askedB, Bool.and_eq_true, Bool.and_eq_true, Bool.and_eq_true] at h; exact of_decide_eq_true h.2.2.2
theorem yd_law (p : List Int) (hl : p.length = 69) (w : World) (hfi : IntTab w 7 .u64 (tabZ bbFilesL)) (hra : IntTab w 6 .u64 (tabZ bbRanksL)) (hdi : IntTab w 4 .u64 (tabZ bbDiagonalsL)) (han : IntTab w 5 .u64 (tabZ bbAntiDiagonalsL)) (hkn : IntTab w 2 .u64 (tabZ bbKnightMovesL)) (hki : IntTab w 3 .u64 (tabZ bbKingMovesL)) (hA : IntSl w 0 .i8 allL) (hP : IntSl w 1 .i8 [2, 3, 4, 5]) :
    Calls Tryz.prog 5 #[.agg (ints p)] w fun e w' => e = .returned (.bool true) ∧ Below w.heap.size w w' := by
  have hT : Tabs w := ⟨hki, hkn, hdi, han, hfi, hra⟩
  clear hfi hra hdi han hkn hki
  have hBW : Below w.heap.size w (w.alloc (.cells (ints p) 24)) := (Below.refl _ _).alloc (Nat.le_refl _) _
  have hrow0 : PosAt p w.heap.size (w.alloc (.cells (ints p) 24)) := heap_alloc_new w (.cells (ints p) 24)
  have hrow : (w.alloc (.cells (ints p) 24)).heap[w.heap.size]? = some (.cells (ints p) 24 (0, 0)) := hrow0
  have hR0 := lay hrow0
  have hRt := lay (fun W => rt_right p hl W)
  have hBs := lay hBW
  have hGb : Shut (∀ V, Below w.heap.size w V → Tabs V ∧ IntSl V 0 .i8 allL ∧ IntSl V 1 .i8 [2, 3, 4, 5]) := fun V hb' => ⟨hT.below hb' (Nat.le_refl _), hA.below hb', hP.below hb'⟩
  clear hT hA hP hBW hrow0
  cases hask : askedB p with
  | false =>
    have hasks := lay hask
    clear hask
    go_enter Tryz.func5, Tryz.ntmps5
    go_wp2_with (first
      | ((with_reducible refine at_load_row hrow Tryz.underlying24 rfl ?_ ?_ ?_); (rw [ints_size, hl]; kernel_rfl); rfl)
      | (go_at_call 9; refine (hRt.out _).mono ?_; rintro e1 w1 ⟨rfl, hb1⟩; rw [hasks.out]))
    go_ret
    exact ⟨rfl, hBs.out.trans (hb1.mono hBs.out.size)⟩
  | true =>
    obtain ⟨tn, hF⟩ := fair_of p hl (askedB_valid hask)
    have h67 := askedB_hf hask
    have h68 := askedB_fu hask
    have h218 := askedB_lg hask
    have hasks := lay hask
    have hMo := lay (fun (W : World) hT hA hP => ya_impl p tn hF h218 (by omega) (by omega) W hT hA hP)
    have hAt := lay (fun (W : World) hT hA hP => wt_impl p tn hF h218 (by omega) (by omega) W hT hA hP)
    have hTg := lay (fun (k : Nat) (x : Mv × Tg) hx (W : World) hT hA hP => yc_tags p tn hF h218 (by omega) (by omega) k x hx W hT hA hP)
    have hn218 : Shut ((fullE p tn).length ≤ 218) := by show _ ≤ _; rw [full_len p tn hF]; exact h218
    clear hask hF h67 h68 h218
    go_enter Tryz.func5, Tryz.ntmps5
    go_wp2_with (first
      | ((with_reducible refine at_load_row hrow Tryz.underlying24 rfl ?_ ?_ ?_); (rw [ints_size, hl]; kernel_rfl); rfl))
    refine (hRt.out _).mono ?_
    rintro e1 w1 ⟨rfl, hb1⟩
    rw [hasks.out]
    have hR1 : PosAt p w.heap.size w1 := hR0.out.below hb1
    have hrow1 : w1.heap[w.heap.size]? = some (.cells (ints p) 24 (0, 0)) := hR1
    have hB1 := lay (hBs.out.trans (hb1.mono hBs.out.size))
    have hR1s := lay hR1
    have hm1 := lay (hMo.out w1 (hGb.out _ hB1.out).1 (hGb.out _ hB1.out).2.1 (hGb.out _ hB1.out).2.2)
    clear hb1 hrow hR1
    go_wp2_with (first
      | ((with_reducible refine at_load_row hrow1 Tryz.underlying24 rfl ?_ ?_ ?_); (rw [ints_size, hl]; kernel_rfl); rfl))
    refine hm1.out.mono ?_
    rintro e2 w2 ⟨v2, rfl, ho2, hb2⟩
    have hR2 : PosAt p w.heap.size w2 := hR1s.out.below hb2
    have hrow2 : w2.heap[w.heap.size]? = some (.cells (ints p) 24 (0, 0)) := hR2
    have hB2 := lay (hB1.out.trans (hb2.mono hB1.out.size))
    have hR2s := lay hR2
    have ho2 := lay ho2
    have ha2 := lay (hAt.out w2 (hGb.out _ hB2.out).1 (hGb.out _ hB2.out).2.1 (hGb.out _ hB2.out).2.2)
    clear hb2 hrow1 hR2
    go_wp2_with (first
      | ((with_reducible refine at_load_row hrow2 Tryz.underlying24 rfl ?_ ?_ ?_); (rw [ints_size, hl]; kernel_rfl); rfl))
    refine ha2.out.mono ?_
    rintro e3 w3 ⟨v3, rfl, ho3, hb3⟩
    have hR3 : Shut (PosAt p w.heap.size w3) := hR2s.out.below hb3
    have hB3 := lay (hB2.out.trans (hb3.mono hB2.out.size))
    have hon : ownMvs w3 w1.heap.size v2 (movesL p tn) := own_next ho2.out hb3
    obtain ⟨a2, c2, rfl, hform⟩ := mvs_slice hon
    obtain ⟨a3, c3, rfl, hform3⟩ := ints_slc ho3
    have hons := lay hon
    have hform := lay hform
    have hform3 := lay hform3
    clear hb3 hrow2 hon ho3
    obtain ⟨n, hn⟩ : ∃ n, (fullE p tn).length = n := ⟨_, rfl⟩
    have e2 : (movesL p tn).length = n := by unfold movesL; rw [List.length_map, hn]
    have e3 : (tagsL p tn).length = n := by unfold tagsL; rw [List.length_map, hn]
    rw [e2] at hform ⊢
    rw [e3] at hform3 ⊢
    rw [hn] at hn218
    have hns := lay hn
    have e2s := lay e2
    have e3s := lay e3
    clear hn e2 e3
    go_wp2_with fail
    go_loopw [7] (fun i wr => ∃ k : Nat, k ≤ n ∧ i = .int .i64 (k : Int) ∧ Below w3.heap.size w3 wr) (fun i _ => ((n : Int) - intOf i).toNat)
    case atStart => exact ⟨0, by omega, rfl, Below.refl _ _⟩
    case round =>
      obtain ⟨k, hk, rfl, hb⟩ := hrel
      have hnb := hn218.out
      by_cases hlt : k < n
      · obtain ⟨x, hx⟩ : ∃ x, (fullE p tn)[k]? = some x := ⟨_, List.getElem?_eq_getElem (by rw [hns.out]; exact hlt)⟩
        obtain ⟨g, rfl⟩ := hform.out (by have := e2s.out; omega)
        obtain ⟨g3, rfl, hg3, hc3⟩ := hform3.out (by omega)
        have hx2 : (movesL p tn)[k]? = some x.1 := by unfold movesL; rw [List.getElem?_map, hx]; rfl
        have hx3 : (tagsL p tn)[k]? = some (tgN x.2) := by unfold tagsL; rw [List.getElem?_map, hx]; rfl
        have hgd : (movesL p tn).getD k ⟨0, 0, 0⟩ = x.1 := by rw [List.getD_eq_getElem?_getD, hx2]; rfl
        have hra : Shut (∀ V, Below w3.heap.size w3 V → V.rangeAt g (k * 3) (mvC x.1)) := by
          intro V hV
          have h1 := (own_row (own_next hons.out hV)).range k (by rw [e2s.out]; exact hlt)
          rw [hgd, Nat.mul_comm] at h1
          exact h1
        have hP3 : Shut (∀ V, Below w3.heap.size w3 V → PosAt p w.heap.size V) := fun V hV => hR3.out.below hV
        have hct : Shut (∀ V, Below w3.heap.size w3 V → V.cell? ⟨g3, k, none⟩ = some (.int .i64 (tgN x.2))) := fun V hV => hc3 V hV k _ hx3
        have htg := lay (hTg.out k x hx)
        have hbs := lay hb
        have hltz : (k : Int) < (n : Int) := by omega
        have hk0 : (0 : Int) ≤ (k : Int) := by omega
        have hc3 := lay hc3
        clear hx hx2 hx3 hgd hb hc3
        obtain ⟨tz, htz⟩ : ∃ t : Int, tgN x.2 = t := ⟨_, rfl⟩
        rw [htz] at hct htg
        clear htz
        go_wp2_with fail
        refine wp_region_held_drew (S := fun V : World => Below w3.heap.size w3 V) (by kernel_rfl) hbs.out.drew (fun hHeld => ?_)
        refine' takeA (i := 0) (v := _) rfl (yieldsIf_load_mid (by rfl) _ _ rfl _ _ rfl _ _ (fun _ h => (hP3.out _ h).range) Tryz.underlying24 rfl (pos_info p hl)) hHeld ?_
        try simp only [zA, zB, zC, Act.put, zD, zE, zF]
        refine takeA (i := 1) (v := ?vyd_2_1) rfl (Or.inl ⟨by rfl, ?yyd_2_1⟩) hHeld ?ryd_2_1
        case yyd_2_1 => (intro wq hSw; clear hSw; go_simp; try with_reducible rfl)
        try simp only [zA, zB, zC, Act.put, zD, zE, zF]
        refine takeA (i := 2) (v := ?vyd_3_2) rfl (Or.inl ⟨by rfl, ?yyd_3_2⟩) hHeld ?ryd_3_2
        case yyd_3_2 => (intro wq hSw; clear hSw; go_simp; try with_reducible rfl)
        try simp only [zA, zB, zC, Act.put, zD, zE, zF]
        refine takeA (i := 3) (v := ?vyd_4_3) rfl (Or.inl ⟨by rfl, ?yyd_4_3⟩) hHeld ?ryd_4_3
        case yyd_4_3 => (intro wq hSw; clear hSw; go_simp; try with_reducible rfl)
        try simp only [zA, zB, zC, Act.put, zD, zE, zF]
        refine' takeA (i := 4) (v := _) rfl (yieldsIf_load_mid (by rfl) _ _ rfl _ _ rfl _ _ (fun _ h => hra.out _ h) Tryz.underlying35 rfl (by kernel_rfl)) hHeld ?_
        try simp only [zA, zB, zC, Act.put, zD, zE, zF]
        refine wpAnyH_ready (rs := [5]) (by kernel_rfl) (by simp) ?_
        refine AllReadyH.cons rfl (fun K hK => ?_) AllReadyH.nil
        try simp only [zA, zB, zC, Act.put, zD, zE, zF]
        try rw [if_pos (by rfl)]
        go_simp
        refine (htg.out _ (hGb.out _ (hB3.out.trans (hHeld.mono hB3.out.size))).1 (hGb.out _ (hB3.out.trans (hHeld.mono hB3.out.size))).2.1 (hGb.out _ (hB3.out.trans (hHeld.mono hB3.out.size))).2.2).mono ?_
        rintro e4 w4 ⟨rfl, hb4⟩
        go_wp2_with fail
        refine hK.out _ _ (hHeld.trans (hb4.mono hHeld.size)) (fun hHeld => ?_)
        clear hK K
        try simp only [zA, zB, zC, Act.put, zD, zE, zF]
        refine takeA (i := 6) (v := ?vyd_6_6) rfl (Or.inl ⟨by rfl, ?yyd_6_6⟩) hHeld ?ryd_6_6
        case yyd_6_6 => (intro wq hSw; clear hSw; go_simp; try with_reducible rfl)
        try simp only [zA, zB, zC, Act.put, zD, zE, zF]
        refine takeA (i := 7) (v := ?vyd_7_7) rfl (Or.inl ⟨by rfl, ?yyd_7_7⟩) hHeld ?ryd_7_7
        case yyd_7_7 => (intro wq hSw; clear hSw; go_simp; try with_reducible rfl)
        try simp only [zA, zB, zC, Act.put, zD, zE, zF]
        refine takeA (i := 8) (v := ?vyd_8_8) rfl (Or.inl ⟨by rfl, ?yyd_8_8⟩) hHeld ?ryd_8_8
        case yyd_8_8 => (intro wq hSw; clear hSw; go_simp; try with_reducible rfl)
        try simp only [zA, zB, zC, Act.put, zD, zE, zF]
        refine takeA (i := 9) (v := ?vyd_9_9) rfl (Or.inl ⟨by rfl, ?yyd_9_9⟩) hHeld ?ryd_9_9
        case yyd_9_9 => (intro wq hSw; clear hSw; go_simp; try with_reducible rfl)
        try simp only [zA, zB, zC, Act.put, zD, zE, zF]
        refine takeA (i := 10) (v := ?vyd_10_10) rfl (Or.inl ⟨by rfl, ?yyd_10_10⟩) hHeld ?ryd_10_10
        case yyd_10_10 => (intro wq hSw; clear hSw; go_simp; try with_reducible rfl)
        try simp only [zA, zB, zC, Act.put, zD, zE, zF]
        refine wpAnyH_done (by kernel_rfl) ?_ _
        have hfin := lay hHeld
        clear hHeld
        have hcz := hct.out _ hfin.out
        go_wp2_with fail
        go_roundw
        case rel => exact ⟨k + 1, by omega, by go_num, hfin.out⟩
        case measure => simp [intOf]; omega
      · obtain rfl : k = n := by omega
        have hbf := lay (hB3.out.trans (hb.mono hB3.out.size))
        clear hb
        go_wp2_with fail
        go_ret
        exact ⟨rfl, hbf.out⟩
end Go.Proofs.YtnjdgooljnbebaaGreatDoor
