/- CalcMoves where all moves are asked for: the list of the legal moves with their tags, in the engine's order. For every fair position with at most 218 legal moves.
ValidMoves of a position that has none cached: the list of all moves, a copy. For every fair position with at most 218 legal moves.
The parts of a move of the package, and the move as the thin package has it. For every move.
impl.AllTags: the tags of all moves. For every fair position with at most 218 legal moves. -/
import Derived.Test.YtnjdgooljnbebaaGreatDoorG0
import Derived.Test.YtnjdgooljnbebaaGreatDoorG8
import Derived.Test.YtnjdgooljnbebaaGreatDoorG7
import Derived.Test.YtnjdgooljnbebaaGreatDoorGm
namespace Go.Proofs.YtnjdgooljnbebaaGreatDoor
open Go Go.RowKit
open List renaming getElem_toArray → zA, getElem_cons_zero → zB, getElem_cons_succ → zC, setIfInBounds_toArray → zD, set_cons_zero → zE, set_cons_succ → zF
set_option maxHeartbeats 8000000
set_option linter.unusedSimpArgs false
set_option linter.unusedVariables false
set_option maxRecDepth 100000

def castN (p : List Int) (tn n : Nat) : List (Mv × Tg) := if engC p tn n = true then [(castMv tn n, tagsOf p tn (castMv tn n) (castT n))] else []
theorem castK_ents (p : List Int) (tn n : Nat) : castK p tn n = ents (castN p tn n) := by
  unfold castK castN
  split <;> rfl
/-- All the engine's moves with their tags, in its order. -/
def fullE (p : List Int) (tn : Nat) : List (Mv × Tg) := lQ p tn 12 ++ (castN p tn 0 ++ castN p tn 1)
theorem castN_map (p : List Int) (tn n : Nat) : (castN p tn n).map (·.1) = castE p tn n := by
  unfold castN castE
  split <;> rfl
theorem full_perm (p : List Int) (tn : Nat) (hF : Fair p tn) : ((fullE p tn).map (·.1)).Perm (legalL p) := by
  unfold fullE legalL pseudoL
  rw [List.filter_append, cast_all p tn hF, List.map_append, List.map_append, castN_map, castN_map]
  exact (lQ_perm p tn hF).append (List.Perm.refl _)
theorem full_nodup (p : List Int) (tn : Nat) (hF : Fair p tn) : ((fullE p tn).map (·.1)).Nodup := by
  have htn := hF.snd.one
  unfold fullE
  refine map_nodup_app (lQ_nodup p tn 12) ?_ ?_
  · rw [List.map_append, castN_map, castN_map]
    unfold castE
    split <;> split
    · have hne : castMv tn 0 ≠ castMv tn 1 := by
        intro e
        have := (mv_eq e).2.1
        unfold cTo at this
        rw [if_pos rfl, if_neg (by decide)] at this
        omega
      simp [hne]
    · simp
    · simp
    · simp
  · intro x hx y hy e
    obtain ⟨q, hq, hqt, hx⟩ := (mem_lQ 12).1 hx
    obtain ⟨a, b, pr, ha, hb, e1, hgo⟩ := lA_at hx
    have hg := ((goes_iff p tn hF q a b hqt ha hb).1 ((goB_iff _ _ _ _ _).1 hgo)).2
    have h1 := castM_no p tn hF a b pr ha hb hg
    rw [← e1, e] at h1
    have h2 : ∀ n, n ≤ 1 → ∀ z ∈ castN p tn n, castM p z.1 = true := by
      intro n hn z hz
      unfold castN at hz
      split at hz
      · rename_i he
        rw [List.mem_singleton] at hz
        subst hz
        exact cast_is p tn n htn (eng_ok p tn hF n hn he)
      · cases hz
    rcases List.mem_append.1 hy with h | h
    · rw [h2 0 (by decide) y h] at h1
      cases h1
    · rw [h2 1 (by decide) y h] at h1
      cases h1
theorem full_len (p : List Int) (tn : Nat) (hF : Fair p tn) : (fullE p tn).length = (legalL p).length := by
  have := (full_perm p tn hF).length_eq
  rwa [List.length_map] at this
theorem wb_calc (p : List Int) (tn : Nat) (hF : Fair p tn) (h218 : (legalL p).length ≤ 218) (pg bg : Nat) (v : Value) (half full : Int) (w : World)
    (hpg : w.heap[pg]? = some (.cells (posW bg (casText (p.getD 65 0)) v half full tn (p.getD 66 0) (checkedB p tn)) 103 (0, 0))) (hbg : w.heap[bg]? = some (.cells (brd p) 144 (0, 0))) (hT : Tabs w) (hA : IntSl w 0 .i8 allL) (hP : IntSl w 1 .i8 [2, 3, 4, 5]) :
    Calls Tryz.prog 66 #[.agg #[], .pointer (some ⟨pg, 0, none⟩), .bool false] w fun e w' => Below w.heap.size w w' ∧ ∃ g c, e = .returned (.slice (some ⟨g, 0, none⟩) (fullE p tn).length c) ∧ (fullE p tn).length ≤ c ∧ w'.rangeAt g 0 (flat (ents (fullE p tn))) := by
  have hpl : pg < w.heap.size := (Array.getElem?_eq_some_iff.1 hpg).1
  have hbl : bg < w.heap.size := (Array.getElem?_eq_some_iff.1 hbg).1
  have hFs := lay hF
  have hcap := lQ_cap p tn hF h218
  obtain ⟨i0, hi, hz0, hz1, hz2⟩ := info_parts (show (Tryz.prog.info? 73).map (fun i => (i.zero, i.size, i.bytes)) = some (some (.agg (mvK 0 0 0 0)), 11, 96) by kernel_rfl)
  obtain ⟨n, hn⟩ : ∃ n, (lQ p tn 12).length = n := ⟨_, rfl⟩
  obtain ⟨olds, holds⟩ : ∃ l, flat (ents (lQ p tn 12)) = l := ⟨_, rfl⟩
  obtain ⟨m, hm⟩ : ∃ m, (castK p tn 0 ++ castK p tn 1).length = m := ⟨_, rfl⟩
  obtain ⟨news, hnews⟩ : ∃ l, flat (castK p tn 0 ++ castK p tn 1) = l := ⟨_, rfl⟩
  have hol : olds.length = n * 11 := by rw [← holds, ents_len, hn, Nat.mul_comm]
  have hck : castK p tn 0 ++ castK p tn 1 = ents (castN p tn 0 ++ castN p tn 1) := by rw [castK_ents, castK_ents, ents_app]
  have hnl : news.length = m * 11 := by
    rw [← hnews, ← hm, hck, ents_len, Nat.mul_comm]
    simp [ents]
  have hflat : Shut (flat (ents (fullE p tn)) = olds ++ news) := by
    show _ = _
    rw [← holds, ← hnews, hck]
    unfold fullE
    rw [ents_app]
    simp [flat]
  have hlenF : Shut ((fullE p tn).length = n + m) := by
    show _ = _
    rw [← hn, ← hm, hck]
    unfold fullE
    simp [ents]
  have hn1c : ∀ u ∈ news, u.oneCell' = true := by
    intro u hu
    rw [← hnews, hck] at hu
    obtain ⟨c, hc, huc⟩ := List.mem_flatMap.1 hu
    have hall := ents_one _ c hc
    rw [← Array.all_toList, List.all_eq_true] at hall
    exact hall u huc
  have hm2 : m ≤ 2 := by
    rw [← hm, List.length_append]
    have l1 : (castK p tn 0).length ≤ 1 := by unfold castK; split <;> simp
    have l2 : (castK p tn 1).length ≤ 1 := by unfold castK; split <;> simp
    omega
  have hn218 : n ≤ 218 := by rw [← hn]; exact hcap
  have hst0 := fun (V : World) (hV : Below w.heap.size w V) => sm_all p tn hF.snd hF.ep (mv_law p tn hF) pg bg (casText (p.getD 65 0)) v half full (checkedB p tn) V ((hV.block pg hpl).trans hpg) ((hV.block bg hbl).trans hbg) (hT.below hV (Nat.le_refl _)) (hA.below hV) (hP.below hV) hcap
  have hca0 := fun (V : World) (hV : Below w.heap.size w V) => wa_castle p tn hF pg bg v half full V ((hV.block pg hpl).trans hpg) ((hV.block bg hbl).trans hbg) (hT.below hV (Nat.le_refl _)) (hA.below hV)
  rw [hn, holds] at hst0
  rw [hm, hnews] at hca0
  have hst := lay hst0
  have hca := lay hca0
  have hn1c := lay hn1c
  rw [hflat.out, hlenF.out]
  clear hpg hbg hst0 hca0 hcap hn holds hm hnews hck h218
  go_enter Tryz.func66, Tryz.ntmps66
  go_wp2_with fail
  have hB0 : Below w.heap.size w (w.alloc (.cells #[] 100)) := (Below.refl _ _).alloc (Nat.le_refl _) _
  change Calls _ _ _ (w.alloc (.cells #[] 100)) _
  generalize w.alloc (.cells #[] 100) = W at *
  refine (hst.out W hB0).mono ?_
  rintro e1 w1 ⟨hb1, g, rfl, hold⟩
  have hB1 := lay (hB0.trans (hb1.mono hB0.size))
  clear hB0 hb1
  have hgl : ∀ j u, olds[j]? = some u → g < w1.heap.size := fun j u hj => World.block_lt_of_cell? w1 _ (hold j u hj)
  have hold := lay hold
  have hgl := lay hgl
  go_wp2_with fail
  refine (hca.out w1 hB1.out).mono ?_
  rintro e2 w2 ⟨hb2, rfl, hr2⟩
  have hB2 := lay (hB1.out.trans (hb2.mono hB1.out.size))
  have hol2 : ∀ j u, olds[j]? = some u → w2.cell? ⟨g, 0 + j, none⟩ = some u := fun j u hj => (hb2.cell (p := ⟨g, 0 + j, none⟩) (hgl.out j u hj)).trans (hold.out j u hj)
  have hol2 := lay hol2
  have hr2 := lay hr2
  clear hb2 hold hgl
  go_wp2_with (refine wpList_append_arg _ rfl _ _ 61 rfl 73 i0 (.agg (mvK 0 0 0 0)) 11 96 Tryz.underlying61 hi hz0 hz1 hz2 rfl (by decide) g 0 n n olds rfl hol hol2.out ⟨w1.heap.size, 0, none⟩ m 2 news rfl hnl (fun j u hj => by rw [Addr.add_mid]; exact hr2.out j u hj) hn1c.out ?s (by unfold maxLen; omega) (by omega) ?r ?g)
  case s =>
    intro h j hj
    exfalso
    omega
  case r =>
    intro h
    obtain rfl : m = 0 := by omega
    obtain rfl : news = [] := List.eq_nil_of_length_eq_zero (by omega)
    go_wp2_with fail
    go_ret
    exact ⟨hB2.out, g, n, rfl, Nat.le_refl _, by rw [List.append_nil]; exact hol2.out⟩
  case g =>
    intro h v' w3 hown hgr
    have hB3 := lay ((hB2.out).grown hgr hB2.out.size (fun k hk => by cases hk))
    obtain ⟨hn3, ⟨rfl, h0⟩ | ⟨q, cap, cur, rfl, _, hq, hnc, _, hcs, htk⟩⟩ := hown
    · exfalso
      omega
    · have hr3 : Shut (w3.rangeAt q 0 (olds ++ news)) := by
        intro j u hj
        rw [← htk] at hj
        rw [Nat.zero_add, cell_of_row w3 q j _ _ _ hq]
        rw [List.getElem?_take] at hj
        split at hj
        · rw [← Array.getElem?_toList]
          exact hj
        · cases hj
      have hnc := lay hnc
      clear hgr hn3 hq hcs htk
      go_wp2_with fail
      go_ret
      exact ⟨hB3.out, q, cap, rfl, hnc.out, hr3.out⟩
end Go.Proofs.YtnjdgooljnbebaaGreatDoor
namespace Go.Proofs.YtnjdgooljnbebaaGreatDoor
open Go Go.RowKit
open List renaming getElem_toArray → zA, getElem_cons_zero → zB, getElem_cons_succ → zC, setIfInBounds_toArray → zD, set_cons_zero → zE, set_cons_succ → zF
set_option maxHeartbeats 8000000
set_option linter.unusedSimpArgs false
set_option linter.unusedVariables false
set_option maxRecDepth 100000

theorem run_append_zero {P : Program} (w : World) (t ty e : TypeId) (i : TypeInfo) (ht : P.underlying t = some (.slice e)) (hi : P.info? e = some i) (a : Addr) (c : Nat) :
    (Builtin.append_ #[t, t] ty #[.slice none 0 0, .slice (some a) 0 c]).run P w = .ok (.slice none 0 0) w := by
  have hfc := run_firstCells_some (P := P) w i.size 0 a 0 c [] (by simp) (by simp)
  simp [Builtin.append_, run_underlying ht, sizeOf, typeInfo, hi, Builtin.lenOf, hfc]
theorem at_append_zero {P : Program} {w : World} {ops : Array Oper} {rest : List Oper} {a : Act} {Q : Exit → Act → World → Prop} {d : Option Tmp} {x y : Operand} {ty t : TypeId} {ps : String} {af : Array Edge} (e : TypeId) (i : TypeInfo)
    (ht : P.underlying t = some (.slice e)) (hi : P.info? e = some i) (sp : Addr) (c : Nat) (hx : a.eval x = .slice none 0 0) (hy : a.eval y = .slice (some sp) 0 c)
    (h : wpList P ops Q rest (a.put d (.slice none 0 0)) w) : wpList P ops Q ({ dst := d, op := .call { callee := .builtin .append, args := #[x, y], argTypes := #[t, t] }, type := ty, pos := ps, after := af, guard := none } :: rest) a w := by
  refine wpList_plain rfl fun K hK => ?_
  have hrun := run_append_zero (P := P) w t ty e i ht hi sp c
  unfold Oper.wp
  simp [execOp, resolve, invoke, builtin, hx, hy, hrun, Result.andThen]
  exact hK _ _ h
/-- The list of all moves lies where a slice says. -/
def Moved (p : List Int) (tn : Nat) (u : Value) (w : World) : Prop := ((fullE p tn).length = 0 ∧ u = .slice none 0 0) ∨ ∃ g c, u = .slice (some ⟨g, 0, none⟩) (fullE p tn).length c ∧ w.rangeAt g 0 (flat (ents (fullE p tn)))
theorem wv_valid (p : List Int) (tn : Nat) (hF : Fair p tn) (h218 : (legalL p).length ≤ 218) (pg bg : Nat) (half full : Int) (w : World)
    (hpg : w.heap[pg]? = some (.cells (posW bg (casText (p.getD 65 0)) (.slice none 0 0) half full tn (p.getD 66 0) (checkedB p tn)) 103 (0, 0))) (hbg : w.heap[bg]? = some (.cells (brd p) 144 (0, 0))) (hne : bg ≠ pg) (hT : Tabs w) (hA : IntSl w 0 .i8 allL) (hP : IntSl w 1 .i8 [2, 3, 4, 5]) :
    Calls Tryz.prog 33 #[.pointer (some ⟨pg, 0, none⟩)] w fun e w' => ∃ u, e = .returned u ∧ Moved p tn u w' ∧ (∃ v2, w'.heap[pg]? = some (.cells (posW bg (casText (p.getD 65 0)) v2 half full tn (p.getD 66 0) (checkedB p tn)) 103 (0, 0))) ∧ w'.heap[bg]? = some (.cells (brd p) 144 (0, 0)) ∧ (∀ j, j < w.heap.size → j ≠ pg → w'.heap[j]? = w.heap[j]?) ∧ ∀ B a, B ≤ pg → B ≤ w.heap.size → Below B a w → Below B a w' := by
  have hpl : pg < w.heap.size := (Array.getElem?_eq_some_iff.1 hpg).1
  have hbl : bg < w.heap.size := (Array.getElem?_eq_some_iff.1 hbg).1
  obtain ⟨i0, hi, hz0, hz1, hz2⟩ := info_parts (show (Tryz.prog.info? 73).map (fun i => (i.zero, i.size, i.bytes)) = some (some (.agg (mvK 0 0 0 0)), 11, 96) by kernel_rfl)
  have hcal := lay (wb_calc p tn hF h218 pg bg (.slice none 0 0) half full w hpg hbg hT hA hP)
  have hln : Shut ((fullE p tn).length ≤ 218) := by show _ ≤ _; rw [full_len p tn hF]; exact h218
  have hrow := lay hpg
  have hbrd := lay hbg
  have c2 : w.cell? ⟨pg, 2, none⟩ = some (.slice none 0 0) := cell_of_row w pg 2 _ _ _ hpg
  have hflen : Shut ((flat (ents (fullE p tn))).length = (fullE p tn).length * 11) := by show _ = _; rw [ents_len, Nat.mul_comm]
  have hone : Shut (∀ u ∈ flat (ents (fullE p tn)), u.oneCell' = true) := by
    intro u hu
    obtain ⟨c, hc, huc⟩ := List.mem_flatMap.1 hu
    have hall := ents_one _ c hc
    rw [← Array.all_toList, List.all_eq_true] at hall
    exact hall u huc
  have hfirst0 : 0 < (fullE p tn).length → (flat (ents (fullE p tn)))[0]? = some (.pointer none) := by
    intro h
    cases hf : fullE p tn with
    | nil => rw [hf] at h; simp at h
    | cons x l => rfl
  unfold Moved
  obtain ⟨m, hm⟩ : ∃ m, (fullE p tn).length = m := ⟨_, rfl⟩
  obtain ⟨ls, hls⟩ : ∃ l, flat (ents (fullE p tn)) = l := ⟨_, rfl⟩
  rw [hm, hls] at hcal hflen
  rw [hm] at hln
  rw [hm, hls] at hfirst0
  have hfirst := lay hfirst0
  rw [hls] at hone
  rw [hm, hls]
  clear hfirst0 hpg hbg hm hls h218 hT hA hP hF
  go_enter Tryz.func33, Tryz.ntmps33
  go_wp2_with fail
  refine hcal.out.mono ?_
  rintro e1 w1 ⟨hb1, g, c, rfl, hmc, hr1⟩
  have hp1 : w1.heap[pg]? = some (.cells (posW bg (casText (p.getD 65 0)) (.slice none 0 0) half full tn (p.getD 66 0) (checkedB p tn)) 103 (0, 0)) := (hb1.block pg hpl).trans hrow.out
  have hbd1 : w1.heap[bg]? = some (.cells (brd p) 144 (0, 0)) := (hb1.block bg hbl).trans hbrd.out
  have k2 : w1.cell? ⟨pg, 2, none⟩ = some (.slice none 0 0) := cell_of_row w1 pg 2 _ _ _ hp1
  have f2 := frozen_of_row w1 pg 2 _ _ hp1
  have hp2 : Shut ((w1.setCell ⟨pg, 2, none⟩ (.slice (some ⟨g, 0, none⟩) m c)).heap[pg]? = some (.cells (posW bg (casText (p.getD 65 0)) (.slice (some ⟨g, 0, none⟩) m c) half full tn (p.getD 66 0) (checkedB p tn)) 103 (0, 0))) := heap_setCell_same w1 pg 2 _ _ _ hp1
  have hbd2 : Shut ((w1.setCell ⟨pg, 2, none⟩ (.slice (some ⟨g, 0, none⟩) m c)).heap[bg]? = some (.cells (brd p) 144 (0, 0))) := (heap_setCell_other _ _ _ _ hne).trans hbd1
  have hO2 : Shut (∀ j, j < w.heap.size → j ≠ pg → (w1.setCell ⟨pg, 2, none⟩ (.slice (some ⟨g, 0, none⟩) m c)).heap[j]? = w.heap[j]?) := fun j hj hjp => (heap_setCell_other _ _ _ _ hjp).trans (hb1.block j hj)
  have hr2 : Shut ((w1.setCell ⟨pg, 2, none⟩ (.slice (some ⟨g, 0, none⟩) m c)).rangeAt g 0 ls) := by
    intro j u hj
    have hjl : j < ls.length := (List.getElem?_eq_some_iff.1 hj).1
    have hm0 : 0 < m := by
      have := hflen.out
      omega
    have hgp : g ≠ pg := by
      intro e
      have h1 := hr1 0 _ (hfirst.out hm0)
      rw [e, cell_of_row w1 pg (0 + 0) _ _ _ hp1] at h1
      have h2 : (some (Value.pointer (some ⟨bg, 0, none⟩)) : Option Value) = some (.pointer none) := h1
      injection h2 with h3
      injection h3 with h4
      cases h4
    have h1 := hr1 j u hj
    unfold World.cell? at h1 ⊢
    rw [heap_setCell_other _ _ _ _ hgp]
    exact h1
  have hK2 : Shut (∀ B a, B ≤ pg → B ≤ w.heap.size → Below B a w → Below B a (w1.setCell ⟨pg, 2, none⟩ (.slice (some ⟨g, 0, none⟩) m c))) := fun B a hB hs hb => (hb.trans (hb1.mono hs)).setCell (p := ⟨pg, 2, none⟩) hB _
  have hs2 : Shut (w.heap.size ≤ (w1.setCell ⟨pg, 2, none⟩ (.slice (some ⟨g, 0, none⟩) m c)).heap.size) := by
    show _ ≤ _
    have := hb1.size
    simp
    omega
  have hb1 := lay hb1
  clear hr1 hbd1 hp1 c2
  go_upto_region 4 with fail
  clear k2 f2
  generalize w1.setCell ⟨pg, 2, none⟩ (.slice (some ⟨g, 0, none⟩) m c) = W2 at *
  have c2 : W2.cell? ⟨pg, 2, none⟩ = some (.slice (some ⟨g, 0, none⟩) m c) := cell_of_row W2 pg 2 _ _ _ hp2.out
  by_cases h0 : m = 0
  · subst h0
    obtain rfl : ls = [] := List.eq_nil_of_length_eq_zero (by have := hflen.out; omega)
    go_wp2_with ((with_reducible refine at_append_zero 73 i0 Tryz.underlying61 hi ⟨g, 0, none⟩ c ?_ ?_ ?_); rfl; rfl)
    go_ret
    exact ⟨_, rfl, Or.inl rfl, ⟨_, hp2.out⟩, hbd2.out, hO2.out, hK2.out⟩
  · have hln2 := hln.out
    go_wp2_with (refine wpList_append_grows _ rfl _ _ 61 rfl 73 i0 (.agg (mvK 0 0 0 0)) 11 96 Tryz.underlying61 hi hz0 hz1 hz2 rfl (by decide) none 0 0 [] rfl (fun _ => ⟨rfl, rfl⟩) rfl (fun b hb => by cases hb) ⟨g, 0, none⟩ m c ls rfl hflen.out (fun j u hj => by rw [Addr.add_mid]; exact hr2.out j u hj) hone.out (by omega) (by unfold maxLen; omega) (by omega) ?g)
    case g =>
      intro v' w3 hown hgr
      obtain ⟨hn3, ⟨rfl, hz⟩ | ⟨q, cap, cur, rfl, hqg, hq, hnc, _, hcs, htk⟩⟩ := hown
      · exfalso
        omega
      · have hr3 : Shut (w3.rangeAt q 0 ls) := by
          intro j u hj
          rw [← htk] at hj
          rw [Nat.zero_add, cell_of_row w3 q j _ _ _ hq]
          rw [List.getElem?_take] at hj
          split at hj
          · rw [← Array.getElem?_toList]
            exact hj
          · cases hj
        have hp3 : Shut (w3.heap[pg]? = some (.cells (posW bg (casText (p.getD 65 0)) (.slice (some ⟨g, 0, none⟩) m c) half full tn (p.getD 66 0) (checkedB p tn)) 103 (0, 0))) := (hgr.block pg (Array.getElem?_eq_some_iff.1 hp2.out).1 (by simp)).trans hp2.out
        have hbd3 : Shut (w3.heap[bg]? = some (.cells (brd p) 144 (0, 0))) := (hgr.block bg (Array.getElem?_eq_some_iff.1 hbd2.out).1 (by simp)).trans hbd2.out
        have hO3 : Shut (∀ j, j < w.heap.size → j ≠ pg → w3.heap[j]? = w.heap[j]?) := fun j hj hjp => (hgr.block j (Nat.lt_of_lt_of_le hj hs2.out) (by simp)).trans (hO2.out j hj hjp)
        have hK3 : Shut (∀ B a, B ≤ pg → B ≤ w.heap.size → Below B a w → Below B a w3) := fun B a hB hs hb => (hK2.out B a hB hs hb).grown hgr (Nat.le_trans hs hs2.out) (fun k hk => by cases hk)
        clear hgr hn3 hq hcs htk
        go_wp2_with fail
        go_ret
        exact ⟨_, rfl, Or.inr ⟨q, cap, rfl, hr3.out⟩, ⟨_, hp3.out⟩, hbd3.out, hO3.out, hK3.out⟩
end Go.Proofs.YtnjdgooljnbebaaGreatDoor
namespace Go.Proofs.YtnjdgooljnbebaaGreatDoor
open Go Go.RowKit
open List renaming getElem_toArray → zA, getElem_cons_zero → zB, getElem_cons_succ → zC, setIfInBounds_toArray → zD, set_cons_zero → zE, set_cons_succ → zF
set_option maxHeartbeats 4000000
set_option linter.unusedSimpArgs false
set_option linter.unusedVariables false
set_option maxRecDepth 100000

theorem wp_S1 (g : Nat) (t a b pr : Int) (w : World) (hg : MvAt g t a b pr w) :
    Calls Tryz.prog 67 #[.pointer (some ⟨g, 0, none⟩)] w fun e w' => e = .returned (.int .i8 a) ∧ w = w' := by
  have c := hg.c8
  clear hg
  go_enter Tryz.func67, Tryz.ntmps67
  go_wp2
  go_ret
  exact ⟨rfl, rfl⟩
theorem wp_S2 (g : Nat) (t a b pr : Int) (w : World) (hg : MvAt g t a b pr w) :
    Calls Tryz.prog 68 #[.pointer (some ⟨g, 0, none⟩)] w fun e w' => e = .returned (.int .i8 b) ∧ w = w' := by
  have c := hg.c9
  clear hg
  go_enter Tryz.func68, Tryz.ntmps68
  go_wp2
  go_ret
  exact ⟨rfl, rfl⟩
theorem wp_Promo (g : Nat) (t a b pr : Int) (w : World) (hg : MvAt g t a b pr w) :
    Calls Tryz.prog 69 #[.pointer (some ⟨g, 0, none⟩)] w fun e w' => e = .returned (.int .i8 pr) ∧ w = w' := by
  have c := hg.c10
  clear hg
  go_enter Tryz.func69, Tryz.ntmps69
  go_wp2
  go_ret
  exact ⟨rfl, rfl⟩
theorem wp_tags (g : Nat) (t a b pr : Int) (w : World) (hg : MvAt g t a b pr w) :
    Calls Tryz.prog 36 #[.pointer (some ⟨g, 0, none⟩)] w fun e w' => e = .returned (.int .u16 t) ∧ w = w' := by
  have c := hg.c7
  clear hg
  go_enter Tryz.func36, Tryz.ntmps36
  go_wp2
  go_ret
  exact ⟨rfl, rfl⟩
end Go.Proofs.YtnjdgooljnbebaaGreatDoor
namespace Go.Proofs.YtnjdgooljnbebaaGreatDoor
open Go Go.RowKit
open List renaming getElem_toArray → zA, getElem_cons_zero → zB, getElem_cons_succ → zC, setIfInBounds_toArray → zD, set_cons_zero → zE, set_cons_succ → zF
set_option maxHeartbeats 8000000
set_option linter.unusedSimpArgs false
set_option linter.unusedVariables false
set_option maxRecDepth 100000

theorem wt_idle (p q : Addr) (w : World) :
    CallsD Tryz.prog 35 #[.pointer (some p), .pointer (some q)] .returning w fun e u' w' => e = .returned (.tuple #[]) ∧ u' = .returning ∧ w = w' := by
  refine callsD_of_wpS Tryz.func35 rfl fun c₀ cs hu => ?_
  apply wpS_seq
  apply wpS_region
  simp [wpOpsS, go_sem, recoverD, hu, Tryz.ntmps35, Exit.thenS]
  refine wpS_cond (t := false) (by simp [Act.eval, Array.replicate]) ?_
  simp only [Bool.false_eq_true, if_false]
  refine wpS_of_wp (wp_skip ?_)
  cases c₀
  simp_all [bodyPostS, results, Tryz.results35]
theorem eng_ne {p : List Int} {tn pg bg : Nat} {w : World} (h : EngPos p tn pg bg w) : bg ≠ pg := by
  intro e
  have h1 := h.bd
  rw [e, h.ps] at h1
  injection h1 with h2
  injection h2 with _ h3 _
  exact absurd h3 (by decide)
theorem flat_get : ∀ (L : List (Array Value)), (∀ c ∈ L, c.size = 11) → ∀ k c, L[k]? = some c → ∀ j, j < 11 → (flat L)[k * 11 + j]? = c.toList[j]?
  | [], _, k, c, h, _, _ => by simp at h
  | x :: L, hL, k, c, h, j, hj => by
    have hx : x.toList.length = 11 := by rw [Array.length_toList]; exact hL x List.mem_cons_self
    have e : flat (x :: L) = x.toList ++ flat L := rfl
    rw [e]
    cases k with
    | zero =>
      have hxc : x = c := by simpa using h
      subst hxc
      rw [Nat.zero_mul, Nat.zero_add, List.getElem?_append_left (by omega)]
    | succ k =>
      rw [List.getElem?_append_right (by omega), hx, show (k + 1) * 11 + j - 11 = k * 11 + j by omega]
      exact flat_get L (fun q hq => hL q (List.mem_cons_of_mem _ hq)) k c (by simpa using h) j hj
/-- One entry of a list that lies in a block. -/
theorem range_ent {w : World} {g : Nat} {l : List (Mv × Tg)} (h : w.rangeAt g 0 (flat (ents l))) (k : Nat) (x : Mv × Tg) (hx : l[k]? = some x) : w.rangeAt g (k * 11) (entK x).toList := by
  intro j u hj
  have hj11 : j < 11 := by
    have := (List.getElem?_eq_some_iff.1 hj).1
    exact this
  have hf := flat_get (ents l) (ents_size l) k (entK x) (by unfold ents; rw [List.getElem?_map, hx]; rfl) j hj11
  rw [hj] at hf
  have := h _ _ hf
  rwa [Nat.zero_add] at this
theorem step_app1 {P : Program} {ops : Array Oper} {o : Oper} {a : Act} {w : World} {K : Act → World → Prop} {Q : Exit → Act → World → Prop} {E : Prop} (hgd : o.guard = none) (x y : Operand) {u : Value} {t e : TypeId} (ho : o.op = .call { callee := .builtin .append, args := #[x, y], argTypes := #[t, t] })
    {i : TypeInfo} {z : Value} {bytes : Nat} (ht : P.underlying t = some (.slice e)) (hi : P.info? e = some i) (hz : i.zero = some z) (hsize : i.size = 1) (hby : i.bytes = bytes) (hzs : z.cells.size = 1) (hb : bytes ≤ 16) (hu : u.oneCell' = true)
    (base : Nat) (v : Value) (n : Nat) (xs : List Value) (hO : w.ownsRow base e 1 v n xs) (hlen : n ≤ 1000000) (hbase : base ≤ w.heap.size)
    (hx : a.eval x = v) (hy : a.eval y = .slice (some ⟨w.heap.size, 0, none⟩) 1 1)
    (h : ∀ v' w', w'.ownsRow base e 1 v' (n + 1) (xs ++ [u]) → Below base w w' → K (a.put o.dst v') w') :
    if Region.wanted o (yielded ops a.tmps) = true then Oper.wp P o a (w.alloc (.cells #[u] e)) K Q else E := by
  refine step_append_lies _ hgd x y t ho base e i z 1 bytes ht hi hz hsize hby hzs (by decide) v n xs hx (hO.alloc _)
    ⟨w.heap.size, 0, none⟩ 1 1 [u] hy rfl (one_cell w u e _ rfl) ?_ (by decide) ?_ ?_ ?_ (w.heap.size + 1) (by simp) ?_
  · intro q hq; simp at hq; subst hq; exact hu
  · unfold maxLen; omega
  · have : (n + 1) * bytes ≤ 1000001 * 16 := Nat.mul_le_mul (by omega) hb
    omega
  · simp; omega
  · intro g cap w' hown hgrow hg _
    exact h _ _ hown (((Below.refl _ _).alloc hbase _).grown hgrow (by simp; omega) (own_ge hO))
theorem own_slc {w : World} {base : Nat} {e : TypeId} {size : Nat} {v : Value} {n : Nat} {xs : List Value} (h : w.ownsRow base e size v n xs) : ∃ a k c, v = .slice a k c := by
  obtain ⟨_, ⟨rfl, _⟩ | ⟨g, cap, cur, rfl, _⟩⟩ := h
  · exact ⟨_, _, _, rfl⟩
  · exact ⟨_, _, _, rfl⟩
theorem tgN_range (t : Tg) : 0 ≤ tgN t ∧ tgN t ≤ 63 := by
  obtain ⟨a, b, c, d, e, f⟩ := t
  cases a <;> cases b <;> cases c <;> cases d <;> cases e <;> cases f <;> decide
theorem meets {X G : Prop} (h : Shut X → G) (x : X) : G := h x
/-- The tags of the engine's moves. -/
def tagsL (p : List Int) (tn : Nat) : List Int := (fullE p tn).map fun x => tgN x.2
theorem wt_impl (p : List Int) (tn : Nat) (hF : Fair p tn) (h218 : (legalL p).length ≤ 218) (hh : p.getD 67 0 ≤ 1000000) (hf : p.getD 68 0 ≤ 1000000) (w : World) (hT : Tabs w) (hA : IntSl w 0 .i8 allL) (hP : IntSl w 1 .i8 [2, 3, 4, 5]) :
    Calls Tryz.prog 15 #[.agg (ints p)] w fun e w' => ∃ v, e = .returned (.tuple #[v, .bool true]) ∧ ownInts w' w.heap.size v (tagsL p tn) ∧ Below w.heap.size w w' := by
  have hl := hF.snd.pos.len
  have hn218 : Shut ((fullE p tn).length ≤ 218) := by show _ ≤ _; rw [full_len p tn hF]; exact h218
  obtain ⟨ib, hib, hzi0, hzi1, hzi2⟩ := info_parts (show (Tryz.prog.info? 3).map (fun i => (i.zero, i.size, i.bytes)) = some (some (.int .i64 0), 1, 8) by kernel_rfl)
  have hmf := makeFunc_run Tryz.prog
  obtain ⟨hr0, hr1, hr2, hBW, hsz⟩ := wsW_rows w p (.slice none 0 0) (.bool false) 37 4
  have hr0' : (wsW w p (.slice none 0 0) (.bool false) 37 4).heap[w.heap.size]? = some (.cells (ints p) 24 (0, 0)) := hr0
  have hpz := lay (pz_position p tn hF.snd hh hf (wsW w p (.slice none 0 0) (.bool false) 37 4) (hT.below hBW (Nat.le_refl _)) (hA.below hBW))
  have hTb := lay (fun (V : World) (hV : Below w.heap.size w V) => hT.below hV (Nat.le_refl _))
  have hAb := lay (fun (V : World) (hV : Below w.heap.size w V) => hA.below hV)
  have hPb := lay (fun (V : World) (hV : Below w.heap.size w V) => hP.below hV)
  have hva := lay (fun (pg bg : Nat) (V : World) h1 h2 h3 h4 h5 h6 => wv_valid p tn hF h218 pg bg (p.getD 67 0) (p.getD 68 0) V h1 h2 h3 h4 h5 h6)
  clear hF hT hA hP h218
  go_enter_defers Tryz.func15, Tryz.ntmps15
  go_wp2_with (with_reducible refine at_load_row hr0' Tryz.underlying24 rfl ?_ rfl ?_; (rw [ints_size, hl]; kernel_rfl))
  change Calls _ _ _ (wsW w p (.slice none 0 0) (.bool false) 37 4) _
  generalize wsW w p (.slice none 0 0) (.bool false) 37 4 = W at *
  refine hpz.out.mono ?_
  rintro e1 w1 ⟨v, rfl, pg, bg, rfl, hge, hEp, hb1⟩
  have hB1 := lay (hBW.trans (hb1.mono hBW.size))
  have hva1 := lay (hva.out pg bg w1 hEp.ps hEp.bd (eng_ne hEp) (hTb.out w1 hB1.out) (hAb.out w1 hB1.out) (hPb.out w1 hB1.out))
  have r1 := lay ((hb1.block (w.heap.size + 1) (by omega)).trans hr1)
  have r2 := lay ((hb1.block (w.heap.size + 1 + 1) (by omega)).trans hr2)
  have hs1 := lay hb1.size
  have hgs := lay hge
  have hszs := lay hsz
  clear hr0 hr0' hr1 hr2 hb1 hEp hBW hge hva hsz
  go_wp2_with fail
  refine hva1.out.mono ?_
  rintro e2 w2 ⟨u, rfl, hmv, _, _, _, hK⟩
  have hB2 := lay (hK w.heap.size w (by have := hgs.out; have := hszs.out; omega) (by have := hs1.out; have := hszs.out; omega) hB1.out)
  have hk3 := hK (w.heap.size + 3) w1 (by have := hgs.out; have := hszs.out; omega) (by have := hs1.out; have := hszs.out; omega) (Below.refl _ _)
  have q1 := lay ((hk3.block (w.heap.size + 1) (by omega)).trans r1.out)
  have q2 := lay ((hk3.block (w.heap.size + 1 + 1) (by omega)).trans r2.out)
  have hs2 : Shut (w.heap.size + 3 ≤ w2.heap.size) := by
    show _ ≤ _
    have h1 := hk3.size
    have h2 := hs1.out
    have h3 := hszs.out
    omega
  clear hK hk3 hva1 hB1 r1 r2 hs1 hgs hszs
  rcases hmv with ⟨hn0, rfl⟩ | ⟨g, c, rfl, hls⟩
  · have htk : Shut (tagsL p tn = []) := List.eq_nil_of_length_eq_zero (by unfold tagsL; rw [List.length_map]; exact hn0)
    have m0 := cell_of_row w2 _ 0 _ _ _ q1.out
    have m1 := cell_of_row w2 _ 0 _ _ _ q2.out
    have m2 := frozen_of_row w2 (w.heap.size + 1) 0 _ _ q1.out
    have m3 := frozen_of_row w2 (w.heap.size + 1 + 1) 0 _ _ q2.out
    have hbF := lay ((hB2.out.setCell (p := ⟨w.heap.size + 1, 0, none⟩) (by simp) (.slice none 0 0)).setCell (p := ⟨w.heap.size + 1 + 1, 0, none⟩) (by first | (simp; done) | (simp; omega)) (.bool true))
    clear hn0
    go_wp2_with fail
    go_loopw [11] (fun i wx => i = .int .i64 0 ∧ wx = w2) (fun i _ => 0)
    case atStart => exact ⟨rfl, rfl⟩
    case round =>
      obtain ⟨rfl, rfl⟩ := hrel
      go_wp2_with fail
      refine leaves_cons (f := 35) (args := #[.pointer (some ⟨w.heap.size + 1, 0, none⟩), .pointer (some ⟨w.heap.size + 1 + 1, 0, none⟩)]) (by simp) (by simp [go_sem]) ?_
      refine (wt_idle _ _ _).mono ?_
      rintro e u' w'' ⟨rfl, rfl, rfl⟩
      simp [Leaves, settle, results, Tryz.results15, go_sem, m0, m1]
      refine ⟨?_, hbF.out⟩
      rw [htk.out]
      exact World.ownsRow_nil _ _ _ _
  · obtain ⟨n, hn⟩ : ∃ n, (fullE p tn).length = n := ⟨_, rfl⟩
    have hns := lay hn
    rw [hn]
    have hlss := lay hls
    clear hn hls
    go_wp2_with fail
    go_loopw [11] (fun i wx => ∃ k : Nat, k ≤ n ∧ i = .int .i64 (k : Int) ∧ Below w.heap.size w wx ∧ w2.heap.size ≤ wx.heap.size ∧ wx.rangeAt g 0 (flat (ents (fullE p tn))) ∧ wx.heap[w.heap.size + 1 + 1]? = some (.cells #[.bool false] 4 (0, 0)) ∧ ∃ v, wx.heap[w.heap.size + 1]? = some (.cells #[v] 37 (0, 0)) ∧ ownInts wx w2.heap.size v ((tagsL p tn).take k)) (fun i _ => ((n : Int) - intOf i).toNat)
    case atStart => exact ⟨0, by omega, rfl, hB2.out, Nat.le_refl _, hlss.out, q2.out, _, q1.out, World.ownsRow_nil _ _ _ _⟩
    case round =>
      obtain ⟨k, hk, rfl, hb3, hb4, hl3, r3, v, r4, ho⟩ := hrel
      by_cases hlt : k < n
      · obtain ⟨x, hx⟩ : ∃ x, (fullE p tn)[k]? = some x := ⟨_, List.getElem?_eq_getElem (by rw [hns.out]; exact hlt)⟩
        have hle := lay (range_ent hl3 k x hx)
        have hgw : Shut (g < w2.heap.size ∧ g ≠ w.heap.size + 1) := by
          have hf : (flat (ents (fullE p tn)))[0]? = some (.pointer none) := by
            cases hfe : fullE p tn with
            | nil => rw [hfe] at hx; simp at hx
            | cons y l => rfl
          have h1 := hlss.out 0 _ hf
          refine ⟨World.block_lt_of_cell? w2 _ h1, ?_⟩
          intro e
          rw [e, cell_of_row w2 _ (0 + 0) _ _ _ q1.out] at h1
          have h2 : (some (Value.slice none 0 0) : Option Value) = some (.pointer none) := h1
          injection h2 with h3
          cases h3
        have hl3 := lay hl3
        have hxs := lay hx
        have ho := lay ho
        have hb3 := lay hb3
        have hb4 := lay hb4
        have r3 := lay r3
        have r4 := lay r4
        have hltz : (k : Int) < (n : Int) := by omega
        have hltS := lay hltz
        obtain ⟨cs, hcs⟩ : ∃ cs, entK x = cs := ⟨_, rfl⟩
        have hsz : Shut (cs.size = 11) := by show _ = _; rw [← hcs]; rfl
        have hon : Shut (cs.all (·.oneCell') = true) := by show _ = _; rw [← hcs]; exact mvK_one _ _ _ _
        have hnf : Shut ((Tryz.prog.info? 73).map (·.size) = some cs.size) := by
          show _ = _
          rw [hsz.out]
          kernel_rfl
        rw [hcs] at hle
        have hcss := lay hcs
        clear hcs hx
        go_upto_region 5 with (first
          | ((with_reducible refine at_load_mid cs hle.out Tryz.underlying73 rfl ?_ ?_ ?_); exact hnf.out; rfl)
          | ((with_reducible refine at_new_row cs ?_ ?_ ?_ ?_ ?_ ?_); exact hnf.out; (rw [hsz.out]; kernel_rfl); exact hon.out; rfl; rfl; intro W5 r5 hb5))
        have hmv5 : Shut (MvAt wr.heap.size (tgN x.2) x.1.fr x.1.to x.1.pr W5) := by
          show _ = _
          rw [← hcss.out] at r5
          exact r5
        have r45 : Shut (W5.heap[w.heap.size + 1]? = some (.cells #[v] 37 (0, 0))) := (hb5.block _ (Array.getElem?_eq_some_iff.1 r4.out).1).trans r4.out
        have r35 : Shut (W5.heap[w.heap.size + 1 + 1]? = some (.cells #[.bool false] 4 (0, 0))) := (hb5.block _ (Array.getElem?_eq_some_iff.1 r3.out).1).trans r3.out
        have ho5 : Shut (ownInts W5 w2.heap.size v ((tagsL p tn).take k)) := ho.out.below hb5
        have hb35 := lay (hb3.out.trans (hb5.mono hb3.out.size))
        have hb45 : Shut (w2.heap.size ≤ W5.heap.size) := Nat.le_trans hb4.out hb5.size
        have hgl : Shut (W5.rangeAt g 0 (flat (ents (fullE p tn)))) := fun j u hj => (hb5.cell (p := ⟨g, 0 + j, none⟩) (World.block_lt_of_cell? wr _ (hl3.out j u hj))).trans (hl3.out j u hj)
        have c4 := cell_of_row W5 _ 0 _ _ _ r45.out
        have f4 := frozen_of_row W5 _ 0 _ _ r45.out
        have hlt5 : w.heap.size + 1 < W5.heap.size := (Array.getElem?_eq_some_iff.1 r45.out).1
        have htag := lay (wp_tags wr.heap.size (tgN x.2) x.1.fr x.1.to x.1.pr W5.drew hmv5.out)
        clear r5 hb5 hsz hon hnf
        obtain ⟨tz, htz⟩ : ∃ t : Int, tgN x.2 = t := ⟨_, rfl⟩
        rw [htz] at htag
        have hwr : IntKind.i64.wrap tz = tz := by
          have := tgN_range x.2
          rw [htz] at this
          rw [IntKind.wrap_i64]
          omega
        have htzs := lay htz
        clear htz
        have hlen5 : Shut (((tagsL p tn).take k).length ≤ 1000000) := by
          show _ ≤ _
          rw [List.length_take]
          have := hn218.out
          have := hns.out
          omega
        have hsz5 : Shut (w2.heap.size ≤ W5.drew.heap.size) := hb45.out
        refine wp_region_noPanic ?_
        refine wp_region_held_drew (S := fun _ : World => True) (by kernel_rfl) trivial (fun hHeld => ?_)
        apply meets
        case h =>
          intro hkey
          refine wpAnyH_ready (rs := [0, 1]) (by kernel_rfl) (by simp) ?_
          refine AllReadyH.cons rfl (fun K hK => ?_) (AllReadyH.cons rfl (fun K hK => ?_) AllReadyH.nil)
          · try simp only [zA, zB, zC, Act.put, zD, zE, zF]
            try rw [if_pos (by rfl)]
            go_simp
            refine hK.out _ _ trivial (fun hHeld => ?_)
            clear hK K
            try simp only [zA, zB, zC, Act.put, zD, zE, zF]
            refine wpAnyH_ready (rs := [1]) (by kernel_rfl) (by simp) ?_
            refine AllReadyH.cons rfl (fun K hK => ?_) AllReadyH.nil
            try simp only [zA, zB, zC, Act.put, zD, zE, zF]
            try rw [if_pos (by rfl)]
            go_simp
            refine htag.out.mono ?_
            rintro e3 w3 ⟨rfl, rfl⟩
            go_wp2_with fail
            refine hK.out _ _ trivial (fun hHeld => ?_)
            clear hK K
            try simp only [zA, zB, zC, Act.put, zD, zE, zF]
            refine takeA (i := 2) (v := ?va) rfl (Or.inl ⟨by rfl, ?ya⟩) hHeld ?ra
            case ya => (intro wq hSw; clear hSw; go_simp; try with_reducible rfl)
            try simp only [zA, zB, zC, Act.put, zD, zE, zF]
            refine wpAnyH_ready (rs := [3]) (by kernel_rfl) (by simp) ?_
            refine AllReadyH.cons rfl (fun K hK => ?_) AllReadyH.nil
            try simp only [zA, zB, zC, Act.put, zD, zE, zF]
            try rw [if_pos (by rfl)]
            go_simp
            refine hK.out _ _ trivial (fun hHeld => ?_)
            clear hK K
            try simp only [zA, zB, zC, Act.put, zD, zE, zF]
            exact hkey.out
          · try simp only [zA, zB, zC, Act.put, zD, zE, zF]
            try rw [if_pos (by rfl)]
            go_simp
            refine htag.out.mono ?_
            rintro e3 w3 ⟨rfl, rfl⟩
            go_wp2_with fail
            refine hK.out _ _ trivial (fun hHeld => ?_)
            clear hK K
            try simp only [zA, zB, zC, Act.put, zD, zE, zF]
            refine takeA (i := 2) (v := ?vb) rfl (Or.inl ⟨by rfl, ?yb⟩) hHeld ?rb
            case yb => (intro wq hSw; clear hSw; go_simp; try with_reducible rfl)
            try simp only [zA, zB, zC, Act.put, zD, zE, zF]
            refine wpAnyH_ready (rs := [0, 3]) (by kernel_rfl) (by simp) ?_
            refine AllReadyH.cons rfl (fun K hK => ?_) (AllReadyH.cons rfl (fun K hK => ?_) AllReadyH.nil)
            · skip
              try simp only [zA, zB, zC, Act.put, zD, zE, zF]
              try rw [if_pos (by rfl)]
              go_simp
              refine hK.out _ _ trivial (fun hHeld => ?_)
              clear hK K
              try simp only [zA, zB, zC, Act.put, zD, zE, zF]
              refine wpAnyH_ready (rs := [3]) (by kernel_rfl) (by simp) ?_
              refine AllReadyH.cons rfl (fun K hK => ?_) AllReadyH.nil
              try simp only [zA, zB, zC, Act.put, zD, zE, zF]
              try rw [if_pos (by rfl)]
              go_simp
              refine hK.out _ _ trivial (fun hHeld => ?_)
              clear hK K
              try simp only [zA, zB, zC, Act.put, zD, zE, zF]
              exact hkey.out
            · skip
              try simp only [zA, zB, zC, Act.put, zD, zE, zF]
              try rw [if_pos (by rfl)]
              go_simp
              refine hK.out _ _ trivial (fun hHeld => ?_)
              clear hK K
              try simp only [zA, zB, zC, Act.put, zD, zE, zF]
              refine wpAnyH_ready (rs := [0]) (by kernel_rfl) (by simp) ?_
              refine AllReadyH.cons rfl (fun K hK => ?_) AllReadyH.nil
              try simp only [zA, zB, zC, Act.put, zD, zE, zF]
              try rw [if_pos (by rfl)]
              go_simp
              refine hK.out _ _ trivial (fun hHeld => ?_)
              clear hK K
              try simp only [zA, zB, zC, Act.put, zD, zE, zF]
              exact hkey.out
        case x =>
          refine wpAnyH_ready (rs := [4]) (by kernel_rfl) (by simp) ?_
          refine AllReadyH.cons rfl (fun K hK => ?_) AllReadyH.nil
          change if _ = true then Oper.wp _ _ _ (W5.drew.alloc (.cells #[.int .i64 tz] 3)) _ _ else _
          refine step_app1 (w := W5.drew) rfl _ _ rfl Tryz.underlying37 hib hzi0 hzi1 hzi2 rfl (by decide) rfl w2.heap.size v _ _ ho5.out hlen5.out hsz5.out ?hx ?hy ?hh
          case hx => rfl
          case hy => rfl
          case hh =>
          intro v' w' own' hb'
          obtain ⟨a6, k6, q6, rfl⟩ := own_slc own'
          have r46 := lay ((hb'.block (w.heap.size + 1) (by have := hs2.out; omega)).trans r45.out)
          have r36 := lay ((hb'.block (w.heap.size + 1 + 1) (by have := hs2.out; omega)).trans r35.out)
          have c46 := cell_of_row w' _ 0 _ _ _ r46.out
          have f46 := frozen_of_row w' _ 0 _ _ r46.out
          have own6 := lay own'
          have hb6 := lay hb'
          clear own' hb' c4 f4
          refine hK.out _ _ trivial (fun hHeld => ?_)
          clear hK K
          try simp only [zA, zB, zC, Act.put, zD, zE, zF]
          refine wpAnyH_ready (rs := [5]) (by kernel_rfl) (by simp) ?_
          refine AllReadyH.cons rfl (fun K hK => ?_) AllReadyH.nil
          try simp only [zA, zB, zC, Act.put, zD, zE, zF]
          try rw [if_pos (by rfl)]
          go_simp
          have rZ := lay (heap_setCell_same w' (w.heap.size + 1) 0 _ _ (.slice a6 k6 q6) r46.out)
          have rY := lay ((heap_setCell_other w' ⟨w.heap.size + 1, 0, none⟩ (w.heap.size + 1 + 1) (.slice a6 k6 q6) (by simp)).trans r36.out)
          have hbZ := lay (((hb35.out.drew).trans (hb6.out.mono (by have := hs2.out; omega))).setCell (p := ⟨w.heap.size + 1, 0, none⟩) (by simp) (.slice a6 k6 q6))
          have hoZ := lay (ownsRow_setCell_below own6.out (a := ⟨w.heap.size + 1, 0, none⟩) (by have := hs2.out; show w.heap.size + 1 < w2.heap.size; omega) (.slice a6 k6 q6))
          have hoF : Shut (ownInts (w'.setCell ⟨w.heap.size + 1, 0, none⟩ (.slice a6 k6 q6)) w2.heap.size (.slice a6 k6 q6) ((tagsL p tn).take (k + 1))) := by
            have hx2 : (tagsL p tn)[k]? = some tz := by
              unfold tagsL
              rw [List.getElem?_map, hxs.out]
              show some (tgN x.2) = some tz
              rw [htzs.out]
            have e : (tagsL p tn).take (k + 1) = (tagsL p tn).take k ++ [tz] := by rw [List.take_add_one, hx2]; rfl
            show ownInts _ _ _ _
            rw [e]
            unfold ownInts
            rw [List.map_append, List.length_append]
            exact hoZ.out
          have hb4Z : Shut (w2.heap.size ≤ (w'.setCell ⟨w.heap.size + 1, 0, none⟩ (.slice a6 k6 q6)).heap.size) := by
            show _ ≤ _
            have h1 := hb6.out.size
            have h2 := hb45.out
            have h3 : W5.drew.heap.size = W5.heap.size := rfl
            simp
            omega
          have hlZ : Shut ((w'.setCell ⟨w.heap.size + 1, 0, none⟩ (.slice a6 k6 q6)).rangeAt g 0 (flat (ents (fullE p tn)))) := by
            intro j u hj
            have h1 := hgl.out j u hj
            have h2 : w'.cell? ⟨g, 0 + j, none⟩ = W5.cell? ⟨g, 0 + j, none⟩ := hb6.out.cell (p := ⟨g, 0 + j, none⟩) hgw.out.1
            rw [← h2] at h1
            unfold World.cell? at h1 ⊢
            rw [heap_setCell_other _ _ _ _ hgw.out.2]
            exact h1
          clear c46 f46 own6
          refine hK.out _ _ trivial (fun hHeld => ?_)
          clear hK K
          try simp only [zA, zB, zC, Act.put, zD, zE, zF]
          refine wpAnyH_done (by kernel_rfl) ?_ _
          refine NoPanic.normal ?_
          generalize w'.setCell ⟨w.heap.size + 1, 0, none⟩ (.slice a6 k6 q6) = Z at *
          have hkb : (k : Int) ≤ 218 := by
            have := hltS.out
            have := hn218.out
            have := hns.out
            omega
          go_wp2_with fail
          go_roundw
          case rel => exact ⟨k + 1, by (have := hltS.out; omega), by go_num, hbZ.out, hb4Z.out, hlZ.out, rY.out, _, rZ.out, hoF.out⟩
          case measure => (have := hltS.out; simp [intOf]; omega)
      · obtain rfl : k = n := by omega
        have htk : (tagsL p tn).take k = tagsL p tn := by
          refine List.take_of_length_le ?_
          unfold tagsL
          rw [List.length_map, hns.out]
          exact Nat.le_refl _
        rw [htk] at ho
        obtain ⟨a6, k6, q6, rfl⟩ := own_slc ho
        have m0 := cell_of_row wr _ 0 _ _ _ r4
        have m1 := cell_of_row wr _ 0 _ _ _ r3
        have m2 := frozen_of_row wr (w.heap.size + 1) 0 _ _ r4
        have m3 := frozen_of_row wr (w.heap.size + 1 + 1) 0 _ _ r3
        have hbF := lay ((hb3.setCell (p := ⟨w.heap.size + 1, 0, none⟩) (by simp) (.slice a6 k6 q6)).setCell (p := ⟨w.heap.size + 1 + 1, 0, none⟩) (by first | (simp; done) | (simp; omega)) (.bool true))
        have hoF := lay (own_mono (ownsRow_setCell_below (ownsRow_setCell_below ho (a := ⟨w.heap.size + 1, 0, none⟩) (by have := hs2.out; show w.heap.size + 1 < w2.heap.size; omega) (.slice a6 k6 q6)) (a := ⟨w.heap.size + 1 + 1, 0, none⟩) (by have := hs2.out; show w.heap.size + 1 + 1 < w2.heap.size; omega) (.bool true)) (show w.heap.size ≤ w2.heap.size by have := hs2.out; omega))
        clear r3 r4 ho hl3 hb3 hb4
        go_wp2_with fail
        refine leaves_cons (f := 35) (args := #[.pointer (some ⟨w.heap.size + 1, 0, none⟩), .pointer (some ⟨w.heap.size + 1 + 1, 0, none⟩)]) (by simp) (by simp [go_sem]) ?_
        refine (wt_idle _ _ _).mono ?_
        rintro e u' w'' ⟨rfl, rfl, rfl⟩
        simp [Leaves, settle, results, Tryz.results15, go_sem, m0, m1]
        exact ⟨hoF.out, hbF.out⟩
end Go.Proofs.YtnjdgooljnbebaaGreatDoor
