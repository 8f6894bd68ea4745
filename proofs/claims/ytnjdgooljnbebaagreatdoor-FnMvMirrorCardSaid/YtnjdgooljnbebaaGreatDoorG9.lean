/- CalcMoves where all moves are asked for: the list of the legal moves with their tags, in the engine's order. For every fair position with at most 218 legal moves.
ValidMoves of a position that has none cached: the list of all moves, a copy. For every fair position with at most 218 legal moves.
The parts of a move of the package, and the move as the thin package has it. For every move.
impl.AllTags: the tags of all moves. For every fair position with at most 218 legal moves. -/
import Derived.Test.YtnjdgooljnbebaaGreatDoorG8
import Derived.Test.YtnjdgooljnbebaaGreatDoorG7
import Derived.Test.YtnjdgooljnbebaaGreatDoorGm
namespace Go.Proofs.YtnjdgooljnbebaaGreatDoor
open Go Go.RowKit
set_option maxHeartbeats 8000000
set_option linter.unusedSimpArgs false
set_option linter.unusedVariables false
set_option maxRecDepth 100000

def castN (p : List Int) (tn n : Nat) : List (Mv × Tg) := if engC p tn n = true then [(castMv tn n, tagsOf p tn (castMv tn n) (castT n))] else []
theorem castK_ents (p : List Int) (tn n : Nat) : castK p tn n = ents (castN p tn n) := by
  unfold castK castN
  split <;> rfl
/-- All the engine's moves with their tags, in its order. -/
def fullE (p : List Int) (tn : Nat) : List (Mv × Tg) := lQ p tn 12 ++ (castN p tn 0 ++ castN p tn 1)
theorem castN_map (p : List Int) (tn n : Nat) : (castN p tn n).map (·.1) = castE p tn n := by
  unfold castN castE
  split <;> rfl
theorem full_perm (p : List Int) (tn : Nat) (hF : Fair p tn) : ((fullE p tn).map (·.1)).Perm (legalL p) := by
  unfold fullE legalL pseudoL
  rw [List.filter_append, cast_all p tn hF, List.map_append, List.map_append, castN_map, castN_map]
  exact (lQ_perm p tn hF).append (List.Perm.refl _)
theorem full_nodup (p : List Int) (tn : Nat) (hF : Fair p tn) : ((fullE p tn).map (·.1)).Nodup := by
  have htn := hF.snd.one
  unfold fullE
  refine map_nodup_app (lQ_nodup p tn 12) ?_ ?_
  · rw [List.map_append, castN_map, castN_map]
    unfold castE
    split <;> split
    · have hne : castMv tn 0 ≠ castMv tn 1 := by
        intro e
        have := (mv_eq e).2.1
        unfold cTo at this
        rw [if_pos rfl, if_neg (by decide)] at this
        omega
      simp [hne]
    · simp
    · simp
    · simp
  · intro x hx y hy e
    obtain ⟨q, hq, hqt, hx⟩ := (mem_lQ 12).1 hx
    obtain ⟨a, b, pr, ha, hb, e1, hgo⟩ := lA_at hx
    have hg := ((goes_iff p tn hF q a b hqt ha hb).1 ((goB_iff _ _ _ _ _).1 hgo)).2
    have h1 := castM_no p tn hF a b pr ha hb hg
    rw [← e1, e] at h1
    have h2 : ∀ n, n ≤ 1 → ∀ z ∈ castN p tn n, castM p z.1 = true := by
      intro n hn z hz
      unfold castN at hz
      split at hz
      · rename_i he
        rw [List.mem_singleton] at hz
        subst hz
        exact cast_is p tn n htn (eng_ok p tn hF n hn he)
      · cases hz
    rcases List.mem_append.1 hy with h | h
    · rw [h2 0 (by decide) y h] at h1
      cases h1
    · rw [h2 1 (by decide) y h] at h1
      cases h1
theorem full_len (p : List Int) (tn : Nat) (hF : Fair p tn) : (fullE p tn).length = (legalL p).length := by
  have := (full_perm p tn hF).length_eq
  rwa [List.length_map] at this
theorem wb_calc (p : List Int) (tn : Nat) (hF : Fair p tn) (h218 : (legalL p).length ≤ 218) (pg bg : Nat) (v : Value) (half full : Int) (w : World)
    (hpg : w.heap[pg]? = some (.cells (posW bg (casText (p.getD 65 0)) v half full tn (p.getD 66 0) (checkedB p tn)) 103 (0, 0))) (hbg : w.heap[bg]? = some (.cells (brd p) 144 (0, 0))) (hT : Tabs w) (hA : IntSl w 0 .i8 allL) (hP : IntSl w 1 .i8 [2, 3, 4, 5]) :
    Calls Tryz.prog 66 #[.agg #[], .pointer (some ⟨pg, 0, none⟩), .bool false] w fun e w' => Below w.heap.size w w' ∧ ∃ g c, e = .returned (.slice (some ⟨g, 0, none⟩) (fullE p tn).length c) ∧ (fullE p tn).length ≤ c ∧ w'.rangeAt g 0 (flat (ents (fullE p tn))) := by
  have hpl : pg < w.heap.size := (Array.getElem?_eq_some_iff.1 hpg).1
  have hbl : bg < w.heap.size := (Array.getElem?_eq_some_iff.1 hbg).1
  have hFs := lay hF
  have hcap := lQ_cap p tn hF h218
  obtain ⟨i0, hi, hz0, hz1, hz2⟩ := info_parts (show (Tryz.prog.info? 73).map (fun i => (i.zero, i.size, i.bytes)) = some (some (.agg (mvK 0 0 0 0)), 11, 96) by kernel_rfl)
  obtain ⟨n, hn⟩ : ∃ n, (lQ p tn 12).length = n := ⟨_, rfl⟩
  obtain ⟨olds, holds⟩ : ∃ l, flat (ents (lQ p tn 12)) = l := ⟨_, rfl⟩
  obtain ⟨m, hm⟩ : ∃ m, (castK p tn 0 ++ castK p tn 1).length = m := ⟨_, rfl⟩
  obtain ⟨news, hnews⟩ : ∃ l, flat (castK p tn 0 ++ castK p tn 1) = l := ⟨_, rfl⟩
  have hol : olds.length = n * 11 := by rw [← holds, ents_len, hn, Nat.mul_comm]
  have hck : castK p tn 0 ++ castK p tn 1 = ents (castN p tn 0 ++ castN p tn 1) := by rw [castK_ents, castK_ents, ents_app]
  have hnl : news.length = m * 11 := by
    rw [← hnews, ← hm, hck, ents_len, Nat.mul_comm]
    simp [ents]
  have hflat : Shut (flat (ents (fullE p tn)) = olds ++ news) := by
    show _ = _
    rw [← holds, ← hnews, hck]
    unfold fullE
    rw [ents_app]
    simp [flat]
  have hlenF : Shut ((fullE p tn).length = n + m) := by
    show _ = _
    rw [← hn, ← hm, hck]
    unfold fullE
    simp [ents]
  have hn1c : ∀ u ∈ news, u.oneCell' = true := by
    intro u hu
    rw [← hnews, hck] at hu
    obtain ⟨c, hc, huc⟩ := List.mem_flatMap.1 hu
    have hall := ents_one _ c hc
    rw [← Array.all_toList, List.all_eq_true] at hall
    exact hall u huc
  have hm2 : m ≤ 2 := by
    rw [← hm, List.length_append]
    have l1 : (castK p tn 0).length ≤ 1 := by unfold castK; split <;> simp
    have l2 : (castK p tn 1).length ≤ 1 := by unfold castK; split <;> simp
    omega
  have hn218 : n ≤ 218 := by rw [← hn]; exact hcap
  have hst0 := fun (V : World) (hV : Below w.heap.size w V) => sm_all p tn hF.snd hF.ep (mv_law p tn hF) pg bg (casText (p.getD 65 0)) v half full (checkedB p tn) V ((hV.block pg hpl).trans hpg) ((hV.block bg hbl).trans hbg) (hT.below hV (Nat.le_refl _)) (hA.below hV) (hP.below hV) hcap
  have hca0 := fun (V : World) (hV : Below w.heap.size w V) => wa_castle p tn hF pg bg v half full V ((hV.block pg hpl).trans hpg) ((hV.block bg hbl).trans hbg) (hT.below hV (Nat.le_refl _)) (hA.below hV)
  rw [hn, holds] at hst0
  rw [hm, hnews] at hca0
  have hst := lay hst0
  have hca := lay hca0
  have hn1c := lay hn1c
  rw [hflat.out, hlenF.out]
  clear hpg hbg hst0 hca0 hcap hn holds hm hnews hck h218
  go_enter Tryz.func66, Tryz.ntmps66
  go_wp2_with fail
  have hB0 : Below w.heap.size w (w.alloc (.cells #[] 100)) := (Below.refl _ _).alloc (Nat.le_refl _) _
  change Calls _ _ _ (w.alloc (.cells #[] 100)) _
  generalize w.alloc (.cells #[] 100) = W at *
  refine (hst.out W hB0).mono ?_
  rintro e1 w1 ⟨hb1, g, rfl, hold⟩
  have hB1 := lay (hB0.trans (hb1.mono hB0.size))
  clear hB0 hb1
  have hgl : ∀ j u, olds[j]? = some u → g < w1.heap.size := fun j u hj => World.block_lt_of_cell? w1 _ (hold j u hj)
  have hold := lay hold
  have hgl := lay hgl
  go_wp2_with fail
  refine (hca.out w1 hB1.out).mono ?_
  rintro e2 w2 ⟨hb2, rfl, hr2⟩
  have hB2 := lay (hB1.out.trans (hb2.mono hB1.out.size))
  have hol2 : ∀ j u, olds[j]? = some u → w2.cell? ⟨g, 0 + j, none⟩ = some u := fun j u hj => (hb2.cell (p := ⟨g, 0 + j, none⟩) (hgl.out j u hj)).trans (hold.out j u hj)
  have hol2 := lay hol2
  have hr2 := lay hr2
  clear hb2 hold hgl
  go_wp2_with (refine wpList_append_arg _ rfl _ _ 61 rfl 73 i0 (.agg (mvK 0 0 0 0)) 11 96 Tryz.underlying61 hi hz0 hz1 hz2 rfl (by decide) g 0 n n olds rfl hol hol2.out ⟨w1.heap.size, 0, none⟩ m 2 news rfl hnl (fun j u hj => by rw [Addr.add_mid]; exact hr2.out j u hj) hn1c.out ?s (by unfold maxLen; omega) (by omega) ?r ?g)
  case s =>
    intro h j hj
    exfalso
    omega
  case r =>
    intro h
    obtain rfl : m = 0 := by omega
    obtain rfl : news = [] := List.eq_nil_of_length_eq_zero (by omega)
    go_wp2_with fail
    go_ret
    exact ⟨hB2.out, g, n, rfl, Nat.le_refl _, by rw [List.append_nil]; exact hol2.out⟩
  case g =>
    intro h v' w3 hown hgr
    have hB3 := lay ((hB2.out).grown hgr hB2.out.size (fun k hk => by cases hk))
    obtain ⟨hn3, ⟨rfl, h0⟩ | ⟨q, cap, cur, rfl, _, hq, hnc, _, hcs, htk⟩⟩ := hown
    · exfalso
      omega
    · have hr3 : Shut (w3.rangeAt q 0 (olds ++ news)) := by
        intro j u hj
        rw [← htk] at hj
        rw [Nat.zero_add, cell_of_row w3 q j _ _ _ hq]
        rw [List.getElem?_take] at hj
        split at hj
        · rw [← Array.getElem?_toList]
          exact hj
        · cases hj
      have hnc := lay hnc
      clear hgr hn3 hq hcs htk
      go_wp2_with fail
      go_ret
      exact ⟨hB3.out, q, cap, rfl, hnc.out, hr3.out⟩
end Go.Proofs.YtnjdgooljnbebaaGreatDoor
namespace Go.Proofs.YtnjdgooljnbebaaGreatDoor
open Go Go.RowKit
set_option maxHeartbeats 8000000
set_option linter.unusedSimpArgs false
set_option linter.unusedVariables false
set_option maxRecDepth 100000

theorem run_append_zero {P : Program} (w : World) (t ty e : TypeId) (i : TypeInfo) (ht : P.underlying t = some (.slice e)) (hi : P.info? e = some i) (a : Addr) (c : Nat) :
    (Builtin.append_ #[t, t] ty #[.slice none 0 0, .slice (some a) 0 c]).run P w = .ok (.slice none 0 0) w := by
  have hfc := run_firstCells_some (P := P) w i.size 0 a 0 c [] (by simp) (by simp)
  simp [Builtin.append_, run_underlying ht, sizeOf, typeInfo, hi, Builtin.lenOf, hfc]
theorem at_append_zero {P : Program} {w : World} {ops : Array Oper} {rest : List Oper} {a : Act} {Q : Exit → Act → World → Prop} {d : Option Tmp} {x y : Operand} {ty t : TypeId} {ps : String} {af : Array Edge} (e : TypeId) (i : TypeInfo)
    (ht : P.underlying t = some (.slice e)) (hi : P.info? e = some i) (sp : Addr) (c : Nat) (hx : a.eval x = .slice none 0 0) (hy : a.eval y = .slice (some sp) 0 c)
    (h : wpList P ops Q rest (a.put d (.slice none 0 0)) w) : wpList P ops Q ({ dst := d, op := .call { callee := .builtin .append, args := #[x, y], argTypes := #[t, t] }, type := ty, pos := ps, after := af, guard := none } :: rest) a w := by
  refine wpList_plain rfl fun K hK => ?_
  have hrun := run_append_zero (P := P) w t ty e i ht hi sp c
  unfold Oper.wp
  simp [execOp, resolve, invoke, builtin, hx, hy, hrun, Result.andThen]
  exact hK _ _ h
/-- The list of all moves lies where a slice says. -/
def Moved (p : List Int) (tn : Nat) (u : Value) (w : World) : Prop := ((fullE p tn).length = 0 ∧ u = .slice none 0 0) ∨ ∃ g c, u = .slice (some ⟨g, 0, none⟩) (fullE p tn).length c ∧ w.rangeAt g 0 (flat (ents (fullE p tn)))
theorem wv_valid (p : List Int) (tn : Nat) (hF : Fair p tn) (h218 : (legalL p).length ≤ 218) (pg bg : Nat) (half full : Int) (w : World)
    (hpg : w.heap[pg]? = some (.cells (posW bg (casText (p.getD 65 0)) (.slice none 0 0) half full tn (p.getD 66 0) (checkedB p tn)) 103 (0, 0))) (hbg : w.heap[bg]? = some (.cells (brd p) 144 (0, 0))) (hne : bg ≠ pg) (hT : Tabs w) (hA : IntSl w 0 .i8 allL) (hP : IntSl w 1 .i8 [2, 3, 4, 5]) :
    Calls Tryz.prog 33 #[.pointer (some ⟨pg, 0, none⟩)] w fun e w' => ∃ u, e = .returned u ∧ Moved p tn u w' ∧ (∃ v2, w'.heap[pg]? = some (.cells (posW bg (casText (p.getD 65 0)) v2 half full tn (p.getD 66 0) (checkedB p tn)) 103 (0, 0))) ∧ w'.heap[bg]? = some (.cells (brd p) 144 (0, 0)) ∧ (∀ j, j < w.heap.size → j ≠ pg → w'.heap[j]? = w.heap[j]?) ∧ ∀ B a, B ≤ pg → B ≤ w.heap.size → Below B a w → Below B a w' := by
  have hpl : pg < w.heap.size := (Array.getElem?_eq_some_iff.1 hpg).1
  have hbl : bg < w.heap.size := (Array.getElem?_eq_some_iff.1 hbg).1
  obtain ⟨i0, hi, hz0, hz1, hz2⟩ := info_parts (show (Tryz.prog.info? 73).map (fun i => (i.zero, i.size, i.bytes)) = some (some (.agg (mvK 0 0 0 0)), 11, 96) by kernel_rfl)
  have hcal := lay (wb_calc p tn hF h218 pg bg (.slice none 0 0) half full w hpg hbg hT hA hP)
  have hln : Shut ((fullE p tn).length ≤ 218) := by show _ ≤ _; rw [full_len p tn hF]; exact h218
  have hrow := lay hpg
  have hbrd := lay hbg
  have c2 : w.cell? ⟨pg, 2, none⟩ = some (.slice none 0 0) := cell_of_row w pg 2 _ _ _ hpg
  have hflen : Shut ((flat (ents (fullE p tn))).length = (fullE p tn).length * 11) := by show _ = _; rw [ents_len, Nat.mul_comm]
  have hone : Shut (∀ u ∈ flat (ents (fullE p tn)), u.oneCell' = true) := by
    intro u hu
    obtain ⟨c, hc, huc⟩ := List.mem_flatMap.1 hu
    have hall := ents_one _ c hc
    rw [← Array.all_toList, List.all_eq_true] at hall
    exact hall u huc
  have hfirst0 : 0 < (fullE p tn).length → (flat (ents (fullE p tn)))[0]? = some (.pointer none) := by
    intro h
    cases hf : fullE p tn with
    | nil => rw [hf] at h; simp at h
    | cons x l => rfl
  unfold Moved
  obtain ⟨m, hm⟩ : ∃ m, (fullE p tn).length = m := ⟨_, rfl⟩
  obtain ⟨ls, hls⟩ : ∃ l, flat (ents (fullE p tn)) = l := ⟨_, rfl⟩
  rw [hm, hls] at hcal hflen
  rw [hm] at hln
  rw [hm, hls] at hfirst0
  have hfirst := lay hfirst0
  rw [hls] at hone
  rw [hm, hls]
  clear hfirst0 hpg hbg hm hls h218 hT hA hP hF
  go_enter Tryz.func33, Tryz.ntmps33
  go_wp2_with fail
  refine hcal.out.mono ?_
  rintro e1 w1 ⟨hb1, g, c, rfl, hmc, hr1⟩
  have hp1 : w1.heap[pg]? = some (.cells (posW bg (casText (p.getD 65 0)) (.slice none 0 0) half full tn (p.getD 66 0) (checkedB p tn)) 103 (0, 0)) := (hb1.block pg hpl).trans hrow.out
  have hbd1 : w1.heap[bg]? = some (.cells (brd p) 144 (0, 0)) := (hb1.block bg hbl).trans hbrd.out
  have k2 : w1.cell? ⟨pg, 2, none⟩ = some (.slice none 0 0) := cell_of_row w1 pg 2 _ _ _ hp1
  have f2 := frozen_of_row w1 pg 2 _ _ hp1
  have hp2 : Shut ((w1.setCell ⟨pg, 2, none⟩ (.slice (some ⟨g, 0, none⟩) m c)).heap[pg]? = some (.cells (posW bg (casText (p.getD 65 0)) (.slice (some ⟨g, 0, none⟩) m c) half full tn (p.getD 66 0) (checkedB p tn)) 103 (0, 0))) := heap_setCell_same w1 pg 2 _ _ _ hp1
  have hbd2 : Shut ((w1.setCell ⟨pg, 2, none⟩ (.slice (some ⟨g, 0, none⟩) m c)).heap[bg]? = some (.cells (brd p) 144 (0, 0))) := (heap_setCell_other _ _ _ _ hne).trans hbd1
  have hO2 : Shut (∀ j, j < w.heap.size → j ≠ pg → (w1.setCell ⟨pg, 2, none⟩ (.slice (some ⟨g, 0, none⟩) m c)).heap[j]? = w.heap[j]?) := fun j hj hjp => (heap_setCell_other _ _ _ _ hjp).trans (hb1.block j hj)
  have hr2 : Shut ((w1.setCell ⟨pg, 2, none⟩ (.slice (some ⟨g, 0, none⟩) m c)).rangeAt g 0 ls) := by
    intro j u hj
    have hjl : j < ls.length := (List.getElem?_eq_some_iff.1 hj).1
    have hm0 : 0 < m := by
      have := hflen.out
      omega
    have hgp : g ≠ pg := by
      intro e
      have h1 := hr1 0 _ (hfirst.out hm0)
      rw [e, cell_of_row w1 pg (0 + 0) _ _ _ hp1] at h1
      have h2 : (some (Value.pointer (some ⟨bg, 0, none⟩)) : Option Value) = some (.pointer none) := h1
      injection h2 with h3
      injection h3 with h4
      cases h4
    have h1 := hr1 j u hj
    unfold World.cell? at h1 ⊢
    rw [heap_setCell_other _ _ _ _ hgp]
    exact h1
  have hK2 : Shut (∀ B a, B ≤ pg → B ≤ w.heap.size → Below B a w → Below B a (w1.setCell ⟨pg, 2, none⟩ (.slice (some ⟨g, 0, none⟩) m c))) := fun B a hB hs hb => (hb.trans (hb1.mono hs)).setCell (p := ⟨pg, 2, none⟩) hB _
  have hs2 : Shut (w.heap.size ≤ (w1.setCell ⟨pg, 2, none⟩ (.slice (some ⟨g, 0, none⟩) m c)).heap.size) := by
    show _ ≤ _
    have := hb1.size
    simp
    omega
  have hb1 := lay hb1
  clear hr1 hbd1 hp1 c2
  go_upto_region 4 with fail
  clear k2 f2
  generalize w1.setCell ⟨pg, 2, none⟩ (.slice (some ⟨g, 0, none⟩) m c) = W2 at *
  have c2 : W2.cell? ⟨pg, 2, none⟩ = some (.slice (some ⟨g, 0, none⟩) m c) := cell_of_row W2 pg 2 _ _ _ hp2.out
  by_cases h0 : m = 0
  · subst h0
    obtain rfl : ls = [] := List.eq_nil_of_length_eq_zero (by have := hflen.out; omega)
    go_wp2_with ((with_reducible refine at_append_zero 73 i0 Tryz.underlying61 hi ⟨g, 0, none⟩ c ?_ ?_ ?_); rfl; rfl)
    go_ret
    exact ⟨_, rfl, Or.inl rfl, ⟨_, hp2.out⟩, hbd2.out, hO2.out, hK2.out⟩
  · have hln2 := hln.out
    go_wp2_with (refine wpList_append_grows _ rfl _ _ 61 rfl 73 i0 (.agg (mvK 0 0 0 0)) 11 96 Tryz.underlying61 hi hz0 hz1 hz2 rfl (by decide) none 0 0 [] rfl (fun _ => ⟨rfl, rfl⟩) rfl (fun b hb => by cases hb) ⟨g, 0, none⟩ m c ls rfl hflen.out (fun j u hj => by rw [Addr.add_mid]; exact hr2.out j u hj) hone.out (by omega) (by unfold maxLen; omega) (by omega) ?g)
    case g =>
      intro v' w3 hown hgr
      obtain ⟨hn3, ⟨rfl, hz⟩ | ⟨q, cap, cur, rfl, hqg, hq, hnc, _, hcs, htk⟩⟩ := hown
      · exfalso
        omega
      · have hr3 : Shut (w3.rangeAt q 0 ls) := by
          intro j u hj
          rw [← htk] at hj
          rw [Nat.zero_add, cell_of_row w3 q j _ _ _ hq]
          rw [List.getElem?_take] at hj
          split at hj
          · rw [← Array.getElem?_toList]
            exact hj
          · cases hj
        have hp3 : Shut (w3.heap[pg]? = some (.cells (posW bg (casText (p.getD 65 0)) (.slice (some ⟨g, 0, none⟩) m c) half full tn (p.getD 66 0) (checkedB p tn)) 103 (0, 0))) := (hgr.block pg (Array.getElem?_eq_some_iff.1 hp2.out).1 (by simp)).trans hp2.out
        have hbd3 : Shut (w3.heap[bg]? = some (.cells (brd p) 144 (0, 0))) := (hgr.block bg (Array.getElem?_eq_some_iff.1 hbd2.out).1 (by simp)).trans hbd2.out
        have hO3 : Shut (∀ j, j < w.heap.size → j ≠ pg → w3.heap[j]? = w.heap[j]?) := fun j hj hjp => (hgr.block j (Nat.lt_of_lt_of_le hj hs2.out) (by simp)).trans (hO2.out j hj hjp)
        have hK3 : Shut (∀ B a, B ≤ pg → B ≤ w.heap.size → Below B a w → Below B a w3) := fun B a hB hs hb => (hK2.out B a hB hs hb).grown hgr (Nat.le_trans hs hs2.out) (fun k hk => by cases hk)
        clear hgr hn3 hq hcs htk
        go_wp2_with fail
        go_ret
        exact ⟨_, rfl, Or.inr ⟨q, cap, rfl, hr3.out⟩, ⟨_, hp3.out⟩, hbd3.out, hO3.out, hK3.out⟩
end Go.Proofs.YtnjdgooljnbebaaGreatDoor
namespace Go.Proofs.YtnjdgooljnbebaaGreatDoor
open Go Go.RowKit
set_option maxHeartbeats 4000000
set_option linter.unusedSimpArgs false
set_option linter.unusedVariables false
set_option maxRecDepth 100000

theorem wp_S1 (g : Nat) (t a b pr : Int) (w : World) (hg : MvAt g t a b pr w) :
    Calls Tryz.prog 67 #[.pointer (some ⟨g, 0, none⟩)] w fun e w' => e = .returned (.int .i8 a) ∧ w = w' := by
  have c := hg.c8
  clear hg
  go_enter Tryz.func67, Tryz.ntmps67
  go_wp2
  go_ret
  exact ⟨rfl, rfl⟩
theorem wp_S2 (g : Nat) (t a b pr : Int) (w : World) (hg : MvAt g t a b pr w) :
    Calls Tryz.prog 68 #[.pointer (some ⟨g, 0, none⟩)] w fun e w' => e = .returned (.int .i8 b) ∧ w = w' := by
  have c := hg.c9
  clear hg
  go_enter Tryz.func68, Tryz.ntmps68
  go_wp2
  go_ret
  exact ⟨rfl, rfl⟩
theorem wp_Promo (g : Nat) (t a b pr : Int) (w : World) (hg : MvAt g t a b pr w) :
    Calls Tryz.prog 69 #[.pointer (some ⟨g, 0, none⟩)] w fun e w' => e = .returned (.int .i8 pr) ∧ w = w' := by
  have c := hg.c10
  clear hg
  go_enter Tryz.func69, Tryz.ntmps69
  go_wp2
  go_ret
  exact ⟨rfl, rfl⟩
end Go.Proofs.YtnjdgooljnbebaaGreatDoor
namespace Go.Proofs.YtnjdgooljnbebaaGreatDoor
open Go Go.RowKit
set_option maxHeartbeats 8000000
set_option linter.unusedSimpArgs false
set_option linter.unusedVariables false
set_option maxRecDepth 100000

theorem eng_ne {p : List Int} {tn pg bg : Nat} {w : World} (h : EngPos p tn pg bg w) : bg ≠ pg := by
  intro e
  have h1 := h.bd
  rw [e, h.ps] at h1
  injection h1 with h2
  injection h2 with _ h3 _
  exact absurd h3 (by decide)
theorem flat_get : ∀ (L : List (Array Value)), (∀ c ∈ L, c.size = 11) → ∀ k c, L[k]? = some c → ∀ j, j < 11 → (flat L)[k * 11 + j]? = c.toList[j]?
  | [], _, k, c, h, _, _ => by simp at h
  | x :: L, hL, k, c, h, j, hj => by
    have hx : x.toList.length = 11 := by rw [Array.length_toList]; exact hL x List.mem_cons_self
    have e : flat (x :: L) = x.toList ++ flat L := rfl
    rw [e]
    cases k with
    | zero =>
      have hxc : x = c := by simpa using h
      subst hxc
      rw [Nat.zero_mul, Nat.zero_add, List.getElem?_append_left (by omega)]
    | succ k =>
      rw [List.getElem?_append_right (by omega), hx, show (k + 1) * 11 + j - 11 = k * 11 + j by omega]
      exact flat_get L (fun q hq => hL q (List.mem_cons_of_mem _ hq)) k c (by simpa using h) j hj
/-- One entry of a list that lies in a block. -/
theorem range_ent {w : World} {g : Nat} {l : List (Mv × Tg)} (h : w.rangeAt g 0 (flat (ents l))) (k : Nat) (x : Mv × Tg) (hx : l[k]? = some x) : w.rangeAt g (k * 11) (entK x).toList := by
  intro j u hj
  have hj11 : j < 11 := by
    have := (List.getElem?_eq_some_iff.1 hj).1
    exact this
  have hf := flat_get (ents l) (ents_size l) k (entK x) (by unfold ents; rw [List.getElem?_map, hx]; rfl) j hj11
  rw [hj] at hf
  have := h _ _ hf
  rwa [Nat.zero_add] at this
theorem own_slc {w : World} {base : Nat} {e : TypeId} {size : Nat} {v : Value} {n : Nat} {xs : List Value} (h : w.ownsRow base e size v n xs) : ∃ a k c, v = .slice a k c := by
  obtain ⟨_, ⟨rfl, _⟩ | ⟨g, cap, cur, rfl, _⟩⟩ := h
  · exact ⟨_, _, _, rfl⟩
  · exact ⟨_, _, _, rfl⟩
theorem meets {X G : Prop} (h : Shut X → G) (x : X) : G := h x
end Go.Proofs.YtnjdgooljnbebaaGreatDoor
