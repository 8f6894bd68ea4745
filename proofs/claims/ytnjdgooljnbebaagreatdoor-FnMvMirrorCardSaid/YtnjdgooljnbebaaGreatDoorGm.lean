/- CalcMoves where one move is asked for, and the status of a position. For every fair position.
FnMvStatus: impl.Status and the law. For every position. -/
import Derived.ArgAppend
import Derived.Test.YtnjdgooljnbebaaGreatDoorG5
import Derived.Test.YtnjdgooljnbebaaGreatDoorG6
import Derived.Test.YtnjdgooljnbebaaGreatDoorGl
namespace Go.Proofs.YtnjdgooljnbebaaGreatDoor
open Go Go.RowKit
set_option maxHeartbeats 8000000
set_option linter.unusedSimpArgs false
set_option linter.unusedVariables false
set_option maxRecDepth 100000

theorem wa_castle (p : List Int) (tn : Nat) (hF : Fair p tn) (pg bg : Nat) (v : Value) (half full : Int) (w : World)
    (hpg : w.heap[pg]? = some (.cells (posW bg (casText (p.getD 65 0)) v half full tn (p.getD 66 0) (checkedB p tn)) 103 (0, 0))) (hbg : w.heap[bg]? = some (.cells (brd p) 144 (0, 0))) (hT : Tabs w) (hA : IntSl w 0 .i8 allL) :
    Calls Tryz.prog 101 #[.pointer (some ⟨pg, 0, none⟩)] w fun e w' => Below w.heap.size w w' ∧ e = .returned (.slice (some ⟨w.heap.size, 0, none⟩) (castK p tn 0 ++ castK p tn 1).length 2) ∧ w'.rangeAt w.heap.size 0 (flat (castK p tn 0 ++ castK p tn 1)) := by
  have htn := hF.snd.one
  obtain rfl | rfl : tn = 0 ∨ tn = 1 := by omega
  · exact vk_castle0 p hF pg bg v half full w hpg hbg hT hA
  · exact vk_castle1 p hF pg bg v half full w hpg hbg hT hA
/-- What standardMoves hands back, as cells. -/
theorem wa_std (p : List Int) (tn : Nat) (hF : Fair p tn) (pg bg : Nat) (cas : ByteArray) (v : Value) (half full : Int) (chk : Bool) (w : World)
    (hpg : w.heap[pg]? = some (.cells (posW bg cas v half full tn (p.getD 66 0) chk) 103 (0, 0))) (hbg : w.heap[bg]? = some (.cells (brd p) 144 (0, 0))) (hT : Tabs w) (hA : IntSl w 0 .i8 allL) (hP : IntSl w 1 .i8 [2, 3, 4, 5]) :
    Calls Tryz.prog 100 #[.pointer (some ⟨pg, 0, none⟩), .bool true] w fun e w' => Below w.heap.size w w' ∧ ∃ g n, e = .returned (.slice (some ⟨g, 0, none⟩) n n) ∧ n ≤ 1 ∧ (∃ olds : List Value, olds.length = n * 11 ∧ w'.rangeAt g 0 olds) ∧ (0 < n + (castK p tn 0 ++ castK p tn 1).length ↔ 0 < (legalL p).length) := by
  refine (sm_std p tn hF.snd hF.ep (mv_law p tn hF) pg bg cas v half full chk w hpg hbg hT hA hP).mono ?_
  rintro e w' ⟨hb, g, n, rfl, h⟩
  refine ⟨hb, g, n, rfl, ?_⟩
  rcases h with ⟨rfl, q, a, b, hq1, hq, ha, hb2, hgo, hk, t, a', b', pr, hr⟩ | ⟨rfl, hn⟩
  · refine ⟨Nat.le_refl _, ⟨_, rfl, hr⟩, ?_⟩
    have hm := std_some p tn hF q a b hq ha hb2 hgo hk
    have : 0 < (legalL p).length := List.length_pos_of_mem hm
    omega
  · refine ⟨by omega, ⟨[], rfl, fun j u hj => by cases hj⟩, ?_⟩
    rw [std_none p tn hF hn, cast_all p tn hF, List.length_append, List.length_append, castK_len, castK_len]
    omega
theorem wa_calc (p : List Int) (tn : Nat) (hF : Fair p tn) (pg bg : Nat) (v : Value) (half full : Int) (w : World)
    (hpg : w.heap[pg]? = some (.cells (posW bg (casText (p.getD 65 0)) v half full tn (p.getD 66 0) (checkedB p tn)) 103 (0, 0))) (hbg : w.heap[bg]? = some (.cells (brd p) 144 (0, 0))) (hT : Tabs w) (hA : IntSl w 0 .i8 allL) (hP : IntSl w 1 .i8 [2, 3, 4, 5]) :
    Calls Tryz.prog 66 #[.agg #[], .pointer (some ⟨pg, 0, none⟩), .bool true] w fun e w' => Below w.heap.size w w' ∧ ∃ a n c, e = .returned (.slice a n c) ∧ (0 < n ↔ 0 < (legalL p).length) := by
  have hpl : pg < w.heap.size := (Array.getElem?_eq_some_iff.1 hpg).1
  have hbl : bg < w.heap.size := (Array.getElem?_eq_some_iff.1 hbg).1
  have hFs := lay hF
  obtain ⟨i0, hi, hz0, hz1, hz2⟩ := info_parts (show (Tryz.prog.info? 73).map (fun i => (i.zero, i.size, i.bytes)) = some (some (.agg (mvK 0 0 0 0)), 11, 96) by kernel_rfl)
  have hst := lay (fun (V : World) (hV : Below w.heap.size w V) => wa_std p tn hF pg bg (casText (p.getD 65 0)) v half full (checkedB p tn) V ((hV.block pg hpl).trans hpg) ((hV.block bg hbl).trans hbg) (hT.below hV (Nat.le_refl _)) (hA.below hV) (hP.below hV))
  have hca := lay (fun (V : World) (hV : Below w.heap.size w V) => wa_castle p tn hF pg bg v half full V ((hV.block pg hpl).trans hpg) ((hV.block bg hbl).trans hbg) (hT.below hV (Nat.le_refl _)) (hA.below hV))
  clear hpg hbg
  go_enter Tryz.func66, Tryz.ntmps66
  go_wp2_with fail
  have hB0 : Below w.heap.size w (w.alloc (.cells #[] 100)) := (Below.refl _ _).alloc (Nat.le_refl _) _
  change Calls _ _ _ (w.alloc (.cells #[] 100)) _
  generalize w.alloc (.cells #[] 100) = W at *
  refine (hst.out W hB0).mono ?_
  rintro e1 w1 ⟨hb1, g, n, rfl, hn1, ⟨olds, hlo, hold⟩, hcount⟩
  have hB1 := lay (hB0.trans (hb1.mono hB0.size))
  clear hB0 hb1
  have hgl : ∀ j u, olds[j]? = some u → g < w1.heap.size := fun j u hj => World.block_lt_of_cell? w1 _ (hold j u hj)
  obtain ⟨m, hm⟩ : ∃ m, (castK p tn 0 ++ castK p tn 1).length = m := ⟨_, rfl⟩
  obtain ⟨news, hnews⟩ : ∃ l, flat (castK p tn 0 ++ castK p tn 1) = l := ⟨_, rfl⟩
  have hnl : news.length = m * 11 := by
    rw [← hnews, ← hm, flat_len]
    · omega
    · intro c hc
      rcases List.mem_append.1 hc with h | h
      · exact (castK_size p tn 0 c h).1
      · exact (castK_size p tn 1 c h).1
  have hn1c : ∀ u ∈ news, u.oneCell' = true := by
    intro u hu
    rw [← hnews] at hu
    obtain ⟨c, hc, huc⟩ := List.mem_flatMap.1 hu
    have hall : c.all (·.oneCell') = true := by
      rcases List.mem_append.1 hc with h | h
      · exact (castK_size p tn 0 c h).2
      · exact (castK_size p tn 1 c h).2
    rw [← Array.all_toList, List.all_eq_true] at hall
    exact hall u huc
  have hm2 : m ≤ 2 := by
    rw [← hm, List.length_append]
    have l1 : (castK p tn 0).length ≤ 1 := by unfold castK; split <;> simp
    have l2 : (castK p tn 1).length ≤ 1 := by unfold castK; split <;> simp
    omega
  have hcs := hca.out
  rw [hm] at hcount
  rw [hm, hnews] at hcs
  have hcs := lay hcs
  have hcount := lay hcount
  have hold := lay hold
  have hgl := lay hgl
  have hn1c := lay hn1c
  clear hm hnews hca
  go_wp2_with fail
  refine (hcs.out w1 hB1.out).mono ?_
  rintro e2 w2 ⟨hb2, rfl, hr2⟩
  have hB2 := lay (hB1.out.trans (hb2.mono hB1.out.size))
  have hol2 : ∀ j u, olds[j]? = some u → w2.cell? ⟨g, 0 + j, none⟩ = some u := fun j u hj => (hb2.cell (p := ⟨g, 0 + j, none⟩) (hgl.out j u hj)).trans (hold.out j u hj)
  have hol2 := lay hol2
  have hr2 := lay hr2
  clear hb2 hold hgl
  go_wp2_with (refine wpList_append_arg _ rfl _ _ 61 rfl 73 i0 (.agg (mvK 0 0 0 0)) 11 96 Tryz.underlying61 hi hz0 hz1 hz2 rfl (by decide) g 0 n n olds rfl hlo hol2.out ⟨w1.heap.size, 0, none⟩ m 2 news rfl hnl (fun j u hj => by rw [Addr.add_mid]; exact hr2.out j u hj) hn1c.out ?s (by unfold maxLen; omega) (by omega) ?r ?g)
  case s =>
    intro h j hj
    exfalso
    omega
  case r =>
    intro h
    obtain rfl : m = 0 := by omega
    obtain rfl : news = [] := List.eq_nil_of_length_eq_zero (by omega)
    go_wp2_with fail
    go_ret
    exact ⟨hB2.out, _, _, _, rfl, hcount.out⟩
  case g =>
    intro h v' w3 hown hgr
    have hB3 := lay ((hB2.out).grown hgr hB2.out.size (fun k hk => by cases hk))
    obtain ⟨hn3, ⟨rfl, h0⟩ | ⟨q, cap, cur, rfl, _⟩⟩ := hown
    · exfalso
      omega
    · clear hgr hn3
      go_wp2_with fail
      go_ret
      exact ⟨hB3.out, _, _, _, rfl, hcount.out⟩
/-- The status as the program tells it. -/
def statN (p : List Int) (tn : Nat) : Int := if 0 < (legalL p).length then 0 else if checkedB p (tn : Int) = true then 1 else 4
theorem wa_status (p : List Int) (tn : Nat) (hF : Fair p tn) (pg bg : Nat) (half full : Int) (w : World)
    (hpg : w.heap[pg]? = some (.cells (posW bg (casText (p.getD 65 0)) (.slice none 0 0) half full tn (p.getD 66 0) (checkedB p tn)) 103 (0, 0))) (hbg : w.heap[bg]? = some (.cells (brd p) 144 (0, 0))) (hT : Tabs w) (hA : IntSl w 0 .i8 allL) (hP : IntSl w 1 .i8 [2, 3, 4, 5]) :
    Calls Tryz.prog 64 #[.agg #[], .pointer (some ⟨pg, 0, none⟩)] w fun e w' => Below w.heap.size w w' ∧ e = .returned (.int .u8 (statN p tn)) := by
  have hpl : pg < w.heap.size := (Array.getElem?_eq_some_iff.1 hpg).1
  have hbl : bg < w.heap.size := (Array.getElem?_eq_some_iff.1 hbg).1
  have hca := lay (fun (V : World) (hV : Below w.heap.size w V) => wa_calc p tn hF pg bg (.slice none 0 0) half full V ((hV.block pg hpl).trans hpg) ((hV.block bg hbl).trans hbg) (hT.below hV (Nat.le_refl _)) (hA.below hV) (hP.below hV))
  have hcell := lay (fun (V : World) (hV : Below w.heap.size w V) => show V.cell? ⟨pg, 2, none⟩ = some (.slice none 0 0) ∧ V.cell? ⟨pg, 7, none⟩ = some (.bool (checkedB p tn)) from ⟨cell_of_row V pg 2 _ _ _ ((hV.block pg hpl).trans hpg), cell_of_row V pg 7 _ _ _ ((hV.block pg hpl).trans hpg)⟩)
  have c2 := (hcell.out w (Below.refl _ _)).1
  clear hpg hbg
  go_enter Tryz.func64, Tryz.ntmps64
  go_wp2_with fail
  have hB0 : Below w.heap.size w (w.alloc (.cells #[] 100)) := (Below.refl _ _).alloc (Nat.le_refl _) _
  change Calls _ _ _ (w.alloc (.cells #[] 100)) _
  generalize w.alloc (.cells #[] 100) = W at *
  refine (hca.out W hB0).mono ?_
  rintro e1 w1 ⟨hb1, a, n, c, rfl, hcount⟩
  have hB1 := lay (hB0.trans (hb1.mono hB0.size))
  have c7 := (hcell.out w1 hB1.out).2
  clear hB0 hb1 c2
  by_cases h0 : 0 < n
  · have hz : Shut (statN p tn = 0) := by show _ = _; unfold statN; rw [if_pos (hcount.1 h0)]
    have h0z : (n : Int) > 0 := by omega
    clear hcount
    generalize checkedB p (tn : Int) = ck at *
    cases ck with
    | false =>
      go_wp2_with fail
      go_ret
      exact ⟨hB1.out, by rw [hz.out]; rfl⟩
    | true =>
      go_wp2_with fail
      go_ret
      exact ⟨hB1.out, by rw [hz.out]; rfl⟩
  · have hz : Shut (statN p tn = if checkedB p (tn : Int) = true then 1 else 4) := by show _ = _; unfold statN; rw [if_neg (fun h => h0 (hcount.2 h))]
    obtain rfl : n = 0 := by omega
    clear hcount h0
    generalize checkedB p (tn : Int) = ck at *
    cases ck with
    | false =>
      go_wp2_with fail
      go_ret
      exact ⟨hB1.out, by rw [hz.out]; rfl⟩
    | true =>
      go_wp2_with fail
      go_ret
      exact ⟨hB1.out, by rw [hz.out]; rfl⟩
theorem wa_pos (p : List Int) (tn : Nat) (hF : Fair p tn) (pg bg : Nat) (half full : Int) (w : World)
    (hpg : w.heap[pg]? = some (.cells (posW bg (casText (p.getD 65 0)) (.slice none 0 0) half full tn (p.getD 66 0) (checkedB p tn)) 103 (0, 0))) (hbg : w.heap[bg]? = some (.cells (brd p) 144 (0, 0))) (hT : Tabs w) (hA : IntSl w 0 .i8 allL) (hP : IntSl w 1 .i8 [2, 3, 4, 5]) :
    Calls Tryz.prog 30 #[.pointer (some ⟨pg, 0, none⟩)] w fun e w' => Below w.heap.size w w' ∧ e = .returned (.int .u8 (statN p tn)) := by
  have hst := lay (wa_status p tn hF pg bg half full w hpg hbg hT hA hP)
  clear hpg hbg
  go_enter Tryz.func30, Tryz.ntmps30
  go_wp2_with fail
  refine hst.out.mono ?_
  rintro e1 w1 ⟨hb1, rfl⟩
  go_wp2_with fail
  go_ret
  exact ⟨hb1, rfl⟩
end Go.Proofs.YtnjdgooljnbebaaGreatDoor
namespace Go.Proofs.YtnjdgooljnbebaaGreatDoor
open Go Go.RowKit
set_option maxHeartbeats 4000000
set_option linter.unusedSimpArgs false
set_option linter.unusedVariables false
set_option maxRecDepth 100000

theorem ws_idle (p q : Addr) (w : World) :
    CallsD Tryz.prog 28 #[.pointer (some p), .pointer (some q)] .returning w fun e u' w' => e = .returned (.tuple #[]) ∧ u' = .returning ∧ w = w' := by
  refine callsD_of_wpS Tryz.func28 rfl fun c₀ cs hu => ?_
  apply wpS_seq
  apply wpS_region
  simp [wpOpsS, go_sem, recoverD, hu, Tryz.ntmps28, Exit.thenS]
  refine wpS_cond (t := false) (by simp [Act.eval, Array.replicate]) ?_
  simp only [Bool.false_eq_true, if_false]
  refine wpS_of_wp (wp_skip ?_)
  cases c₀
  simp_all [bodyPostS, results, Tryz.results28]
/-- A position as an argument, and two variables of one cell behind it. -/
def wsW (w : World) (p : List Int) (x y : Value) (tx ty : TypeId) : World := ((w.alloc (.cells (ints p) 24)).alloc (.cells #[x] tx)).alloc (.cells #[y] ty)
theorem wsW_rows (w : World) (p : List Int) (x y : Value) (tx ty : TypeId) : PosAt p w.heap.size (wsW w p x y tx ty) ∧ (wsW w p x y tx ty).heap[w.heap.size + 1]? = some (.cells #[x] tx (0, 0)) ∧
    (wsW w p x y tx ty).heap[w.heap.size + 1 + 1]? = some (.cells #[y] ty (0, 0)) ∧ Below w.heap.size w (wsW w p x y tx ty) ∧ (wsW w p x y tx ty).heap.size = w.heap.size + 3 := by
  refine ⟨heap_keep (heap_alloc2_old w _ _), heap_keep (heap_alloc2_new w _ _), heap_at _ _ _ (by simp), ?_, by simp [wsW]⟩
  exact (((Below.refl _ _).alloc (Nat.le_refl _) _).alloc (by simp) _).alloc (by simp; omega) _
theorem ws_impl (p : List Int) (tn : Nat) (hF : Fair p tn) (hh : p.getD 67 0 ≤ 1000000) (hf : p.getD 68 0 ≤ 1000000) (sn : Int) (hsn : statN p tn = sn) (h3 : sn = 0 ∨ sn = 1 ∨ sn = 4) (w : World) (hT : Tabs w) (hA : IntSl w 0 .i8 allL) (hP : IntSl w 1 .i8 [2, 3, 4, 5]) :
    Calls Tryz.prog 10 #[.agg (ints p)] w fun e w' => e = .returned (.tuple #[.int .i64 sn, .bool true]) ∧ Below w.heap.size w w' := by
  have hl := hF.snd.pos.len
  have hmf := makeFunc_run Tryz.prog
  obtain ⟨hr0, hr1, hr2, hBW, hsz⟩ := wsW_rows w p (.int .i64 0) (.bool false) 3 4
  have hr0' : (wsW w p (.int .i64 0) (.bool false) 3 4).heap[w.heap.size]? = some (.cells (ints p) 24 (0, 0)) := hr0
  have hpz := lay (pz_position p tn hF.snd hh hf (wsW w p (.int .i64 0) (.bool false) 3 4) (hT.below hBW (Nat.le_refl _)) (hA.below hBW))
  have hTb := lay (fun (V : World) (hV : Below w.heap.size w V) => hT.below hV (Nat.le_refl _))
  have hAb := lay (fun (V : World) (hV : Below w.heap.size w V) => hA.below hV)
  have hPb := lay (fun (V : World) (hV : Below w.heap.size w V) => hP.below hV)
  have hst := lay (fun (pg bg : Nat) (V : World) h1 h2 h3 h4 h5 => wa_pos p tn hF pg bg (p.getD 67 0) (p.getD 68 0) V h1 h2 h3 h4 h5)
  rw [hsn] at hst
  have hwr : IntKind.i64.wrap sn = sn := by rcases h3 with rfl | rfl | rfl <;> rfl
  clear hF hT hA hP h3 hsn
  go_enter_defers Tryz.func10, Tryz.ntmps10
  go_wp2_with (with_reducible refine at_load_row hr0' Tryz.underlying24 rfl ?_ rfl ?_; (rw [ints_size, hl]; kernel_rfl))
  change Calls _ _ _ (wsW w p (.int .i64 0) (.bool false) 3 4) _
  generalize wsW w p (.int .i64 0) (.bool false) 3 4 = W at *
  refine hpz.out.mono ?_
  rintro e1 w1 ⟨v, rfl, pg, bg, rfl, hge, hE, hb1⟩
  have r1 := (hb1.block (w.heap.size + 1) (by omega)).trans hr1
  have r2 := (hb1.block (w.heap.size + 1 + 1) (by omega)).trans hr2
  have hB1 := lay (hBW.trans (hb1.mono hBW.size))
  have hs1 := hb1.size
  have hst1 := lay (hst.out pg bg w1 hE.ps hE.bd (hTb.out w1 hB1.out) (hAb.out w1 hB1.out) (hPb.out w1 hB1.out))
  clear hr0 hr0' hr1 hr2 hb1 hE hBW hge hst
  go_wp2_with fail
  refine hst1.out.mono ?_
  rintro e2 w2 ⟨hb2, rfl⟩
  have r1 := (hb2.block (w.heap.size + 1) (by omega)).trans r1
  have r2 := (hb2.block (w.heap.size + 1 + 1) (by omega)).trans r2
  have k0 : w2.cell? ⟨w.heap.size + 1, 0, none⟩ = some (.int .i64 0) := cell_of_row w2 _ 0 _ _ _ r1
  have k1 : w2.cell? ⟨w.heap.size + 1 + 1, 0, none⟩ = some (.bool false) := cell_of_row w2 _ 0 _ _ _ r2
  have k2 := frozen_of_row w2 (w.heap.size + 1) 0 _ _ r1
  have k3 := frozen_of_row w2 (w.heap.size + 1 + 1) 0 _ _ r2
  have hBs := lay (hB1.out.trans (hb2.mono hB1.out.size))
  clear r1 r2 hb2 hsz hs1
  go_wp2_with fail
  refine leaves_cons (f := 28) (args := #[.pointer (some ⟨w.heap.size + 1, 0, none⟩), .pointer (some ⟨w.heap.size + 1 + 1, 0, none⟩)]) (by simp) (by simp [go_sem]) ?_
  refine (ws_idle _ _ _).mono ?_
  rintro e u' w'' ⟨rfl, rfl, rfl⟩
  simp [Leaves, settle, results, Tryz.results10, go_sem, k0, k1]
  exact (hBs.out.setCell (p := ⟨w.heap.size + 1, 0, none⟩) (by simp) _).setCell (p := ⟨w.heap.size + 1 + 1, 0, none⟩) (by first | (simp; done) | (simp; omega)) _
end Go.Proofs.YtnjdgooljnbebaaGreatDoor
