/- FnMvAlike: the row and its tied card, out of the walk in YtplkcmlpomjojaaDoorAm. No condition beyond the row's own. -/
import Derived.Test.YtplkcmlpomjojaaDoorRows
import Derived.Test.YtplkcmlpomjojaaDoorCards
import Derived.Test.YtplkcmlpomjojaaDoorTie
import Derived.Test.YtplkcmlpomjojaaDoorGq
import Derived.Test.YtplkcmlpomjojaaDoorGg
import Derived.WalkKit
import Derived.ProofKit
import Derived.OpenShut
import Derived.ShutString
import Derived.ChangeOld
import Derived.Below
import Derived.SizedLaws
import Derived.LaidMore
import Derived.Stop.Joined
import Derived.MakeChecks
import Derived.SevenTiedAt
namespace Go.Proofs.YtplkcmlpomjojaaDoor.fnMvAlike
open Go Go.ChangeShapes Go.WideShapes Go.ChangeAt Go.RowKit
open Go.ChangeMaps (open_string shut_string)
set_option linter.unusedVariables false
set_option maxRecDepth 100000
theorem own : ownKnob Tryd.prog.godebug = none := by kernel_rfl
theorem door_met (os : Os) (args : Array Value) : laidMetH Tryd.prog Rows.fnMvAlikeRow.laid ((World.doorLaid Tryd.prog 54 os).forCall (fun _ _ => 0) ⟨#[], args, []⟩).memory :=
  laidMetH_of_parts3 (fuel := 8) (laidMet_of_run' 8 (by kernel_rfl) (by kernel_rfl)) (by kernel_rfl) (by kernel_rfl)
theorem lifted (os : Os) (started : os.Started) (H : Type) (enc : TypeId × Value → H) :
    ReturnsInHanded {} Tryd.checked os 5 .any (fun w args => (Rows.fnMvAlikeSpec.pre enc Tryd.prog Tryd.f5 [] false w args ∧ laidMetH Tryd.prog Rows.fnMvAlikeRow.laid w) ∧ sizedMet enc Tryd.prog Tryd.f5 (OpenSpec.ofChange Rows.fnMvAlikeSpec) false w args)
      (Rows.fnMvAlikeSpec.post enc Tryd.prog Tryd.f5 false true false false) := by
  refine returnsInHanded_of_change_and (C := Tryd.checked) (X := fun w _ => laidMetH Tryd.prog Rows.fnMvAlikeRow.laid w) (fun _ _ _ hh h => h.of_heap hh) own started (by kernel_rfl) Tryd.func5
    (ChangeSpec.witness_shaped (enc := enc) (C := Tryd.checked) (os := os) (X := fun w _ => laidMetH Tryd.prog Rows.fnMvAlikeRow.laid w) false (World.doorLaid Tryd.prog 54 os) #[.agg (Array.replicate 69 (.int .i64 0)), .agg (Array.replicate 69 (.int .i64 0))] 8 rfl (World.shaped_of_RefB (by kernel_rfl) (by kernel_rfl)) (by kernel_rfl) (by kernel_rfl) (by kernel_rfl) (door_met os _)) ?_
  intro W base args ds gs before hval0 hW hcnd hsz0 hL _
  have hsz : (DataW.weightsEach Tryd.prog (Tryd.f5.params.toList ++ Rows.fnMvAlikeSpec.plain.varTypes Tryd.prog) (ds ++ gs)).all (· ≤ reachBytes) = true := hsz0
  have hval : ∀ (j : Nat) t v, Tryd.f5.params[j]? = some t → args[j]? = some v → Value.okWide Tryd.prog W .any base t v := hval0
  have hW' := hW
  obtain ⟨p, q, hA0, hV, rfl, hfz, hnd⟩ := hW
  have hA : DataW.TrodAll enc Tryd.prog W 0 (fun _ => true) true Tryd.f5.params.toList args.toList ds p := hA0
  rw [Tryd.params5] at hA hval hsz
  obtain ⟨v0, vs0, d0, ds0, p0, q0, hargs, rfl, rfl, h0, r0⟩ := trodAll_cons hA
  obtain ⟨v1, vs1, d1, ds1, p1, q1, rfl, rfl, rfl, h1, r1⟩ := trodAll_cons r0
  obtain ⟨rfl, rfl, rfl⟩ := trodAll_nil r1
  obtain rfl : args = #[v0, v1] := by cases args; simp_all
  obtain ⟨rfl, rfl⟩ := trodVars_none hV
  obtain ⟨a0, rfl, rfl, rfl, hn0, wf0⟩ := open_pos ⟨⟨_, _, _, _, _, _, Tryd.underlying24, rfl, rfl, rfl, rfl, rfl, rfl, rfl, rfl, rfl, rfl, rfl, rfl⟩, by kernel_rfl, ⟨Tryd.underlying22, by kernel_rfl, by kernel_rfl, by kernel_rfl⟩, Tryd.underlying3, by kernel_rfl, by kernel_rfl⟩ (hval 0 24 v0 rfl rfl) h0
  obtain ⟨a1, rfl, rfl, rfl, hn1, wf1⟩ := open_pos ⟨⟨_, _, _, _, _, _, Tryd.underlying24, rfl, rfl, rfl, rfl, rfl, rfl, rfl, rfl, rfl, rfl, rfl, rfl⟩, by kernel_rfl, ⟨Tryd.underlying22, by kernel_rfl, by kernel_rfl, by kernel_rfl⟩, Tryd.underlying3, by kernel_rfl, by kernel_rfl⟩ (hval 1 24 v1 rfl rfl) h1
  have hL' : laidMet Tryd.prog Rows.fnMvAlikeRow.laid W := by
    have hL1 := hL
    rw [MakeChecks.laidMetH_plain _ _ _ (by kernel_rfl)] at hL1
    exact hL1
  have G0 := intTab_of_laid (l := Rows.fnMvAlikeRow.laid) (n := "pub-fianchetto/pub/chess.bbFiles") (g := 5) (zs := (tabZ bbFilesL)) hL' (List.mem_of_getElem? (i := 0) (by rfl)) (by kernel_rfl) (by kernel_rfl) (t := 94) (e := 73) (m := 8) (by kernel_rfl) (by kernel_rfl) (by kernel_rfl) (by kernel_rfl) (by decide)
  have G1 := intTab_of_laid (l := Rows.fnMvAlikeRow.laid) (n := "pub-fianchetto/pub/chess.bbRanks") (g := 4) (zs := (tabZ bbRanksL)) hL' (List.mem_of_getElem? (i := 1) (by rfl)) (by kernel_rfl) (by kernel_rfl) (t := 94) (e := 73) (m := 8) (by kernel_rfl) (by kernel_rfl) (by kernel_rfl) (by kernel_rfl) (by decide)
  have G2 := intTab_of_laid (l := Rows.fnMvAlikeRow.laid) (n := "pub-fianchetto/pub/chess.bbDiagonals") (g := 2) (zs := (tabZ bbDiagonalsL)) hL' (List.mem_of_getElem? (i := 2) (by rfl)) (by kernel_rfl) (by kernel_rfl) (t := 77) (e := 73) (m := 64) (by kernel_rfl) (by kernel_rfl) (by kernel_rfl) (by kernel_rfl) (by decide)
  have G3 := intTab_of_laid (l := Rows.fnMvAlikeRow.laid) (n := "pub-fianchetto/pub/chess.bbAntiDiagonals") (g := 3) (zs := (tabZ bbAntiDiagonalsL)) hL' (List.mem_of_getElem? (i := 3) (by rfl)) (by kernel_rfl) (by kernel_rfl) (t := 77) (e := 73) (m := 64) (by kernel_rfl) (by kernel_rfl) (by kernel_rfl) (by kernel_rfl) (by decide)
  have G4 := intTab_of_laid (l := Rows.fnMvAlikeRow.laid) (n := "pub-fianchetto/pub/chess.bbKnightMoves") (g := 0) (zs := (tabZ bbKnightMovesL)) hL' (List.mem_of_getElem? (i := 4) (by rfl)) (by kernel_rfl) (by kernel_rfl) (t := 77) (e := 73) (m := 64) (by kernel_rfl) (by kernel_rfl) (by kernel_rfl) (by kernel_rfl) (by decide)
  have G5 := intTab_of_laid (l := Rows.fnMvAlikeRow.laid) (n := "pub-fianchetto/pub/chess.bbKingMoves") (g := 1) (zs := (tabZ bbKingMovesL)) hL' (List.mem_of_getElem? (i := 5) (by rfl)) (by kernel_rfl) (by kernel_rfl) (t := 77) (e := 73) (m := 64) (by kernel_rfl) (by kernel_rfl) (by kernel_rfl) (by kernel_rfl) (by decide)
  have G6 := intTab_of_laid (l := Rows.fnMvAlikeRow.laid) (n := "pub-fianchetto/pub/chess.whitePiecesToFEN") (g := 7) (zs := wPieceL) hL' (List.mem_of_getElem? (i := 6) (by rfl)) (by kernel_rfl) (by kernel_rfl) (t := 117) (e := 5) (m := 7) (by kernel_rfl) (by kernel_rfl) (by kernel_rfl) (by kernel_rfl) (by decide)
  have G7 := intTab_of_laid (l := Rows.fnMvAlikeRow.laid) (n := "pub-fianchetto/pub/chess.blackPiecesToFEN") (g := 8) (zs := bPieceL) hL' (List.mem_of_getElem? (i := 7) (by rfl)) (by kernel_rfl) (by kernel_rfl) (t := 117) (e := 5) (m := 7) (by kernel_rfl) (by kernel_rfl) (by kernel_rfl) (by kernel_rfl) (by decide)
  have G8 := intSl_of_laid (l := Rows.fnMvAlikeRow.laid) (n := "pub-fianchetto/pub/chess.allPieces") (g := 6) (zs := allL) hL' (List.mem_of_getElem? (i := 8) (by rfl)) (by kernel_rfl) (by kernel_rfl) (t := 99) (e := 79) (by kernel_rfl) (by kernel_rfl) (by kernel_rfl) (by decide)
  clear hA0 hval0 hsz0 hsz
  refine (am_law a0 a1 hn0 hn1 W G0 G1 G2 G3 G4 G5 G6 G7 G8).mono fun e W' ⟨he, bel⟩ => ?_
  subst he
  exact ⟨_, rfl, _, _, _, [], _, [], hW', trodAll_mk1 (shut_bool Tryd.underlying4 _), (trodAll_cons_mk (shut_pos ⟨⟨_, _, _, _, _, _, Tryd.underlying24, rfl, rfl, rfl, rfl, rfl, rfl, rfl, rfl, rfl, rfl, rfl, rfl⟩, by kernel_rfl, ⟨Tryd.underlying22, by kernel_rfl, by kernel_rfl, by kernel_rfl⟩, Tryd.underlying3, by kernel_rfl, by kernel_rfl⟩ hn0 wf0) (trodAll_cons_mk (shut_pos ⟨⟨_, _, _, _, _, _, Tryd.underlying24, rfl, rfl, rfl, rfl, rfl, rfl, rfl, rfl, rfl, rfl, rfl, rfl⟩, by kernel_rfl, ⟨Tryd.underlying22, by kernel_rfl, by kernel_rfl, by kernel_rfl⟩, Tryd.underlying3, by kernel_rfl, by kernel_rfl⟩ hn1 wf1) trodAll_mk0)), rfl, bel.frame _, fun h => by cases h⟩
theorem over : Rows.fnMvAlikeRow.holds Tryd.pinned (OpenSpec.ofChange Rows.fnMvAlikeSpec) :=
  OpenClaim.holds_of_wide 5 Tryd.f5 rfl rfl rfl rfl rfl rfl rfl ⟨rfl, rfl, rfl, rfl, rfl⟩ rfl rfl rfl rfl rfl (by kernel_rfl) Tryd.func5 (by kernel_rfl)
    (of_decide_eq_true (by kernel_rfl)) (by unfold Func.isWrapper; first | (rw [if_pos (by decide +kernel)]; kernel_rfl) | (rw [if_neg (by decide +kernel)]; exact ⟨rfl, rfl⟩))
    (fun os started H enc _ => lifted os started H enc)
end Go.Proofs.YtplkcmlpomjojaaDoor.fnMvAlike
namespace Go.Proofs.YtplkcmlpomjojaaDoor
open Go
set_option maxRecDepth 100000
/-- The tied card. -/
theorem fnMvAlike_holds : Rows.FnMvAlikeCardSaid :=
  Claim7.holds_tied_plain_at .later [] [.data, .data, .data, .data, .data, .data, .data, .data, .data] true (true, "ad167f85529ebee3d17afe7ef3d70ad73e95d24afb3ea0b8cb602c62a3691e42") false
    fnMvAlike.over (fun _ h => by cases h) (by kernel_rfl) (fun _ h => by cases h) fnMvAlike_row_tie rfl ⟨rfl, rfl⟩ (by kernel_rfl) rfl
    (fun f fn hf hfn => by
      obtain rfl : f = 5 := Option.some.inj ((show Tryd.prog.funcNamed "pub-fianchetto/laws.FnMvAlike" = some 5 by kernel_rfl).symm.trans hf) |>.symm
      obtain rfl : fn = Tryd.f5 := (Option.some.inj (Tryd.func5.symm.trans hfn)).symm
      exact ⟨by kernel_rfl, fun j t ht => by
        rw [Tryd.params5] at ht
        have hm : t ∈ [24, 24] := by simpa using Array.mem_of_getElem? ht
        have hall : ([24, 24].all fun u => !Tryd.prog.wantsStandIn u) = true := by kernel_rfl
        exact (show Tryd.prog.wantsStandIn t = false by simpa using List.all_eq_true.1 hall t hm)⟩)
    (by kernel_rfl)
#print axioms fnMvAlike_holds
end Go.Proofs.YtplkcmlpomjojaaDoor
