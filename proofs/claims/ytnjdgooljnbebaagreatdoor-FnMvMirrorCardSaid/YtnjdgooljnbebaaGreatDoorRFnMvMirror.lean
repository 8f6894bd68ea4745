/- FnMvMirror: the row and its tied card, out of the walk in YtnjdgooljnbebaaGreatDoorRv. No condition beyond the row's own. -/
import Derived.Test.YtnjdgooljnbebaaGreatDoorRows
import Derived.Test.YtnjdgooljnbebaaGreatDoorCards
import Derived.Test.YtnjdgooljnbebaaGreatDoorTie
import Derived.Test.YtnjdgooljnbebaaGreatDoorGt
import Derived.Test.YtnjdgooljnbebaaGreatDoorGg
import Derived.WalkKit
import Derived.ProofKit
import Derived.OpenShut
import Derived.ShutString
import Derived.ChangeOld
import Derived.Below
import Derived.SizedLaws
import Derived.LaidMore
import Derived.Stop.Joined
import Derived.MakeChecks
import Derived.SevenTiedAt
import Derived.Lay
namespace Go.Proofs.YtnjdgooljnbebaaGreatDoor.fnMvMirror
open Go Go.ChangeShapes Go.WideShapes Go.ChangeAt Go.RowKit
open Go.ChangeMaps (open_string shut_string)
set_option linter.unusedVariables false
set_option maxRecDepth 100000
theorem own : ownKnob Tryz.prog.godebug = none := by kernel_rfl
theorem lifted (os : Os) (started : os.Started) (H : Type) (enc : TypeId × Value → H) :
    ReturnsInHanded {} Tryz.checked os 4 .any (fun w args => (Rows.fnMvMirrorSpec.pre enc Tryz.prog Tryz.f4 [] false w args ∧ laidMetH Tryz.prog Rows.fnMvMirrorRow.laid w) ∧ sizedMet enc Tryz.prog Tryz.f4 (OpenSpec.ofChange Rows.fnMvMirrorSpec) false w args)
      (Rows.fnMvMirrorSpec.post enc Tryz.prog Tryz.f4 false true false false) := by
  refine returnsInHanded_of_change_and (C := Tryz.checked) (X := fun w _ => laidMetH Tryz.prog Rows.fnMvMirrorRow.laid w) (fun _ _ _ hh h => h.of_heap hh) own started (by kernel_rfl) Tryz.func4
    (ChangeSpec.witness_shaped (enc := enc) (C := Tryz.checked) (os := os) (X := fun w _ => laidMetH Tryz.prog Rows.fnMvMirrorRow.laid w) false (World.laidAll Tryz.prog os Rows.fnMvMirrorRow.laid) #[.agg (Array.replicate 69 (.int .i64 0))] 8 (World.laidAll_os _ _ _) (World.shaped_of_ZipB (by kernel_rfl) (by kernel_rfl)) (by kernel_rfl) (by kernel_rfl) (by kernel_rfl) (by rw [MakeChecks.laidMetH_plain _ _ _ (by kernel_rfl)]; exact laidMet_laidAll _ (by kernel_rfl) (by kernel_rfl))) ?_
  intro W base args ds gs before hval0 hW hcnd hsz0 hL _
  have hsz : (DataW.weightsEach Tryz.prog (Tryz.f4.params.toList ++ Rows.fnMvMirrorSpec.plain.varTypes Tryz.prog) (ds ++ gs)).all (· ≤ reachBytes) = true := hsz0
  have hval : ∀ (j : Nat) t v, Tryz.f4.params[j]? = some t → args[j]? = some v → Value.okWide Tryz.prog W .any base t v := hval0
  have hW' := hW
  obtain ⟨p, q, hA0, hV, rfl, hfz, hnd⟩ := hW
  have hA : DataW.TrodAll enc Tryz.prog W 0 (fun _ => true) true Tryz.f4.params.toList args.toList ds p := hA0
  rw [Tryz.params4] at hA hval hsz
  obtain ⟨v0, vs0, d0, ds0, p0, q0, hargs, rfl, rfl, h0, r0⟩ := trodAll_cons hA
  obtain ⟨rfl, rfl, rfl⟩ := trodAll_nil r0
  obtain rfl : args = #[v0] := by cases args; simp_all
  obtain ⟨rfl, rfl⟩ := trodVars_none hV
  obtain ⟨a0, rfl, rfl, rfl, hn0, wf0⟩ := open_pos ⟨⟨_, _, _, _, _, _, Tryz.underlying24, rfl, rfl, rfl, rfl, rfl, rfl, rfl, rfl, rfl, rfl, rfl, rfl⟩, by kernel_rfl, ⟨Tryz.underlying22, by kernel_rfl, by kernel_rfl, by kernel_rfl⟩, Tryz.underlying3, by kernel_rfl, by kernel_rfl⟩ (hval 0 24 v0 rfl rfl) h0
  have hL' : laidMet Tryz.prog Rows.fnMvMirrorRow.laid W := by
    have hL1 := hL
    rw [MakeChecks.laidMetH_plain _ _ _ (by kernel_rfl)] at hL1
    exact hL1
  have G0 := intTab_of_laid (l := Rows.fnMvMirrorRow.laid) (n := "pub-fianchetto/pub/chess.bbFiles") (g := 7) (zs := (tabZ bbFilesL)) hL' (List.mem_of_getElem? (i := 2) (by rfl)) (by kernel_rfl) (by kernel_rfl) (t := 204) (e := 142) (m := 8) (by kernel_rfl) (by kernel_rfl) (by kernel_rfl) (by kernel_rfl) (by decide)
  have G1 := intTab_of_laid (l := Rows.fnMvMirrorRow.laid) (n := "pub-fianchetto/pub/chess.bbRanks") (g := 6) (zs := (tabZ bbRanksL)) hL' (List.mem_of_getElem? (i := 3) (by rfl)) (by kernel_rfl) (by kernel_rfl) (t := 204) (e := 142) (m := 8) (by kernel_rfl) (by kernel_rfl) (by kernel_rfl) (by kernel_rfl) (by decide)
  have G2 := intTab_of_laid (l := Rows.fnMvMirrorRow.laid) (n := "pub-fianchetto/pub/chess.bbDiagonals") (g := 4) (zs := (tabZ bbDiagonalsL)) hL' (List.mem_of_getElem? (i := 4) (by rfl)) (by kernel_rfl) (by kernel_rfl) (t := 192) (e := 142) (m := 64) (by kernel_rfl) (by kernel_rfl) (by kernel_rfl) (by kernel_rfl) (by decide)
  have G3 := intTab_of_laid (l := Rows.fnMvMirrorRow.laid) (n := "pub-fianchetto/pub/chess.bbAntiDiagonals") (g := 5) (zs := (tabZ bbAntiDiagonalsL)) hL' (List.mem_of_getElem? (i := 5) (by rfl)) (by kernel_rfl) (by kernel_rfl) (t := 192) (e := 142) (m := 64) (by kernel_rfl) (by kernel_rfl) (by kernel_rfl) (by kernel_rfl) (by decide)
  have G4 := intTab_of_laid (l := Rows.fnMvMirrorRow.laid) (n := "pub-fianchetto/pub/chess.bbKnightMoves") (g := 2) (zs := (tabZ bbKnightMovesL)) hL' (List.mem_of_getElem? (i := 6) (by rfl)) (by kernel_rfl) (by kernel_rfl) (t := 192) (e := 142) (m := 64) (by kernel_rfl) (by kernel_rfl) (by kernel_rfl) (by kernel_rfl) (by decide)
  have G5 := intTab_of_laid (l := Rows.fnMvMirrorRow.laid) (n := "pub-fianchetto/pub/chess.bbKingMoves") (g := 3) (zs := (tabZ bbKingMovesL)) hL' (List.mem_of_getElem? (i := 7) (by rfl)) (by kernel_rfl) (by kernel_rfl) (t := 192) (e := 142) (m := 64) (by kernel_rfl) (by kernel_rfl) (by kernel_rfl) (by kernel_rfl) (by decide)
  have G6 := intSl_of_laid (l := Rows.fnMvMirrorRow.laid) (n := "pub-fianchetto/pub/chess.allPieces") (g := 0) (zs := allL) hL' (List.mem_of_getElem? (i := 8) (by rfl)) (by kernel_rfl) (by kernel_rfl) (t := 146) (e := 117) (by kernel_rfl) (by kernel_rfl) (by kernel_rfl) (by decide)
  have G7 := intSl_of_laid (l := Rows.fnMvMirrorRow.laid) (n := "pub-fianchetto/pub/chess.promoPieceTypes") (g := 1) (zs := [2, 3, 4, 5]) hL' (List.mem_of_getElem? (i := 1) (by rfl)) (by kernel_rfl) (by kernel_rfl) (t := 167) (e := 71) (by kernel_rfl) (by kernel_rfl) (by kernel_rfl) (by decide)
  clear hA0 hval0 hsz0 hsz
  refine (rv_law a0 hn0 W G0 G1 G2 G3 G4 G5 G6 G7).mono fun e W' ⟨he, bel⟩ => ?_
  subst he
  exact ⟨_, rfl, _, _, _, [], _, [], hW', trodAll_mk1 (shut_bool Tryz.underlying4 _), (trodAll_cons_mk (shut_pos ⟨⟨_, _, _, _, _, _, Tryz.underlying24, rfl, rfl, rfl, rfl, rfl, rfl, rfl, rfl, rfl, rfl, rfl, rfl⟩, by kernel_rfl, ⟨Tryz.underlying22, by kernel_rfl, by kernel_rfl, by kernel_rfl⟩, Tryz.underlying3, by kernel_rfl, by kernel_rfl⟩ hn0 wf0) trodAll_mk0), rfl, bel.frame _, fun h => by cases h⟩
theorem over : Rows.fnMvMirrorRow.holds Tryz.pinned (OpenSpec.ofChange Rows.fnMvMirrorSpec) :=
  OpenClaim.holds_of_wide 4 Tryz.f4 rfl rfl rfl rfl rfl rfl rfl ⟨rfl, rfl, rfl, rfl, rfl⟩ rfl rfl rfl rfl rfl (by kernel_rfl) Tryz.func4 (by kernel_rfl)
    (of_decide_eq_true (by kernel_rfl)) (by unfold Func.isWrapper; first | (rw [if_pos (by decide +kernel)]; kernel_rfl) | (rw [if_neg (by decide +kernel)]; exact ⟨rfl, rfl⟩))
    (fun os started H enc _ => lifted os started H enc)
end Go.Proofs.YtnjdgooljnbebaaGreatDoor.fnMvMirror
namespace Go.Proofs.YtnjdgooljnbebaaGreatDoor
open Go
set_option maxRecDepth 100000
/-- The tied card. -/
theorem fnMvMirror_holds : Rows.FnMvMirrorCardSaid :=
  Claim7.holds_tied_plain_at .later [] [.data, .data, .data, .data, .data, .data, .data, .data, .data, .pinned, .pinned] true (true, "b016d6af0469fd999689c53e2c02e45fae6e2b4de065c726de7d537d848f443d") false
    fnMvMirror.over (fun _ h => by cases h) (by kernel_rfl) (fun _ h => by cases h) fnMvMirror_row_tie rfl ⟨rfl, rfl⟩ (by kernel_rfl) rfl
    (fun f fn hf hfn => by
      obtain rfl : f = 4 := Option.some.inj ((show Tryz.prog.funcNamed "pub-fianchetto/laws.FnMvMirror" = some 4 by kernel_rfl).symm.trans hf) |>.symm
      obtain rfl : fn = Tryz.f4 := (Option.some.inj (Tryz.func4.symm.trans hfn)).symm
      exact ⟨by kernel_rfl, fun j t ht => by
        rw [Tryz.params4] at ht
        have hm : t ∈ [24] := by simpa using Array.mem_of_getElem? ht
        have hall : ([24].all fun u => !Tryz.prog.wantsStandIn u) = true := by kernel_rfl
        exact (show Tryz.prog.wantsStandIn t = false by simpa using List.all_eq_true.1 hall t hm)⟩)
    (by kernel_rfl)
#print axioms fnMvMirror_holds
end Go.Proofs.YtnjdgooljnbebaaGreatDoor
