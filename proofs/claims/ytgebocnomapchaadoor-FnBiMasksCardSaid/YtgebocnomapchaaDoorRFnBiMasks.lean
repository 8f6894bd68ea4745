/- FnBiMasks: the row and its tied card, out of the walk in YtgebocnomapchaaDoorBm. No condition beyond the row's own. -/
import Derived.Test.YtgebocnomapchaaDoorRows
import Derived.Test.YtgebocnomapchaaDoorCards
import Derived.Test.YtgebocnomapchaaDoorTie
import Derived.Test.YtgebocnomapchaaDoorBm
import Derived.WalkKit
import Derived.ProofKit
import Derived.OpenShut
import Derived.ShutString
import Derived.ChangeOld
import Derived.Below
import Derived.SizedLaws
import Derived.LaidMore
import Derived.Stop.Joined
import Derived.MakeChecks
import Derived.SevenTiedAt
namespace Go.Proofs.YtgebocnomapchaaDoor.fnBiMasks
open Go Go.ChangeShapes Go.WideShapes Go.ChangeAt Go.RowKit
open Go.ChangeMaps (open_string shut_string)
set_option linter.unusedVariables false
set_option maxRecDepth 100000
theorem own : ownKnob Tryd.prog.godebug = none := by kernel_rfl
theorem door_met (os : Os) (args : Array Value) : laidMetH Tryd.prog Rows.fnBiMasksRow.laid ((World.doorLaid Tryd.prog 103 os).forCall (fun _ _ => 0) ⟨#[], args, []⟩).memory :=
  laidMetH_of_parts3 (fuel := 8) (laidMet_of_run' 8 (by kernel_rfl) (by kernel_rfl)) (by kernel_rfl) (by kernel_rfl)
theorem lifted (os : Os) (started : os.Started) (H : Type) (enc : TypeId × Value → H) :
    ReturnsInHanded {} Tryd.checked os 5 .any (fun w args => (Rows.fnBiMasksSpec.pre enc Tryd.prog Tryd.f5 [] false w args ∧ laidMetH Tryd.prog Rows.fnBiMasksRow.laid w) ∧ sizedMet enc Tryd.prog Tryd.f5 (OpenSpec.ofChange Rows.fnBiMasksSpec) false w args)
      (Rows.fnBiMasksSpec.post enc Tryd.prog Tryd.f5 false true false false) := by
  refine returnsInHanded_of_change_and (C := Tryd.checked) (X := fun w _ => laidMetH Tryd.prog Rows.fnBiMasksRow.laid w) (fun _ _ _ hh h => h.of_heap hh) own started (by kernel_rfl) Tryd.func5
    (ChangeSpec.witness_shaped (enc := enc) (C := Tryd.checked) (os := os) (X := fun w _ => laidMetH Tryd.prog Rows.fnBiMasksRow.laid w) false (World.doorLaid Tryd.prog 103 os) #[.int .u8 0] 8 rfl (World.shaped_of_RefB (by kernel_rfl) (by kernel_rfl)) (by kernel_rfl) (by kernel_rfl) (by kernel_rfl) (door_met os _)) ?_
  intro W base args ds gs before hval0 hW hcnd hsz0 hL _
  have hsz : (DataW.weightsEach Tryd.prog (Tryd.f5.params.toList ++ Rows.fnBiMasksSpec.plain.varTypes Tryd.prog) (ds ++ gs)).all (· ≤ reachBytes) = true := hsz0
  have hval : ∀ (j : Nat) t v, Tryd.f5.params[j]? = some t → args[j]? = some v → Value.okWide Tryd.prog W .any base t v := hval0
  have hW' := hW
  obtain ⟨p, q, hA0, hV, rfl, hfz, hnd⟩ := hW
  have hA : DataW.TrodAll enc Tryd.prog W 0 (fun _ => true) true Tryd.f5.params.toList args.toList ds p := hA0
  rw [Tryd.params5] at hA hval hsz
  obtain ⟨v0, vs0, d0, ds0, p0, q0, hargs, rfl, rfl, h0, r0⟩ := trodAll_cons hA
  obtain ⟨rfl, rfl, rfl⟩ := trodAll_nil r0
  obtain rfl : args = #[v0] := by cases args; simp_all
  obtain ⟨rfl, rfl⟩ := trodVars_none hV
  obtain ⟨a0, rfl, rfl, rfl, wf0⟩ := open_int Tryd.underlying5 (hval 0 5 v0 rfl rfl) h0
  have hL' : laidMet Tryd.prog Rows.fnBiMasksRow.laid W := by
    have hL1 := hL
    rw [MakeChecks.laidMetH_plain _ _ _ (by kernel_rfl)] at hL1
    exact hL1
  have G0 := intTab_of_laid (l := Rows.fnBiMasksRow.laid) (n := "pub-fianchetto/pub/chess.bbKingMoves") (g := 3) (zs := (tabZ bbKingMovesL)) hL' (List.mem_of_getElem? (i := 5) (by rfl)) (by kernel_rfl) (by kernel_rfl) (t := 87) (e := 85) (m := 64) (by kernel_rfl) (by kernel_rfl) (by kernel_rfl) (by kernel_rfl) (by decide)
  have G1 := intTab_of_laid (l := Rows.fnBiMasksRow.laid) (n := "pub-fianchetto/pub/chess.bbKnightMoves") (g := 4) (zs := (tabZ bbKnightMovesL)) hL' (List.mem_of_getElem? (i := 4) (by rfl)) (by kernel_rfl) (by kernel_rfl) (t := 87) (e := 85) (m := 64) (by kernel_rfl) (by kernel_rfl) (by kernel_rfl) (by kernel_rfl) (by decide)
  have G2 := intTab_of_laid (l := Rows.fnBiMasksRow.laid) (n := "pub-fianchetto/pub/chess.bbDiagonals") (g := 5) (zs := (tabZ bbDiagonalsL)) hL' (List.mem_of_getElem? (i := 2) (by rfl)) (by kernel_rfl) (by kernel_rfl) (t := 87) (e := 85) (m := 64) (by kernel_rfl) (by kernel_rfl) (by kernel_rfl) (by kernel_rfl) (by decide)
  have G3 := intTab_of_laid (l := Rows.fnBiMasksRow.laid) (n := "pub-fianchetto/pub/chess.bbAntiDiagonals") (g := 6) (zs := (tabZ bbAntiDiagonalsL)) hL' (List.mem_of_getElem? (i := 3) (by rfl)) (by kernel_rfl) (by kernel_rfl) (t := 87) (e := 85) (m := 64) (by kernel_rfl) (by kernel_rfl) (by kernel_rfl) (by kernel_rfl) (by decide)
  have G4 := intTab_of_laid (l := Rows.fnBiMasksRow.laid) (n := "pub-fianchetto/pub/chess.bbFiles") (g := 7) (zs := (tabZ bbFilesL)) hL' (List.mem_of_getElem? (i := 0) (by rfl)) (by kernel_rfl) (by kernel_rfl) (t := 88) (e := 85) (m := 8) (by kernel_rfl) (by kernel_rfl) (by kernel_rfl) (by kernel_rfl) (by decide)
  have G5 := intTab_of_laid (l := Rows.fnBiMasksRow.laid) (n := "pub-fianchetto/pub/chess.bbRanks") (g := 8) (zs := (tabZ bbRanksL)) hL' (List.mem_of_getElem? (i := 1) (by rfl)) (by kernel_rfl) (by kernel_rfl) (t := 88) (e := 85) (m := 8) (by kernel_rfl) (by kernel_rfl) (by kernel_rfl) (by kernel_rfl) (by decide)
  clear hA0 hval0 hsz0 hsz
  refine (bm_law a0 (bounds_u8 wf0).1 (bounds_u8 wf0).2 W G0 G1 G2 G3 G4 G5).mono fun e W' ⟨he, bel⟩ => ?_
  subst he
  exact ⟨_, rfl, _, _, _, [], _, [], hW', trodAll_mk1 (shut_bool Tryd.underlying4 _), (trodAll_cons_mk (shut_int Tryd.underlying5 wf0) trodAll_mk0), rfl, bel.frame _, fun h => by cases h⟩
theorem over : Rows.fnBiMasksRow.holds Tryd.pinned (OpenSpec.ofChange Rows.fnBiMasksSpec) :=
  OpenClaim.holds_of_wide 5 Tryd.f5 rfl rfl rfl rfl rfl rfl rfl ⟨rfl, rfl, rfl, rfl, rfl⟩ rfl rfl rfl rfl rfl (by kernel_rfl) Tryd.func5 (by kernel_rfl)
    (of_decide_eq_true (by kernel_rfl)) (by unfold Func.isWrapper; first | (rw [if_pos (by decide +kernel)]; kernel_rfl) | (rw [if_neg (by decide +kernel)]; exact ⟨rfl, rfl⟩))
    (fun os started H enc _ => lifted os started H enc)
end Go.Proofs.YtgebocnomapchaaDoor.fnBiMasks
namespace Go.Proofs.YtgebocnomapchaaDoor
open Go
set_option maxRecDepth 100000
/-- The tied card. -/
theorem fnBiMasks_holds : Rows.FnBiMasksCardSaid :=
  Claim7.holds_tied_plain_at .later [] [.data, .data, .data, .data, .data, .data] true (true, "e432ee2c842eb08e96e15b5c74ce5f95c523c3fac02726d30bad39c1c8b80b27") false
    fnBiMasks.over (fun _ h => by cases h) (by kernel_rfl) (fun _ h => by cases h) fnBiMasks_row_tie rfl ⟨rfl, rfl⟩ (by kernel_rfl) rfl
    (fun f fn hf hfn => by
      obtain rfl : f = 5 := Option.some.inj ((show Tryd.prog.funcNamed "pub-fianchetto/laws.FnBiMasks" = some 5 by kernel_rfl).symm.trans hf) |>.symm
      obtain rfl : fn = Tryd.f5 := (Option.some.inj (Tryd.func5.symm.trans hfn)).symm
      exact ⟨by kernel_rfl, fun j t ht => by
        rw [Tryd.params5] at ht
        have hm : t ∈ [5] := by simpa using Array.mem_of_getElem? ht
        have hall : ([5].all fun u => !Tryd.prog.wantsStandIn u) = true := by kernel_rfl
        exact (show Tryd.prog.wantsStandIn t = false by simpa using List.all_eq_true.1 hall t hm)⟩)
    (by kernel_rfl)
#print axioms fnBiMasks_holds
end Go.Proofs.YtgebocnomapchaaDoor
