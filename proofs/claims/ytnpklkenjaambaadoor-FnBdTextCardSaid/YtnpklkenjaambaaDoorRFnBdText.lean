/- FnBdText: the row and its tied card, out of the walk in YtnpklkenjaambaaDoorFw. No condition beyond the row's own. -/
import Derived.Test.YtnpklkenjaambaaDoorRows
import Derived.Test.YtnpklkenjaambaaDoorCards
import Derived.Test.YtnpklkenjaambaaDoorTie
import Derived.Test.YtnpklkenjaambaaDoorFw
import Derived.Test.YtnpklkenjaambaaDoorAr
import Derived.WalkKit
import Derived.ProofKit
import Derived.OpenShut
import Derived.ShutString
import Derived.ChangeOld
import Derived.Below
import Derived.SizedLaws
import Derived.LaidMore
import Derived.Stop.Joined
import Derived.MakeChecks
import Derived.SevenTiedAt
import Derived.Lay
namespace Go.Proofs.YtnpklkenjaambaaDoor.fnBdText
open Go Go.ChangeShapes Go.WideShapes Go.ChangeAt Go.RowKit
open Go.ChangeMaps (open_string shut_string)
set_option linter.unusedVariables false
set_option maxRecDepth 100000
theorem own : ownKnob Tryd.prog.godebug = none := by kernel_rfl
theorem door_met (os : Os) (args : Array Value) : laidMetH Tryd.prog Rows.fnBdTextRow.laid ((World.doorLaid Tryd.prog 44 os).forCall (fun _ _ => 0) ⟨#[], args, []⟩).memory :=
  laidMetH_of_parts3 (fuel := 8) (laidMet_of_run' 8 (by kernel_rfl) (by kernel_rfl)) (by kernel_rfl) (by kernel_rfl)
theorem lifted (os : Os) (started : os.Started) (H : Type) (enc : TypeId × Value → H) :
    ReturnsInHanded {} Tryd.checked os 4 .any (fun w args => (Rows.fnBdTextSpec.pre enc Tryd.prog Tryd.f4 [] false w args ∧ laidMetH Tryd.prog Rows.fnBdTextRow.laid w) ∧ sizedMet enc Tryd.prog Tryd.f4 (OpenSpec.ofChange Rows.fnBdTextSpec) false w args)
      (Rows.fnBdTextSpec.post enc Tryd.prog Tryd.f4 false true false false) := by
  refine returnsInHanded_of_change_and (C := Tryd.checked) (X := fun w _ => laidMetH Tryd.prog Rows.fnBdTextRow.laid w) (fun _ _ _ hh h => h.of_heap hh) own started (by kernel_rfl) Tryd.func4
    (ChangeSpec.witness_shaped (enc := enc) (C := Tryd.checked) (os := os) (X := fun w _ => laidMetH Tryd.prog Rows.fnBdTextRow.laid w) false (World.doorLaid Tryd.prog 44 os) #[.agg (Array.replicate 64 (.int .i64 0))] 8 rfl (World.shaped_of_RefB (by kernel_rfl) (by kernel_rfl)) (by kernel_rfl) (by kernel_rfl) (by kernel_rfl) (door_met os _)) ?_
  intro W base args ds gs before hval0 hW hcnd hsz0 hL _
  have hsz : (DataW.weightsEach Tryd.prog (Tryd.f4.params.toList ++ Rows.fnBdTextSpec.plain.varTypes Tryd.prog) (ds ++ gs)).all (· ≤ reachBytes) = true := hsz0
  have hval : ∀ (j : Nat) t v, Tryd.f4.params[j]? = some t → args[j]? = some v → Value.okWide Tryd.prog W .any base t v := hval0
  have hW' := hW
  obtain ⟨p, q, hA0, hV, rfl, hfz, hnd⟩ := hW
  have hA : DataW.TrodAll enc Tryd.prog W 0 (fun _ => true) true Tryd.f4.params.toList args.toList ds p := hA0
  rw [Tryd.params4] at hA hval hsz
  obtain ⟨v0, vs0, d0, ds0, p0, q0, hargs, rfl, rfl, h0, r0⟩ := trodAll_cons hA
  obtain ⟨rfl, rfl, rfl⟩ := trodAll_nil r0
  obtain rfl : args = #[v0] := by cases args; simp_all
  obtain ⟨rfl, rfl⟩ := trodVars_none hV
  obtain ⟨a0, rfl, rfl, rfl, hn0, wf0⟩ := open_arr_ints (n := 64) ⟨Tryd.underlying30, by kernel_rfl, by kernel_rfl, by kernel_rfl⟩ (by kernel_rfl) (hval 0 30 v0 rfl rfl) h0
  have hL' : laidMet Tryd.prog Rows.fnBdTextRow.laid W := by
    have hL1 := hL
    rw [MakeChecks.laidMetH_plain _ _ _ (by kernel_rfl)] at hL1
    exact hL1
  have G0 := intSl_of_laid (l := Rows.fnBdTextRow.laid) (n := "pub-fianchetto/pub/chess.allPieces") (g := 1) (zs := allL) hL' (List.mem_of_getElem? (i := 3) (by rfl)) (by kernel_rfl) (by kernel_rfl) (t := 89) (e := 75) (by kernel_rfl) (by kernel_rfl) (by kernel_rfl) (by decide)
  have G1 := intTab_of_laid (l := Rows.fnBdTextRow.laid) (n := "pub-fianchetto/pub/chess.whitePiecesToFEN") (g := 2) (zs := wPieceL) hL' (List.mem_of_getElem? (i := 0) (by rfl)) (by kernel_rfl) (by kernel_rfl) (t := 124) (e := 5) (m := 7) (by kernel_rfl) (by kernel_rfl) (by kernel_rfl) (by kernel_rfl) (by decide)
  have G2 := intTab_of_laid (l := Rows.fnBdTextRow.laid) (n := "pub-fianchetto/pub/chess.blackPiecesToFEN") (g := 3) (zs := bPieceL) hL' (List.mem_of_getElem? (i := 1) (by rfl)) (by kernel_rfl) (by kernel_rfl) (t := 124) (e := 5) (m := 7) (by kernel_rfl) (by kernel_rfl) (by kernel_rfl) (by kernel_rfl) (by decide)
  have G3 := intTab_of_laid (l := Rows.fnBdTextRow.laid) (n := "pub-fianchetto/pub/chess.fenCharToPiece") (g := 4) (zs := fcL) hL' (List.mem_of_getElem? (i := 2) (by rfl)) (by kernel_rfl) (by kernel_rfl) (t := 125) (e := 75) (m := 128) (by kernel_rfl) (by kernel_rfl) (by kernel_rfl) (by kernel_rfl) (by decide)
  clear hA0 hval0 hsz0 hsz
  refine (fw_law a0 hn0 W G0 G1 G2 G3).mono fun e W' ⟨he, bel⟩ => ?_
  subst he
  exact ⟨_, rfl, _, _, _, [], _, [], hW', trodAll_mk1 (shut_bool Tryd.underlying4 _), (trodAll_cons_mk (shut_arr_ints (n := 64) ⟨Tryd.underlying30, by kernel_rfl, by kernel_rfl, by kernel_rfl⟩ (by kernel_rfl) hn0 wf0) trodAll_mk0), rfl, bel.frame _, fun h => by cases h⟩
theorem over : Rows.fnBdTextRow.holds Tryd.pinned (OpenSpec.ofChange Rows.fnBdTextSpec) :=
  OpenClaim.holds_of_wide 4 Tryd.f4 rfl rfl rfl rfl rfl rfl rfl ⟨rfl, rfl, rfl, rfl, rfl⟩ rfl rfl rfl rfl rfl (by kernel_rfl) Tryd.func4 (by kernel_rfl)
    (of_decide_eq_true (by kernel_rfl)) (by unfold Func.isWrapper; first | (rw [if_pos (by decide +kernel)]; kernel_rfl) | (rw [if_neg (by decide +kernel)]; exact ⟨rfl, rfl⟩))
    (fun os started H enc _ => lifted os started H enc)
end Go.Proofs.YtnpklkenjaambaaDoor.fnBdText
namespace Go.Proofs.YtnpklkenjaambaaDoor
open Go
set_option maxRecDepth 100000
/-- The tied card. -/
theorem fnBdText_holds : Rows.FnBdTextCardSaid :=
  Claim7.holds_tied_plain_at .later [] [.data, .data, .data, .data] true (true, "e4204d6c425e05cba543f061ca33fc281be5c38ddcd7370ddbc437b5f90ecd22") false
    fnBdText.over (fun _ h => by cases h) (by kernel_rfl) (fun _ h => by cases h) fnBdText_row_tie rfl ⟨rfl, rfl⟩ (by kernel_rfl) rfl
    (fun f fn hf hfn => by
      obtain rfl : f = 4 := Option.some.inj ((show Tryd.prog.funcNamed "pub-fianchetto/laws.FnBdText" = some 4 by kernel_rfl).symm.trans hf) |>.symm
      obtain rfl : fn = Tryd.f4 := (Option.some.inj (Tryd.func4.symm.trans hfn)).symm
      exact ⟨by kernel_rfl, fun j t ht => by
        rw [Tryd.params4] at ht
        have hm : t ∈ [30] := by simpa using Array.mem_of_getElem? ht
        have hall : ([30].all fun u => !Tryd.prog.wantsStandIn u) = true := by kernel_rfl
        exact (show Tryd.prog.wantsStandIn t = false by simpa using List.all_eq_true.1 hall t hm)⟩)
    (by kernel_rfl)
#print axioms fnBdText_holds
end Go.Proofs.YtnpklkenjaambaaDoor
