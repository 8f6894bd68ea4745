/- FnBdBytes: the row and its tied card, out of the walk in YtndnmepapmnnlaaDoorBy. No condition beyond the row's own. -/
import Derived.Test.YtndnmepapmnnlaaDoorRows
import Derived.Test.YtndnmepapmnnlaaDoorCards
import Derived.Test.YtndnmepapmnnlaaDoorTie
import Derived.Test.YtndnmepapmnnlaaDoorBy
import Derived.Test.YtndnmepapmnnlaaDoorAr
import Derived.WalkKit
import Derived.ProofKit
import Derived.OpenShut
import Derived.ShutString
import Derived.ChangeOld
import Derived.Below
import Derived.SizedLaws
import Derived.LaidMore
import Derived.Stop.Joined
import Derived.MakeChecks
import Derived.SevenTiedAt
namespace Go.Proofs.YtndnmepapmnnlaaDoor.fnBdBytes
open Go Go.ChangeShapes Go.WideShapes Go.ChangeAt Go.RowKit
open Go.ChangeMaps (open_string shut_string)
set_option linter.unusedVariables false
set_option maxRecDepth 100000
theorem own : ownKnob Tryd.prog.godebug = none := by kernel_rfl
theorem door_met (os : Os) (args : Array Value) : laidMetH Tryd.prog Rows.fnBdBytesRow.laid ((World.doorLaid Tryd.prog 29 os).forCall (fun _ _ => 0) ⟨#[], args, []⟩).memory :=
  laidMetH_of_parts3 (fuel := 8) (laidMet_of_run' 8 (by kernel_rfl) (by kernel_rfl)) (by kernel_rfl) (by kernel_rfl)
theorem lifted (os : Os) (started : os.Started) (H : Type) (enc : TypeId × Value → H) :
    ReturnsInHanded {} Tryd.checked os 5 .any (fun w args => (Rows.fnBdBytesSpec.pre enc Tryd.prog Tryd.f5 [] false w args ∧ laidMetH Tryd.prog Rows.fnBdBytesRow.laid w) ∧ sizedMet enc Tryd.prog Tryd.f5 (OpenSpec.ofChange Rows.fnBdBytesSpec) false w args)
      (Rows.fnBdBytesSpec.post enc Tryd.prog Tryd.f5 false true false false) := by
  refine returnsInHanded_of_change_and (C := Tryd.checked) (X := fun w _ => laidMetH Tryd.prog Rows.fnBdBytesRow.laid w) (fun _ _ _ hh h => h.of_heap hh) own started (by kernel_rfl) Tryd.func5
    (ChangeSpec.witness_shaped (enc := enc) (C := Tryd.checked) (os := os) (X := fun w _ => laidMetH Tryd.prog Rows.fnBdBytesRow.laid w) false (World.doorLaid Tryd.prog 29 os) #[.agg (Array.replicate 64 (.int .i64 0))] 8 rfl (World.shaped_of_RefB (by kernel_rfl) (by kernel_rfl)) (by kernel_rfl) (by kernel_rfl) (by kernel_rfl) (door_met os _)) ?_
  intro W base args ds gs before hval0 hW hcnd hsz0 hL _
  have hsz : (DataW.weightsEach Tryd.prog (Tryd.f5.params.toList ++ Rows.fnBdBytesSpec.plain.varTypes Tryd.prog) (ds ++ gs)).all (· ≤ reachBytes) = true := hsz0
  have hval : ∀ (j : Nat) t v, Tryd.f5.params[j]? = some t → args[j]? = some v → Value.okWide Tryd.prog W .any base t v := hval0
  have hW' := hW
  obtain ⟨p, q, hA0, hV, rfl, hfz, hnd⟩ := hW
  have hA : DataW.TrodAll enc Tryd.prog W 0 (fun _ => true) true Tryd.f5.params.toList args.toList ds p := hA0
  rw [Tryd.params5] at hA hval hsz
  obtain ⟨v0, vs0, d0, ds0, p0, q0, hargs, rfl, rfl, h0, r0⟩ := trodAll_cons hA
  obtain ⟨rfl, rfl, rfl⟩ := trodAll_nil r0
  obtain rfl : args = #[v0] := by cases args; simp_all
  obtain ⟨rfl, rfl⟩ := trodVars_none hV
  obtain ⟨a0, rfl, rfl, rfl, hn0, wf0⟩ := open_arr_ints (n := 64) ⟨Tryd.underlying22, by kernel_rfl, by kernel_rfl, by kernel_rfl⟩ (by kernel_rfl) (hval 0 22 v0 rfl rfl) h0
  have hL' : laidMet Tryd.prog Rows.fnBdBytesRow.laid W := by
    have hL1 := hL
    rw [MakeChecks.laidMetH_plain _ _ _ (by kernel_rfl)] at hL1
    exact hL1
  have G0 := intSl_of_laid (l := Rows.fnBdBytesRow.laid) (n := "pub-fianchetto/pub/chess.allPieces") (g := 1) (zs := allL) hL' (List.mem_of_getElem? (i := 0) (by rfl)) (by kernel_rfl) (by kernel_rfl) (t := 82) (e := 67) (by kernel_rfl) (by kernel_rfl) (by kernel_rfl) (by decide)
  clear hA0 hval0 hsz0 hsz
  refine (by_law a0 hn0 W G0).mono fun e W' ⟨he, bel⟩ => ?_
  subst he
  exact ⟨_, rfl, _, _, _, [], _, [], hW', trodAll_mk1 (shut_bool Tryd.underlying4 _), (trodAll_cons_mk (shut_arr_ints (n := 64) ⟨Tryd.underlying22, by kernel_rfl, by kernel_rfl, by kernel_rfl⟩ (by kernel_rfl) hn0 wf0) trodAll_mk0), rfl, bel.frame _, fun h => by cases h⟩
theorem over : Rows.fnBdBytesRow.holds Tryd.pinned (OpenSpec.ofChange Rows.fnBdBytesSpec) :=
  OpenClaim.holds_of_wide 5 Tryd.f5 rfl rfl rfl rfl rfl rfl rfl ⟨rfl, rfl, rfl, rfl, rfl⟩ rfl rfl rfl rfl rfl (by kernel_rfl) Tryd.func5 (by kernel_rfl)
    (of_decide_eq_true (by kernel_rfl)) (by unfold Func.isWrapper; first | (rw [if_pos (by decide +kernel)]; kernel_rfl) | (rw [if_neg (by decide +kernel)]; exact ⟨rfl, rfl⟩))
    (fun os started H enc _ => lifted os started H enc)
end Go.Proofs.YtndnmepapmnnlaaDoor.fnBdBytes
namespace Go.Proofs.YtndnmepapmnnlaaDoor
open Go
set_option maxRecDepth 100000
/-- The tied card. -/
theorem fnBdBytes_holds : Rows.FnBdBytesCardSaid :=
  Claim7.holds_tied_plain_at .later [] [.data] true (true, "abbc71c2669ef199aa29e6b4009f9073bbdeaad88b9e6ac19be18495bd105839") false
    fnBdBytes.over (fun _ h => by cases h) (by kernel_rfl) (fun _ h => by cases h) fnBdBytes_row_tie rfl ⟨rfl, rfl⟩ (by kernel_rfl) rfl
    (fun f fn hf hfn => by
      obtain rfl : f = 5 := Option.some.inj ((show Tryd.prog.funcNamed "pub-fianchetto/laws.FnBdBytes" = some 5 by kernel_rfl).symm.trans hf) |>.symm
      obtain rfl : fn = Tryd.f5 := (Option.some.inj (Tryd.func5.symm.trans hfn)).symm
      exact ⟨by kernel_rfl, fun j t ht => by
        rw [Tryd.params5] at ht
        have hm : t ∈ [22] := by simpa using Array.mem_of_getElem? ht
        have hall : ([22].all fun u => !Tryd.prog.wantsStandIn u) = true := by kernel_rfl
        exact (show Tryd.prog.wantsStandIn t = false by simpa using List.all_eq_true.1 hall t hm)⟩)
    (by kernel_rfl)
#print axioms fnBdBytes_holds
end Go.Proofs.YtndnmepapmnnlaaDoor
