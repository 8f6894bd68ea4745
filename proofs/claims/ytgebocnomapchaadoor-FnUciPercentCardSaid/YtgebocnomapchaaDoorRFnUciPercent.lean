/- FnUciPercent: the row and its tied card, out of the walk in YtgebocnomapchaaDoorUp. No condition beyond the row's own. -/
import Derived.Test.YtgebocnomapchaaDoorRows
import Derived.Test.YtgebocnomapchaaDoorCards
import Derived.Test.YtgebocnomapchaaDoorTie
import Derived.Test.YtgebocnomapchaaDoorUp
import Derived.WalkKit
import Derived.ProofKit
import Derived.OpenShut
import Derived.ShutString
import Derived.ChangeOld
import Derived.Below
import Derived.SizedLaws
import Derived.LaidMore
import Derived.Stop.Joined
import Derived.MakeChecks
import Derived.SevenTiedAt
namespace Go.Proofs.YtgebocnomapchaaDoor.fnUciPercent
open Go Go.ChangeShapes Go.WideShapes Go.ChangeAt Go.RowKit
open Go.ChangeMaps (open_string shut_string)
set_option linter.unusedVariables false
set_option maxRecDepth 100000
theorem own : ownKnob Tryd.prog.godebug = none := by kernel_rfl
theorem door_met (os : Os) (args : Array Value) : laidMetH Tryd.prog Rows.fnUciPercentRow.laid ((World.doorLaid Tryd.prog 103 os).forCall (fun _ _ => 0) ⟨#[], args, []⟩).memory :=
  laidMetH_of_parts3 (fuel := 8) (laidMet_of_run' 8 (by kernel_rfl) (by kernel_rfl)) (by kernel_rfl) (by kernel_rfl)
theorem lifted (os : Os) (started : os.Started) (H : Type) (enc : TypeId × Value → H) :
    ReturnsInHanded {} Tryd.checked os 4 .any (fun w args => (Rows.fnUciPercentSpec.pre enc Tryd.prog Tryd.f4 [] false w args ∧ laidMetH Tryd.prog Rows.fnUciPercentRow.laid w) ∧ sizedMet enc Tryd.prog Tryd.f4 (OpenSpec.ofChange Rows.fnUciPercentSpec) false w args)
      (Rows.fnUciPercentSpec.post enc Tryd.prog Tryd.f4 false true false false) := by
  refine returnsInHanded_of_change_and (C := Tryd.checked) (X := fun w _ => laidMetH Tryd.prog Rows.fnUciPercentRow.laid w) (fun _ _ _ hh h => h.of_heap hh) own started (by kernel_rfl) Tryd.func4
    (ChangeSpec.witness_shaped (enc := enc) (C := Tryd.checked) (os := os) (X := fun w _ => laidMetH Tryd.prog Rows.fnUciPercentRow.laid w) false (World.doorLaid Tryd.prog 103 os) #[.int .i64 0, .int .i64 0, .int .i64 0] 8 rfl (World.shaped_of_RefB (by kernel_rfl) (by kernel_rfl)) (by kernel_rfl) (by kernel_rfl) (by kernel_rfl) (door_met os _)) ?_
  intro W base args ds gs before hval0 hW hcnd hsz0 hL _
  have hsz : (DataW.weightsEach Tryd.prog (Tryd.f4.params.toList ++ Rows.fnUciPercentSpec.plain.varTypes Tryd.prog) (ds ++ gs)).all (· ≤ reachBytes) = true := hsz0
  have hval : ∀ (j : Nat) t v, Tryd.f4.params[j]? = some t → args[j]? = some v → Value.okWide Tryd.prog W .any base t v := hval0
  have hW' := hW
  obtain ⟨p, q, hA0, hV, rfl, hfz, hnd⟩ := hW
  have hA : DataW.TrodAll enc Tryd.prog W 0 (fun _ => true) true Tryd.f4.params.toList args.toList ds p := hA0
  rw [Tryd.params4] at hA hval hsz
  obtain ⟨v0, vs0, d0, ds0, p0, q0, hargs, rfl, rfl, h0, r0⟩ := trodAll_cons hA
  obtain ⟨v1, vs1, d1, ds1, p1, q1, rfl, rfl, rfl, h1, r1⟩ := trodAll_cons r0
  obtain ⟨v2, vs2, d2, ds2, p2, q2, rfl, rfl, rfl, h2, r2⟩ := trodAll_cons r1
  obtain ⟨rfl, rfl, rfl⟩ := trodAll_nil r2
  obtain rfl : args = #[v0, v1, v2] := by cases args; simp_all
  obtain ⟨rfl, rfl⟩ := trodVars_none hV
  obtain ⟨a0, rfl, rfl, rfl, wf0⟩ := open_int Tryd.underlying3 (hval 0 3 v0 rfl rfl) h0
  obtain ⟨a1, rfl, rfl, rfl, wf1⟩ := open_int Tryd.underlying3 (hval 1 3 v1 rfl rfl) h1
  obtain ⟨a2, rfl, rfl, rfl, wf2⟩ := open_int Tryd.underlying3 (hval 2 3 v2 rfl rfl) h2
  have hL' : laidMet Tryd.prog Rows.fnUciPercentRow.laid W := by
    have hL1 := hL
    rw [MakeChecks.laidMetH_plain _ _ _ (by kernel_rfl)] at hL1
    exact hL1
  have G0 := errVar_of_laid (l := Rows.fnUciPercentRow.laid) (n := "pub-fianchetto/pub/chess/uci.missingWdlErr") (g := 2) (t := 59) (ms := Tryd.prog.methodsAt 59) hL' (List.mem_of_getElem? (i := 0) (by rfl)) (by kernel_rfl) (by kernel_rfl) (by kernel_rfl)
  clear hA0 hval0 hsz0 hsz
  refine (up_law a0 a1 a2 (bounds_i64 wf0).1 (bounds_i64 wf0).2 (bounds_i64 wf1).1 (bounds_i64 wf1).2 (bounds_i64 wf2).1 (bounds_i64 wf2).2 W G0).mono fun e W' ⟨he, bel⟩ => ?_
  subst he
  exact ⟨_, rfl, _, _, _, [], _, [], hW', trodAll_mk1 (shut_bool Tryd.underlying4 _), (trodAll_cons_mk (shut_int Tryd.underlying3 wf0) (trodAll_cons_mk (shut_int Tryd.underlying3 wf1) (trodAll_cons_mk (shut_int Tryd.underlying3 wf2) trodAll_mk0))), rfl, bel.frame _, fun h => by cases h⟩
theorem over : Rows.fnUciPercentRow.holds Tryd.pinned (OpenSpec.ofChange Rows.fnUciPercentSpec) :=
  OpenClaim.holds_of_wide 4 Tryd.f4 rfl rfl rfl rfl rfl rfl rfl ⟨rfl, rfl, rfl, rfl, rfl⟩ rfl rfl rfl rfl rfl (by kernel_rfl) Tryd.func4 (by kernel_rfl)
    (of_decide_eq_true (by kernel_rfl)) (by unfold Func.isWrapper; first | (rw [if_pos (by decide +kernel)]; kernel_rfl) | (rw [if_neg (by decide +kernel)]; exact ⟨rfl, rfl⟩))
    (fun os started H enc _ => lifted os started H enc)
end Go.Proofs.YtgebocnomapchaaDoor.fnUciPercent
namespace Go.Proofs.YtgebocnomapchaaDoor
open Go
set_option maxRecDepth 100000
/-- The tied card. -/
theorem fnUciPercent_holds : Rows.FnUciPercentCardSaid :=
  Claim7.holds_tied_plain_at .later [] [.sentinel] true (true, "e432ee2c842eb08e96e15b5c74ce5f95c523c3fac02726d30bad39c1c8b80b27") false
    fnUciPercent.over (fun _ h => by cases h) (by kernel_rfl) (fun _ h => by cases h) fnUciPercent_row_tie rfl ⟨rfl, rfl⟩ (by kernel_rfl) rfl
    (fun f fn hf hfn => by
      obtain rfl : f = 4 := Option.some.inj ((show Tryd.prog.funcNamed "pub-fianchetto/laws.FnUciPercent" = some 4 by kernel_rfl).symm.trans hf) |>.symm
      obtain rfl : fn = Tryd.f4 := (Option.some.inj (Tryd.func4.symm.trans hfn)).symm
      exact ⟨by kernel_rfl, fun j t ht => by
        rw [Tryd.params4] at ht
        have hm : t ∈ [3, 3, 3] := by simpa using Array.mem_of_getElem? ht
        have hall : ([3, 3, 3].all fun u => !Tryd.prog.wantsStandIn u) = true := by kernel_rfl
        exact (show Tryd.prog.wantsStandIn t = false by simpa using List.all_eq_true.1 hall t hm)⟩)
    (by kernel_rfl)
#print axioms fnUciPercent_holds
end Go.Proofs.YtgebocnomapchaaDoor
