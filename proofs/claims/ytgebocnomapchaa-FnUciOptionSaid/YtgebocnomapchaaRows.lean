/-
  No cell of these rows narrows 'for every input' (looked for: loops, veiled, ifaces, maps, wideKeys, modest, calm, conditions, laid).
  DERIVED. THE GIVEN ROWS OF THIS SEAT. 5 by the template 'for every input the law returns true; each argument reads behind the call as it read before'; 0 by the template 'total and deterministic' (their statements: YtgebocnomapchaaTotals.lean).
  GIVEN WITH THE SEED: the statements are not yours to turn. If you find one false, say at which input.
  Laid BY PROGRAM, IN A SANDBOX (cutbox-rows.mjs): the forced cells as the released guide's own fill.sh prints them over the translation 5071b1f3158777f8… (all of the seat's roots in one cut). By AI agents, Wed Nov 11 2026. No macro, syntax, notation, axiom, sorry.
-/
import Derived.Test.YtgebocnomapchaaChecked
import GoSem.Claim
import GoSem.ClaimJoined
import GoSem.ClaimMapViews
import Derived.JoinedTies
import Derived.KernelRfl
namespace Go.Proofs.Ytgebocnomapchaa
/- THE CELL 'sum', in the pinned program and in every row, IS THE sha256 OF THE DUMP (.gsa) THAT YtgebocnomapchaaProg.lean LOADS. Nothing in Lean hashes anything: it is a label: what it is worth is what the hold of that sum in a sandbox is worth. -/
noncomputable def Try.pinned : Pinned := { name := "ytgebocnomapchaa", sum := "5071b1f3158777f86abeb6cac77c8c75568d4564ace8327e9214fff50f9741ed", checked := Try.checked }
namespace Rows
def none {H : Type} : Left H := { results := [], args := [] }

/-- 'laws.FnUciSetOption': WHATEVER THE INPUT: true; the input reads as it did. -/
def fnUciSetOptionSpec : ChangeSpec := { name := "fnUciSetOption", fn := fun _ => fun
  | [d1, d2] => { results := [.lit (.bool true)], args := [d1, d2] }
  | _ => none }
def fnUciSetOptionRow : OpenClaim := { program := "ytgebocnomapchaa", sum := "5071b1f3158777f86abeb6cac77c8c75568d4564ace8327e9214fff50f9741ed", func := "pub-fianchetto/laws.FnUciSetOption", spec := "fnUciSetOption", apart := false }
def FnUciSetOptionSaid : Prop := fnUciSetOptionRow.holds Try.pinned (OpenSpec.ofChange fnUciSetOptionSpec)

/-- ITS FALSE NEIGHBOUR: 'it returns false'. Refute it at one input. -/
def fnUciSetOptionWrong : ChangeSpec := { name := "fnUciSetOption", fn := fun _ => fun
  | [d1, d2] => { results := [.lit (.bool false)], args := [d1, d2] }
  | _ => none }
def FnUciSetOptionWrongFalsely : Prop := fnUciSetOptionRow.holds Try.pinned (OpenSpec.ofChange fnUciSetOptionWrong)

/-- 'laws.FnNmNamed': WHATEVER THE INPUT: true; the input reads as it did. -/
def fnNmNamedSpec : ChangeSpec := { name := "fnNmNamed", fn := fun _ => fun
  | [d] => { results := [.lit (.bool true)], args := [d] }
  | _ => none }
def fnNmNamedRow : OpenClaim := { program := "ytgebocnomapchaa", sum := "5071b1f3158777f86abeb6cac77c8c75568d4564ace8327e9214fff50f9741ed", func := "pub-fianchetto/laws.FnNmNamed", spec := "fnNmNamed", apart := false }
def FnNmNamedSaid : Prop := fnNmNamedRow.holds Try.pinned (OpenSpec.ofChange fnNmNamedSpec)

/-- ITS FALSE NEIGHBOUR: 'it returns false'. Refute it at one input. -/
def fnNmNamedWrong : ChangeSpec := { name := "fnNmNamed", fn := fun _ => fun
  | [d] => { results := [.lit (.bool false)], args := [d] }
  | _ => none }
def FnNmNamedWrongFalsely : Prop := fnNmNamedRow.holds Try.pinned (OpenSpec.ofChange fnNmNamedWrong)

/-- 'laws.FnPoDecode': WHATEVER THE INPUT: true; the input reads as it did. -/
def fnPoDecodeSpec : ChangeSpec := { name := "fnPoDecode", fn := fun _ => fun
  | [d] => { results := [.lit (.bool true)], args := [d] }
  | _ => none }
def fnPoDecodeRow : OpenClaim := { program := "ytgebocnomapchaa", sum := "5071b1f3158777f86abeb6cac77c8c75568d4564ace8327e9214fff50f9741ed", func := "pub-fianchetto/laws.FnPoDecode", spec := "fnPoDecode", apart := false }
def FnPoDecodeSaid : Prop := fnPoDecodeRow.holds Try.pinned (OpenSpec.ofChange fnPoDecodeSpec)

/-- ITS FALSE NEIGHBOUR: 'it returns false'. Refute it at one input. -/
def fnPoDecodeWrong : ChangeSpec := { name := "fnPoDecode", fn := fun _ => fun
  | [d] => { results := [.lit (.bool false)], args := [d] }
  | _ => none }
def FnPoDecodeWrongFalsely : Prop := fnPoDecodeRow.holds Try.pinned (OpenSpec.ofChange fnPoDecodeWrong)

/-- 'laws.FnBiDraw': WHATEVER THE INPUT: true; the input reads as it did. -/
def fnBiDrawSpec : ChangeSpec := { name := "fnBiDraw", fn := fun _ => fun
  | [d1, d2] => { results := [.lit (.bool true)], args := [d1, d2] }
  | _ => none }
def fnBiDrawRow : OpenClaim := { program := "ytgebocnomapchaa", sum := "5071b1f3158777f86abeb6cac77c8c75568d4564ace8327e9214fff50f9741ed", func := "pub-fianchetto/laws.FnBiDraw", spec := "fnBiDraw", unfollowed := true, recurses := true, apart := false }
def FnBiDrawSaid : Prop := fnBiDrawRow.holds Try.pinned (OpenSpec.ofChange fnBiDrawSpec)

/-- ITS FALSE NEIGHBOUR: 'it returns false'. Refute it at one input. -/
def fnBiDrawWrong : ChangeSpec := { name := "fnBiDraw", fn := fun _ => fun
  | [d1, d2] => { results := [.lit (.bool false)], args := [d1, d2] }
  | _ => none }
def FnBiDrawWrongFalsely : Prop := fnBiDrawRow.holds Try.pinned (OpenSpec.ofChange fnBiDrawWrong)

/-- 'laws.FnUciOption': WHATEVER THE INPUT: true; the input reads as it did. -/
def fnUciOptionSpec : ChangeSpec := { name := "fnUciOption", fn := fun _ => fun
  | [d] => { results := [.lit (.bool true)], args := [d] }
  | _ => none }
def fnUciOptionRow : OpenClaim := { program := "ytgebocnomapchaa", sum := "5071b1f3158777f86abeb6cac77c8c75568d4564ace8327e9214fff50f9741ed", func := "pub-fianchetto/laws.FnUciOption", spec := "fnUciOption", unfollowed := true, recurses := true, apart := false }
def FnUciOptionSaid : Prop := fnUciOptionRow.holds Try.pinned (OpenSpec.ofChange fnUciOptionSpec)

/-- ITS FALSE NEIGHBOUR: 'it returns false'. Refute it at one input. -/
def fnUciOptionWrong : ChangeSpec := { name := "fnUciOption", fn := fun _ => fun
  | [d] => { results := [.lit (.bool false)], args := [d] }
  | _ => none }
def FnUciOptionWrongFalsely : Prop := fnUciOptionRow.holds Try.pinned (OpenSpec.ofChange fnUciOptionWrong)

/- THE SECOND FORM. 'bulk': how many values and letters a reading holds, each counted each time it is reached (what is shared counts as often as it is met; a slice's spare places count too). A statement '..UptoSaid' is the law's where the arguments, and the package variables that the reading takes, are together of bulk at most 1048576: NARROWER than '..Said'. Prove '..Said' where nothing that the law and all that it calls make is longer than what came in: it says more and counts as full. Else prove '..UptoSaid'. A law counts once. -/
mutual
def uptoBulk {H : Type} : DataW H → Nat
  | .lit (.string bytes) => bytes.length + 1
  | .lit _ => 1
  | .nil => 1
  | .ptr d => uptoBulk d + 1
  | .slice elems spare => uptoBulkAll elems + uptoBulkAll spare + 1
  | .agg parts => uptoBulkAll parts + 1
  | .iface _ d => uptoBulk d + 1
  | .map entries => uptoBulkEntries entries + 1
  | .held _ => 1
def uptoBulkAll {H : Type} : List (DataW H) → Nat
  | [] => 0
  | d :: r => uptoBulk d + uptoBulkAll r
def uptoBulkEntries {H : Type} : List (Lit × DataW H) → Nat
  | [] => 0
  | x :: r => uptoBulkEntry x + uptoBulkEntries r
def uptoBulkEntry {H : Type} : Lit × DataW H → Nat
  | (.string bytes, d) => bytes.length + uptoBulk d + 1
  | (_, d) => uptoBulk d + 1
 end
def uptoSmall : (H : Type) → List (DataW H) → Bool := fun _ ds => decide (uptoBulkAll ds ≤ 1048576)
def OpenSpec.upto (s : _root_.Go.ChangeSpec) : _root_.Go.OpenSpec := { _root_.Go.OpenSpec.ofChange s with cond := some uptoSmall }

/-- 'laws.FnUciSetOption', WHERE WHAT IT READS IS OF BULK AT MOST 1048576: true; the input reads as it did. -/
def fnUciSetOptionUptoRow : OpenClaim := { program := "ytgebocnomapchaa", sum := "5071b1f3158777f86abeb6cac77c8c75568d4564ace8327e9214fff50f9741ed", func := "pub-fianchetto/laws.FnUciSetOption", spec := "fnUciSetOption", apart := false, narrowed := true }
def FnUciSetOptionUptoSaid : Prop := fnUciSetOptionUptoRow.holds Try.pinned (OpenSpec.upto fnUciSetOptionSpec)

/-- 'laws.FnNmNamed', WHERE WHAT IT READS IS OF BULK AT MOST 1048576: true; the input reads as it did. -/
def fnNmNamedUptoRow : OpenClaim := { program := "ytgebocnomapchaa", sum := "5071b1f3158777f86abeb6cac77c8c75568d4564ace8327e9214fff50f9741ed", func := "pub-fianchetto/laws.FnNmNamed", spec := "fnNmNamed", apart := false, narrowed := true }
def FnNmNamedUptoSaid : Prop := fnNmNamedUptoRow.holds Try.pinned (OpenSpec.upto fnNmNamedSpec)

/-- 'laws.FnPoDecode', WHERE WHAT IT READS IS OF BULK AT MOST 1048576: true; the input reads as it did. -/
def fnPoDecodeUptoRow : OpenClaim := { program := "ytgebocnomapchaa", sum := "5071b1f3158777f86abeb6cac77c8c75568d4564ace8327e9214fff50f9741ed", func := "pub-fianchetto/laws.FnPoDecode", spec := "fnPoDecode", apart := false, narrowed := true }
def FnPoDecodeUptoSaid : Prop := fnPoDecodeUptoRow.holds Try.pinned (OpenSpec.upto fnPoDecodeSpec)

/-- 'laws.FnBiDraw', WHERE WHAT IT READS IS OF BULK AT MOST 1048576: true; the input reads as it did. -/
def fnBiDrawUptoRow : OpenClaim := { program := "ytgebocnomapchaa", sum := "5071b1f3158777f86abeb6cac77c8c75568d4564ace8327e9214fff50f9741ed", func := "pub-fianchetto/laws.FnBiDraw", spec := "fnBiDraw", unfollowed := true, recurses := true, apart := false, narrowed := true }
def FnBiDrawUptoSaid : Prop := fnBiDrawUptoRow.holds Try.pinned (OpenSpec.upto fnBiDrawSpec)

/-- 'laws.FnUciOption', WHERE WHAT IT READS IS OF BULK AT MOST 1048576: true; the input reads as it did. -/
def fnUciOptionUptoRow : OpenClaim := { program := "ytgebocnomapchaa", sum := "5071b1f3158777f86abeb6cac77c8c75568d4564ace8327e9214fff50f9741ed", func := "pub-fianchetto/laws.FnUciOption", spec := "fnUciOption", unfollowed := true, recurses := true, apart := false, narrowed := true }
def FnUciOptionUptoSaid : Prop := fnUciOptionUptoRow.holds Try.pinned (OpenSpec.upto fnUciOptionSpec)

end Rows
end Go.Proofs.Ytgebocnomapchaa
