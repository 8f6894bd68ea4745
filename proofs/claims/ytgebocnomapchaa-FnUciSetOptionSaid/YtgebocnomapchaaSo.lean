/- The command that sets an option is the reference's text, for every name and every value. No further condition. -/
import Derived.Test.YtgebocnomapchaaProg
import Derived.WalkKit
import Derived.Below
import Derived.WalkLawsBesides
import Derived.WalkSpells
namespace Go.Proofs.Ytgebocnomapchaa
open Go.RowKit
set_option maxHeartbeats 400000

/-- The text of the command. -/
def soText (a b : ByteArray) : ByteArray := ((⟨#[115, 101, 116, 111, 112, 116, 105, 111, 110, 32, 110, 97, 109, 101, 32]⟩ ++ a) ++ ⟨#[32, 118, 97, 108, 117, 101, 32]⟩) ++ b

theorem so_string (a b : ByteArray) (w : World) (ha : a.size ≤ 400) (hb : b.size ≤ 400) :
    Calls Try.prog 19 #[.agg #[.string a, .string b]] w fun e w' => e = .returned (.string (soText a b)) ∧ Below w.heap.size w w' := by
  unfold soText
  go_enter Try.func19, Try.ntmps19
  go_wp2
  go_ret
  exact ⟨rfl, (Below.refl _ _).alloc (Nat.le_refl _) _⟩

theorem so_impl (a b : ByteArray) (w : World) (ha : a.size ≤ 400) (hb : b.size ≤ 400) :
    Calls Try.prog 8 #[.string a, .string b] w fun e w' => e = .returned (.string (soText a b)) ∧ Below w.heap.size w w' := by
  go_enter Try.func8, Try.ntmps8
  go_wp2_with (go_at_call 19; refine (so_string a b _ ha hb).mono ?_; rintro e w' ⟨rfl, hw⟩)
  go_ret
  exact ⟨rfl, hw⟩

theorem so_spec (a b : ByteArray) (w : World) (ha : a.size ≤ 400) (hb : b.size ≤ 400) :
    Calls Try.prog 9 #[.string a, .string b] w fun e w' => e = .returned (.string (soText a b)) ∧ w = w' := by
  unfold soText
  go_enter Try.func9, Try.ntmps9
  go_wp2
  go_ret
  exact ⟨rfl, rfl⟩

theorem so_law (a b : ByteArray) (_wa : a.size ≤ 140737488351232) (_wb : b.size ≤ 140737488351232) (w : World) :
    Calls Try.prog 3 #[.string a, .string b] w fun e w' => e = .returned (.bool true) ∧ Below w.heap.size w w' := by
  by_cases h1 : 2147483647 < a.size
  · go_enter Try.func3, Try.ntmps3
    go_wp2
    go_ret
    exact ⟨rfl, Below.refl _ _⟩
  by_cases h2 : 2147483647 < b.size
  · go_enter Try.func3, Try.ntmps3
    go_wp2
    go_ret
    exact ⟨rfl, Below.refl _ _⟩
  by_cases h3 : 400 < a.size
  · go_enter Try.func3, Try.ntmps3
    go_wp2
    go_ret
    exact ⟨rfl, Below.refl _ _⟩
  by_cases h4 : 400 < b.size
  · go_enter Try.func3, Try.ntmps3
    go_wp2
    go_ret
    exact ⟨rfl, Below.refl _ _⟩
  go_enter Try.func3, Try.ntmps3
  go_wp2_with (first | (go_at_call 8; refine (so_impl a b _ (by omega) (by omega)).mono ?_; rintro e w' ⟨rfl, hw⟩) | (go_at_call 9; refine (so_spec a b _ (by omega) (by omega)).mono ?_; rintro e w' ⟨rfl, rfl⟩))
  go_ret
  exact ⟨by simp, hw⟩
end Go.Proofs.Ytgebocnomapchaa
