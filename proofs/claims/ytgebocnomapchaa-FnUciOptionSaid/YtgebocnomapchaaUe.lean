/- FnUciOption: what an engine tells of an option: the package's reading. -/
import Derived.Test.YtgebocnomapchaaUo
namespace Go.Proofs.Ytgebocnomapchaa
open Go Go.RowKit
set_option maxHeartbeats 4000000
set_option linter.unusedSimpArgs false
set_option linter.unusedVariables false
set_option maxRecDepth 100000

def wNoType : List UInt8 := [110, 111, 116, 121, 112, 101]
theorem ue_new (s : ByteArray) (w : World) :
    Calls Try.prog 35 #[.string s] w fun e w' => (∃ u v, e = .returned (.iface u v)) ∧ Below w.heap.size w w' := by
  go_enter Try.func35, Try.ntmps35
  go_wp2
  go_ret
  exact ⟨⟨_, _, rfl⟩, (Below.refl _ _).alloc (Nat.le_refl _) _⟩
def optTypesV : Array Value := #[.string (bs [99, 104, 101, 99, 107]), .string (bs [115, 112, 105, 110]), .string (bs [99, 111, 109, 98, 111]), .string (bs [98, 117, 116, 116, 111, 110]), .string (bs [115, 116, 114, 105, 110, 103])]
theorem ue_type (s : List UInt8) (w : World) (hl : s.length ≤ 1000) :
    Calls Try.prog 36 #[.string (bs s)] w fun e w' => Below w.heap.size w w' ∧
      ((s ∈ optTypes ∧ e = .returned (.tuple #[.string (bs s), Value.nilIface])) ∨ (s ∉ optTypes ∧ ∃ u v, e = .returned (.tuple #[.string (bs wNoType), .iface u v]))) := by
  have hlist : ∀ r : List UInt8, (bs r).toList = r := bs_list
  go_enter Try.func36, Try.ntmps36
  go_wp2_with fail
  go_loop [8] (fun i => ∃ k : Nat, k ≤ 5 ∧ i = .int .i64 (k : Int) ∧ ∀ j, j < k → optTypes.getD j [] ≠ s) (fun i => (5 - (intOf i).toNat))
  case atStart => exact ⟨0, by omega, rfl, fun j hj => by omega⟩
  case round =>
    obtain ⟨k, hk, rfl, hno⟩ := hrel
    by_cases hlt : k < 5
    · have hc : k = 0 ∨ k = 1 ∨ k = 2 ∨ k = 3 ∨ k = 4 := by omega
      rcases hc with rfl | rfl | rfl | rfl | rfl
      · by_cases hs : s = [99, 104, 101, 99, 107]
        · subst hs
          go_wp2_with fail
          go_ret2
          exact ⟨(Below.refl _ _).alloc (Nat.le_refl _) _, Or.inl ⟨by simp [optTypes], rfl⟩⟩
        · have hf : ([99, 104, 101, 99, 107] == s) = false := by simp; intro h; exact hs h.symm
          go_wp2_with fail
          go_round
          case rel => exact ⟨1, by omega, by go_num, fun j hj => by
            by_cases e : j = 0
            · subst e; exact fun h => hs h.symm
            · exact hno j (by omega)⟩
          case measure => simp [intOf]
      · by_cases hs : s = [115, 112, 105, 110]
        · subst hs
          go_wp2_with fail
          go_ret2
          exact ⟨(Below.refl _ _).alloc (Nat.le_refl _) _, Or.inl ⟨by simp [optTypes], rfl⟩⟩
        · have hf : ([115, 112, 105, 110] == s) = false := by simp; intro h; exact hs h.symm
          go_wp2_with fail
          go_round
          case rel => exact ⟨2, by omega, by go_num, fun j hj => by
            by_cases e : j = 1
            · subst e; exact fun h => hs h.symm
            · exact hno j (by omega)⟩
          case measure => simp [intOf]
      · by_cases hs : s = [99, 111, 109, 98, 111]
        · subst hs
          go_wp2_with fail
          go_ret2
          exact ⟨(Below.refl _ _).alloc (Nat.le_refl _) _, Or.inl ⟨by simp [optTypes], rfl⟩⟩
        · have hf : ([99, 111, 109, 98, 111] == s) = false := by simp; intro h; exact hs h.symm
          go_wp2_with fail
          go_round
          case rel => exact ⟨3, by omega, by go_num, fun j hj => by
            by_cases e : j = 2
            · subst e; exact fun h => hs h.symm
            · exact hno j (by omega)⟩
          case measure => simp [intOf]
      · by_cases hs : s = [98, 117, 116, 116, 111, 110]
        · subst hs
          go_wp2_with fail
          go_ret2
          exact ⟨(Below.refl _ _).alloc (Nat.le_refl _) _, Or.inl ⟨by simp [optTypes], rfl⟩⟩
        · have hf : ([98, 117, 116, 116, 111, 110] == s) = false := by simp; intro h; exact hs h.symm
          go_wp2_with fail
          go_round
          case rel => exact ⟨4, by omega, by go_num, fun j hj => by
            by_cases e : j = 3
            · subst e; exact fun h => hs h.symm
            · exact hno j (by omega)⟩
          case measure => simp [intOf]
      · by_cases hs : s = [115, 116, 114, 105, 110, 103]
        · subst hs
          go_wp2_with fail
          go_ret2
          exact ⟨(Below.refl _ _).alloc (Nat.le_refl _) _, Or.inl ⟨by simp [optTypes], rfl⟩⟩
        · have hf : ([115, 116, 114, 105, 110, 103] == s) = false := by simp; intro h; exact hs h.symm
          go_wp2_with fail
          go_round
          case rel => exact ⟨5, by omega, by go_num, fun j hj => by
            by_cases e : j = 4
            · subst e; exact fun h => hs h.symm
            · exact hno j (by omega)⟩
          case measure => simp [intOf]
    · obtain rfl : k = 5 := by omega
      have hn : s ∉ optTypes := by
        intro h
        simp only [optTypes, List.mem_cons, List.not_mem_nil, or_false] at h
        rcases h with h | h | h | h | h
        · exact hno 0 (by omega) h.symm
        · exact hno 1 (by omega) h.symm
        · exact hno 2 (by omega) h.symm
        · exact hno 3 (by omega) h.symm
        · exact hno 4 (by omega) h.symm
      have hsz : (bs s).size ≤ 1000 := by rw [bs_size]; exact hl
      go_wp2_with fail
      refine (ue_new _ _).mono ?_
      rintro e w1 ⟨⟨u, v, rfl⟩, q1⟩
      go_wp2_with fail
      go_ret2
      exact ⟨((Below.refl _ _).alloc (Nat.le_refl _) _).trans (q1.mono (by simp)), Or.inr ⟨hn, _, _, rfl⟩⟩
end Go.Proofs.Ytgebocnomapchaa
